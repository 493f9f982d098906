import PyProof.Rows.All
import Wide.All
import OpenK.AllK
import Wide.FinOn
import PySem.Builtin.Sre.Common
import KE.KIntText
import PyProof.AttrMissHeap
import PyProof.FactsAll.list_3
import PySem.Challenge.RW_ff5031_01
set_option Elab.async false
set_option linter.all false
set_option rowWalk.seconds 0
-- part ReEng
section
open PySem PySem.Sre
namespace Mine
open PySem.Sre.M
/-- from m to m' in at most b steps -/
def Go (b : Nat) (m m' : M) : Prop := ∃ n, n ≤ b ∧ ∀ k, runFor (n + k) m = runFor k m'
theorem Go.refl (m : M) : Go 0 m m := ⟨0, Nat.le_refl _, fun k => by rw [Nat.zero_add]⟩
theorem Go.mono {b b' : Nat} {m m' : M} (h : Go b m m') (hb : b ≤ b') : Go b' m m' := let ⟨n, hn, e⟩ := h; ⟨n, Nat.le_trans hn hb, e⟩
theorem Go.trans {a b : Nat} {m m' m'' : M} (h : Go a m m') (h' : Go b m' m'') : Go (a + b) m m'' := by
  obtain ⟨n, hn, e⟩ := h
  obtain ⟨n', hn', e'⟩ := h'
  exact ⟨n + n', Nat.add_le_add hn hn', fun k => by rw [Nat.add_assoc, e, e']⟩
theorem Go.step {m m' : M} (ho : m.outcome = none) (e : m.step = m') : Go 1 m m' :=
  ⟨1, Nat.le_refl _, fun k => by rw [Nat.add_comm, runFor, ho]; simp only [Option.isSome_none, Bool.false_eq_true, if_false]; rw [e]⟩
theorem Go.head {b : Nat} {m m' m'' : M} (ho : m.outcome = none) (e : m.step = m') (h : Go b m' m'') : Go (1 + b) m m'' := (Go.step ho e).trans h
theorem runFor_done {m : M} (h : m.outcome.isSome = true) : ∀ k, runFor k m = m
  | 0 => rfl
  | k + 1 => by rw [runFor, if_pos h]
theorem step_exec {m : M} (ho : m.outcome = none) (ha : m.answer = none) (hp : m.pc < m.code.size) : m.step = m.exec := by
  unfold M.step
  rw [ho, ha]
  simp only [Option.isSome_none, Bool.false_eq_true, if_false, if_pos hp]
theorem step_resume {m : M} {yes : Bool} {f : Sre.Frame} {rest : List Sre.Frame} (ho : m.outcome = none) (ha : m.answer = some yes) (hf : m.frames = f :: rest) :
    m.step = resume { m with answer := none, frames := rest, weight := m.weight - (1 + f.kept.marks.size), pc := f.pc, pos := f.pos, outermost := f.outermost } f yes := by
  unfold M.step
  rw [ho, ha, hf]
  simp only [Option.isSome_none, Bool.false_eq_true, if_false]
theorem step_end {m : M} {yes : Bool} (ho : m.outcome = none) (ha : m.answer = some yes) (hf : m.frames = []) : m.step = { m with outcome := some (if yes then .matched else .failed) } := by
  unfold M.step
  rw [ho, ha, hf]
  simp only [Option.isSome_none, Bool.false_eq_true, if_false]
section
variable {m : M}
theorem exec_MARK {i : Nat} (h0 : m.code.getD m.pc 0 = 17) (h1 : m.code.getD (m.pc + 1) 0 = i) : m.exec = ({ m with seen := m.seen.add 17 } : M).mark i := by
  have e : ops[17]? = some Op.MARK := rfl
  unfold M.exec M.word
  simp only [Nat.add_zero, h0, e, h1]
theorem exec_JUMP {i : Nat} (h0 : m.code.getD m.pc 0 = 15) (h1 : m.code.getD (m.pc + 1) 0 = i) : m.exec = { m with seen := m.seen.add 15, pc := m.pc + 1 + i } := by
  have e : ops[15]? = some Op.JUMP := rfl
  unfold M.exec M.word
  simp only [Nat.add_zero, h0, e, h1]
theorem exec_BRANCH (h0 : m.code.getD m.pc 0 = 7) : m.exec = ({ m with seen := m.seen.add 7 } : M).alternative (m.pc + 1) (({ m with seen := m.seen.add 7 } : M).keep m.inner.isSome) := by
  have e : ops[7]? = some Op.BRANCH := rfl
  unfold M.exec M.word
  simp only [Nat.add_zero, h0, e]
theorem exec_SUCCESS (h0 : m.code.getD m.pc 0 = 1) (hw : m.wholeText = false) (ha : m.mustAdvance = false) : m.exec = ({ m with seen := m.seen.add 1, handed := m.pos } : M).say true := by
  have e : ops[1]? = some Op.SUCCESS := rfl
  unfold M.exec M.word
  simp only [Nat.add_zero, h0, e, hw, ha, Bool.false_and, Bool.or_false, Bool.and_false, Bool.false_eq_true, if_false]
theorem exec_IN_end (h0 : m.code.getD m.pc 0 = 13) (hl : m.pos ≥ m.lim) : m.exec = ({ m with seen := m.seen.add 13 } : M).say false := by
  have e : ops[13]? = some Op.IN := rfl
  unfold M.exec M.word
  simp only [Nat.add_zero, h0, e, if_pos hl]
theorem exec_IN_no {seen' : Seen} (h0 : m.code.getD m.pc 0 = 13) (hl : m.pos < m.lim) (hc : accepts m.code m.pc (m.text.getD m.pos 0) (m.seen.add 13) = .ok (false, seen')) : m.exec = ({ m with seen := seen' } : M).say false := by
  have e : ops[13]? = some Op.IN := rfl
  unfold M.exec M.word
  simp only [Nat.add_zero, h0, e, if_neg (Nat.not_le.mpr hl), hc]
theorem exec_IN_yes {seen' : Seen} (h0 : m.code.getD m.pc 0 = 13) (hl : m.pos < m.lim) (hc : accepts m.code m.pc (m.text.getD m.pos 0) (m.seen.add 13) = .ok (true, seen')) : m.exec = { m with seen := seen', pc := m.pc + itemWidth m.code m.pc, pos := m.pos + 1 } := by
  have e : ops[13]? = some Op.IN := rfl
  unfold M.exec M.word
  simp only [Nat.add_zero, h0, e, if_neg (Nat.not_le.mpr hl), hc]
theorem exec_AT {k : Nat} (h0 : m.code.getD m.pc 0 = 6) (h1 : m.code.getD (m.pc + 1) 0 = k) (hc : ({ m with seen := m.seen.add 6 } : M).isAt k = .ok true) : m.exec = { m with seen := (m.seen.add 6).add (43 + k), pc := m.pc + 2 } := by
  have e : ops[6]? = some Op.AT := rfl
  unfold M.exec M.word
  simp only [Nat.add_zero, h0, e, h1, hc, if_true]
theorem exec_REPEAT_ONE {n least most i4 : Nat} {seen' : Seen} (h0 : m.code.getD m.pc 0 = 24) (h2 : m.code.getD (m.pc + 2) 0 = least) (h3 : m.code.getD (m.pc + 3) 0 = most) (h4 : m.code.getD (m.pc + 4) 0 = i4)
    (hr : ¬ (least : Int) > (m.lim : Int) - m.pos) (hc : run m.code m.text (m.pc + 4) (min most ((m.lim : Int) - m.pos).toNat) m.pos 0 ((m.seen.add 24).add i4) = .ok (n, seen')) (hn : ¬ n < least) :
    m.exec = ({ m with seen := seen', pos := m.pos + n } : M).afterRun .giveBack n (({ m with seen := seen', pos := m.pos + n } : M).keep m.inner.isSome) := by
  have e : ops[24]? = some Op.REPEAT_ONE := rfl
  unfold M.exec M.word
  simp only [Nat.add_zero, h0, e, h2, h3, h4, if_neg hr, Bool.false_eq_true, if_false, hc, if_neg hn]
end
section
variable {code : Array Nat} {c f i : Nat} {yes : Bool} {seen : Seen}
theorem inSet_FAIL (h : code.getD i 0 = 0) : inSet code c (f + 1) i yes seen = .ok (!yes, seen.add 0) := by
  have e : ops[0]? = some Op.FAILURE := rfl
  rw [inSet]
  simp only [Nat.add_zero, h, e]
theorem inSet_NEG (h : code.getD i 0 = 21) : inSet code c (f + 1) i yes seen = inSet code c f (i + 1) (!yes) (seen.add 21) := by
  have e : ops[21]? = some Op.NEGATE := rfl
  rw [inSet]
  simp only [Nat.add_zero, h, e]
theorem inSet_LIT {w : Nat} (h : code.getD i 0 = 16) (h1 : code.getD (i + 1) 0 = w) : inSet code c (f + 1) i yes seen = if c = w then .ok (yes, seen.add 16) else inSet code c f (i + 2) yes (seen.add 16) := by
  have e : ops[16]? = some Op.LITERAL := rfl
  rw [inSet]
  simp only [Nat.add_zero, h, e, h1, beq_iff_eq]
theorem inSet_RANGE {a b : Nat} (h : code.getD i 0 = 22) (h1 : code.getD (i + 1) 0 = a) (h2 : code.getD (i + 2) 0 = b) : inSet code c (f + 1) i yes seen = if a ≤ c ∧ c ≤ b then .ok (yes, seen.add 22) else inSet code c f (i + 3) yes (seen.add 22) := by
  have e : ops[22]? = some Op.RANGE := rfl
  rw [inSet]
  simp only [Nat.add_zero, h, e, h1, h2, Bool.and_eq_true, decide_eq_true_eq]
theorem inSet_CHARSET {b : Bool} (h : code.getD i 0 = 9) (h1 : (decide (c < 256) && (code.getD (i + (1 + c / 32)) 0).testBit (c % 32)) = b) : inSet code c (f + 1) i yes seen = if b = true then .ok (yes, seen.add 9) else inSet code c f (i + 9) yes (seen.add 9) := by
  have e : ops[9]? = some Op.CHARSET := rfl
  rw [inSet]
  simp only [Nat.add_zero, h, e, h1]
theorem accepts_IN {code : Array Nat} {i c : Nat} {seen : Seen} (h : code.getD i 0 = 13) : accepts code i c seen = inSet code c code.size (i + 2) true seen := by
  have e : ops[13]? = some Op.IN := rfl
  unfold accepts
  simp only [h, e]
theorem width_IN {code : Array Nat} {i : Nat} (h : code.getD i 0 = 13) : itemWidth code i = 1 + code.getD (i + 1) 0 := by
  have e : ops[13]? = some Op.IN := rfl
  unfold itemWidth
  simp only [h, e]
end
/-- the narrow text's pattern -/
def cA : Array Nat := #[14, 4, 0, 1, 1, 17, 0, 7, 10, 13, 6, 16, 92, 16, 34, 0, 15, 12, 10, 13, 6, 21, 22, 32, 126, 0, 15, 2, 0, 17, 1, 1]
/-- the wide text's pattern -/
def cW : Array Nat := #[14, 14, 4, 1, 1, 9, 4294967295, 4, 268435456, 0, 0, 0, 0, 0, 0, 13, 11, 9, 4294967295, 4, 268435456, 0, 0, 0, 0, 0, 0, 1]
/-- the reader's chunk -/
def cS : Array Nat := #[14, 4, 0, 1, 4294967295, 17, 0, 24, 17, 0, 4294967295, 13, 12, 21, 9, 4294967295, 4, 268435456, 0, 0, 0, 0, 0, 0, 1, 17, 1, 17, 2, 13, 11, 9, 4294967295, 4, 268435456, 0, 0, 0, 0, 0, 0, 17, 3, 1]
/-- four figures -/
def cH : Array Nat := #[14, 4, 0, 4, 4, 6, 0, 24, 16, 4, 4, 13, 11, 9, 0, 67043328, 126, 126, 0, 0, 0, 0, 0, 1, 6, 5, 1]
/-- a sign that stops a chunk: a control sign, a quote, a backslash -/
def stops (c : Nat) : Bool := decide (c < 32) || c == 34 || c == 92
def isHex (c : Nat) : Bool := (decide (48 ≤ c) && decide (c ≤ 57)) || (decide (65 ≤ c) && decide (c ≤ 70)) || (decide (97 ≤ c) && decide (c ≤ 102))
theorem set_big {code : Array Nat} {i c : Nat} (f : Nat → Bool) (h : ∀ c, c < 256 → (code.getD (i + (1 + c / 32)) 0).testBit (c % 32) = f c) (hb : ∀ c, 256 ≤ c → f c = false) : (decide (c < 256) && (code.getD (i + (1 + c / 32)) 0).testBit (c % 32)) = f c := by
  by_cases hc : c < 256
  · rw [decide_eq_true hc, Bool.true_and, h c hc]
  · rw [decide_eq_false hc, Bool.false_and, hb c (Nat.not_lt.mp hc)]
theorem stops_big (c : Nat) (h : 256 ≤ c) : stops c = false := by
  unfold stops
  simp; omega
theorem isHex_big (c : Nat) (h : 256 ≤ c) : isHex c = false := by
  unfold isHex
  simp; omega
theorem acc_A1 (c : Nat) (seen : Seen) : ∃ seen', accepts cA 9 c seen = .ok (decide (c = 92 ∨ c = 34), seen') := by
  rw [accepts_IN rfl, show cA.size = 29 + 1 + 1 + 1 from rfl, inSet_LIT (w := 92) rfl rfl]
  by_cases h1 : c = 92
  · exact ⟨_, by rw [if_pos h1, decide_eq_true (.inl h1)]⟩
  rw [if_neg h1, inSet_LIT (w := 34) rfl rfl]
  by_cases h2 : c = 34
  · exact ⟨_, by rw [if_pos h2, decide_eq_true (.inr h2)]⟩
  rw [if_neg h2, inSet_FAIL rfl, decide_eq_false (not_or.mpr ⟨h1, h2⟩)]
  exact ⟨_, rfl⟩
theorem acc_A2 (c : Nat) (seen : Seen) : ∃ seen', accepts cA 19 c seen = .ok (!decide (32 ≤ c ∧ c ≤ 126), seen') := by
  rw [accepts_IN rfl, show cA.size = 29 + 1 + 1 + 1 from rfl, inSet_NEG rfl, inSet_RANGE (a := 32) (b := 126) rfl rfl rfl]
  by_cases h1 : 32 ≤ c ∧ c ≤ 126
  · exact ⟨_, by rw [if_pos h1, decide_eq_true h1]⟩
  rw [if_neg h1, inSet_FAIL rfl, decide_eq_false h1]
  exact ⟨_, rfl⟩
theorem acc_W (c : Nat) (seen : Seen) : ∃ seen', accepts cW 15 c seen = .ok (stops c, seen') := by
  rw [accepts_IN rfl, show cW.size = 26 + 1 + 1 from rfl, inSet_CHARSET (b := stops c) rfl (set_big stops (by decide +kernel) stops_big)]
  cases h : stops c with
  | true => exact ⟨_, if_pos rfl⟩
  | false => exact ⟨_, by rw [if_neg (by decide), inSet_FAIL rfl]; rfl⟩
theorem set_W (c : Nat) (seen : Seen) : ∃ seen', inSet cW c cW.size 5 true seen = .ok (stops c, seen') := by
  rw [show cW.size = 26 + 1 + 1 from rfl, inSet_CHARSET (b := stops c) rfl (set_big stops (by decide +kernel) stops_big)]
  cases h : stops c with
  | true => exact ⟨_, if_pos rfl⟩
  | false => exact ⟨_, by rw [if_neg (by decide), inSet_FAIL rfl]; rfl⟩
theorem acc_S1 (c : Nat) (seen : Seen) : ∃ seen', accepts cS 11 c seen = .ok (!stops c, seen') := by
  rw [accepts_IN rfl, show cS.size = 41 + 1 + 1 + 1 from rfl, inSet_NEG rfl, inSet_CHARSET (b := stops c) rfl (set_big stops (by decide +kernel) stops_big)]
  cases h : stops c with
  | true => exact ⟨_, if_pos rfl⟩
  | false => exact ⟨_, by rw [if_neg (by decide), inSet_FAIL rfl]; rfl⟩
theorem acc_S2 (c : Nat) (seen : Seen) : ∃ seen', accepts cS 29 c seen = .ok (stops c, seen') := by
  rw [accepts_IN rfl, show cS.size = 42 + 1 + 1 from rfl, inSet_CHARSET (b := stops c) rfl (set_big stops (by decide +kernel) stops_big)]
  cases h : stops c with
  | true => exact ⟨_, if_pos rfl⟩
  | false => exact ⟨_, by rw [if_neg (by decide), inSet_FAIL rfl]; rfl⟩
theorem acc_H (c : Nat) (seen : Seen) : ∃ seen', accepts cH 11 c seen = .ok (isHex c, seen') := by
  rw [accepts_IN rfl, show cH.size = 25 + 1 + 1 from rfl, inSet_CHARSET (b := isHex c) rfl (set_big isHex (by decide +kernel) isHex_big)]
  cases h : isHex c with
  | true => exact ⟨_, if_pos rfl⟩
  | false => exact ⟨_, by rw [if_neg (by decide), inSet_FAIL rfl]; rfl⟩
end Mine
end
-- part ReA
section
open PySem PySem.Sre
namespace Mine
/-- the frame of a start -/
def fr0 (pc s : Nat) (o : Bool) : Sre.Frame := { wait := .nextStart, pc, pos := s, outermost := o }
def mA (text : Array Nat) (lim s : Nat) (o : Bool) (mk : Array (Option Nat)) (seen : Seen) : M :=
  { code := cA, text, lim, start := s, lastStart := lim, pc := 5, pos := s, handed := s, outermost := o, marks := mk, frames := [fr0 5 s o], weight := 1, seen }
def keptA : Sre.Kept := { lastmark := 0, lastindex := -1, whole := false, marks := #[] }
def frB (pc s : Nat) (o : Bool) : Sre.Frame := { wait := .nextBranch, pc, pos := s, outermost := o, kept := keptA }
/-- within the branch -/
def mB (text : Array Nat) (lim s : Nat) (o : Bool) (mk : Array (Option Nat)) (bp pc pos : Nat) (seen : Seen) : M :=
  { code := cA, text, lim, start := s, lastStart := lim, pc, pos, handed := s, outermost := o, marks := mk.setIfInBounds 0 (some s), lastmark := 0, frames := [frB bp s o, fr0 5 s o], weight := 2, seen }
/-- found -/
def mF (text : Array Nat) (lim s : Nat) (o : Bool) (mk : Array (Option Nat)) (pc : Nat) (seen : Seen) : M :=
  { code := cA, text, lim, start := s, lastStart := lim, pc, pos := s, handed := s + 1, outermost := o, marks := (mk.setIfInBounds 0 (some s)).setIfInBounds 1 (some (s + 1)), lastmark := 1, lastindex := 1, frames := [], weight := 0, seen, outcome := some .matched, answer := some true }
section
variable {text : Array Nat} {lim s : Nat} {o : Bool} {mk : Array (Option Nat)}
theorem goA_branch (seen : Seen) : ∃ seen', Go 2 (mA text lim s o mk seen) (mB text lim s o mk 8 9 s seen') := by
  refine ⟨(seen.add 17).add 7, Go.head (m' := { mA text lim s o mk (seen.add 17) with marks := mk.setIfInBounds 0 (some s), lastmark := 0, pc := 7 }) rfl ?_ (Go.step rfl ?_)⟩
  · rw [step_exec rfl rfl (show 5 < 32 by decide), exec_MARK (i := 0) rfl rfl]; rfl
  · rw [step_exec rfl rfl (show 7 < 32 by decide), exec_BRANCH rfl]; rfl
theorem goA_tail (bp : Nat) (seen : Seen) : ∃ seen' pc, Go 5 (mB text lim s o mk bp 29 (s + 1) seen) (mF text lim s o mk pc seen') := by
  refine ⟨(seen.add 17).add 1, 5, Go.head (m' := { mB text lim s o mk bp 31 (s + 1) (seen.add 17) with marks := (mk.setIfInBounds 0 (some s)).setIfInBounds 1 (some (s + 1)), lastmark := 1, lastindex := 1 }) rfl ?_
    (Go.head (m' := { mB text lim s o mk bp 31 (s + 1) ((seen.add 17).add 1) with marks := (mk.setIfInBounds 0 (some s)).setIfInBounds 1 (some (s + 1)), lastmark := 1, lastindex := 1, handed := s + 1, answer := some true }) rfl ?_
    (Go.head (m' := { mB text lim s o mk bp bp s ((seen.add 17).add 1) with marks := (mk.setIfInBounds 0 (some s)).setIfInBounds 1 (some (s + 1)), lastmark := 1, lastindex := 1, handed := s + 1, answer := some true, frames := [fr0 5 s o], weight := 1 }) rfl ?_
    (Go.head (m' := { mB text lim s o mk bp 5 s ((seen.add 17).add 1) with marks := (mk.setIfInBounds 0 (some s)).setIfInBounds 1 (some (s + 1)), lastmark := 1, lastindex := 1, handed := s + 1, answer := some true, frames := [], weight := 0 }) rfl ?_ (Go.step rfl ?_))))⟩
  · rw [step_exec rfl rfl (show 29 < 32 by decide), exec_MARK (i := 1) rfl rfl]; rfl
  · rw [step_exec rfl rfl (show 31 < 32 by decide), exec_SUCCESS rfl rfl rfl]; rfl
  · rw [step_resume rfl rfl rfl]; rfl
  · rw [step_resume rfl rfl rfl]; rfl
  · rw [step_end rfl rfl rfl]; rfl
/-- a sign that is to be escaped in the narrow text -/
def badA (c : Nat) : Bool := decide (c = 92 ∨ c = 34) || !decide (32 ≤ c ∧ c ≤ 126)
theorem goA_yes (seen : Seen) (hl : s < lim) (hc : badA (text.getD s 0) = true) : ∃ seen' pc, Go 12 (mA text lim s o mk seen) (mF text lim s o mk pc seen') := by
  obtain ⟨seen1, h1⟩ := goA_branch (text := text) (lim := lim) (s := s) (o := o) (mk := mk) seen
  obtain ⟨seen2, h2⟩ := acc_A1 (text.getD s 0) (seen1.add 13)
  cases hb : decide (text.getD s 0 = 92 ∨ text.getD s 0 = 34) with
  | true =>
    rw [hb] at h2
    obtain ⟨seen3, pc, h3⟩ := goA_tail (text := text) (lim := lim) (s := s) (o := o) (mk := mk) 8 (seen2.add 15)
    refine ⟨seen3, pc, Go.mono (h1.trans (Go.head (m' := mB text lim s o mk 8 16 (s + 1) seen2) rfl ?_ (Go.head rfl ?_ h3))) (by decide)⟩
    · rw [step_exec rfl rfl (show 9 < 32 by decide), exec_IN_yes rfl hl h2, show itemWidth (mB text lim s o mk 8 9 s seen1).code (mB text lim s o mk 8 9 s seen1).pc = 7 from width_IN rfl]; rfl
    · rw [step_exec rfl rfl (show 16 < 32 by decide), exec_JUMP (i := 12) rfl rfl]; rfl
  | false =>
    rw [hb] at h2
    obtain ⟨seen3, h3⟩ := acc_A2 (text.getD s 0) (seen2.add 13)
    have hc' : (!decide (32 ≤ text.getD s 0 ∧ text.getD s 0 ≤ 126)) = true := by
      unfold badA at hc; rw [hb] at hc; exact hc
    rw [hc'] at h3
    obtain ⟨seen4, pc, h4⟩ := goA_tail (text := text) (lim := lim) (s := s) (o := o) (mk := mk) 18 (seen3.add 15)
    refine ⟨seen4, pc, Go.mono (h1.trans (Go.head (m' := { mB text lim s o mk 8 9 s seen2 with answer := some false }) rfl ?_ (Go.head (m' := mB text lim s o mk 18 19 s seen2) rfl ?_ (Go.head (m' := mB text lim s o mk 18 26 (s + 1) seen3) rfl ?_ (Go.head rfl ?_ h4))))) (by decide)⟩
    · rw [step_exec rfl rfl (show 9 < 32 by decide), exec_IN_no rfl hl h2]; rfl
    · rw [step_resume rfl rfl rfl]; rfl
    · rw [step_exec rfl rfl (show 19 < 32 by decide), exec_IN_yes rfl hl h3, show itemWidth (mB text lim s o mk 18 19 s seen2).code (mB text lim s o mk 18 19 s seen2).pc = 7 from width_IN rfl]; rfl
    · rw [step_exec rfl rfl (show 26 < 32 by decide), exec_JUMP (i := 2) rfl rfl]; rfl
/-- no match at this start -/
def mN (text : Array Nat) (lim s : Nat) (o : Bool) (mk : Array (Option Nat)) (seen : Seen) : M :=
  { code := cA, text, lim, start := s, lastStart := lim, pc := 28, pos := s, handed := s, outermost := o, marks := mk.setIfInBounds 0 (some s), lastmark := 0, frames := [fr0 5 s o], weight := 1, seen, answer := some false }
theorem goA_no (seen : Seen) (hc : lim ≤ s ∨ badA (text.getD s 0) = false) : ∃ seen' pc, Go 6 (mA text lim s o mk seen) { mN text lim s o mk seen' with pc := pc } := by
  obtain ⟨seen1, h1⟩ := goA_branch (text := text) (lim := lim) (s := s) (o := o) (mk := mk) seen
  by_cases hl : lim ≤ s
  · refine ⟨(seen1.add 13).add 13, 18, Go.mono (h1.trans (Go.head (m' := { mB text lim s o mk 8 9 s (seen1.add 13) with answer := some false }) rfl ?_ (Go.head (m' := mB text lim s o mk 18 19 s (seen1.add 13)) rfl ?_ (Go.head (m' := { mB text lim s o mk 18 19 s ((seen1.add 13).add 13) with answer := some false }) rfl ?_ (Go.step rfl ?_))))) (by decide)⟩
    · rw [step_exec rfl rfl (show 9 < 32 by decide), exec_IN_end rfl hl]; rfl
    · rw [step_resume rfl rfl rfl]; rfl
    · rw [step_exec rfl rfl (show 19 < 32 by decide), exec_IN_end rfl hl]; rfl
    · rw [step_resume rfl rfl rfl]; rfl
  · have hl' : s < lim := Nat.not_le.mp hl
    have hc' := hc.resolve_left hl
    unfold badA at hc'
    rw [Bool.or_eq_false_iff] at hc'
    obtain ⟨seen2, h2⟩ := acc_A1 (text.getD s 0) (seen1.add 13)
    rw [hc'.1] at h2
    obtain ⟨seen3, h3⟩ := acc_A2 (text.getD s 0) (seen2.add 13)
    rw [hc'.2] at h3
    refine ⟨seen3, 18, Go.mono (h1.trans (Go.head (m' := { mB text lim s o mk 8 9 s seen2 with answer := some false }) rfl ?_ (Go.head (m' := mB text lim s o mk 18 19 s seen2) rfl ?_ (Go.head (m' := { mB text lim s o mk 18 19 s seen3 with answer := some false }) rfl ?_ (Go.step rfl ?_))))) (by decide)⟩
    · rw [step_exec rfl rfl (show 9 < 32 by decide), exec_IN_no rfl hl' h2]; rfl
    · rw [step_resume rfl rfl rfl]; rfl
    · rw [step_exec rfl rfl (show 19 < 32 by decide), exec_IN_no rfl hl' h3]; rfl
    · rw [step_resume rfl rfl rfl]; rfl
theorem goA_next (seen : Seen) (hl : s < lim) (hc : badA (text.getD s 0) = false) : ∃ seen', Go 7 (mA text lim s o mk seen) (mA text lim (s + 1) false (mk.setIfInBounds 0 (some s)) seen') := by
  obtain ⟨seen1, pc, h⟩ := goA_no (o := o) (mk := mk) seen (.inr hc)
  refine ⟨seen1, h.trans (Go.step rfl ?_)⟩
  rw [step_resume (f := fr0 5 s o) (rest := []) rfl rfl rfl]
  show (if s < lim then _ else _) = _
  rw [if_pos hl]; rfl
theorem goA_last (seen : Seen) (hl : lim ≤ s) : ∃ m', Go 8 (mA text lim s o mk seen) m' ∧ m'.outcome = some .failed := by
  obtain ⟨seen1, pc, h⟩ := goA_no (text := text) (o := o) (mk := mk) seen (.inl hl)
  refine ⟨_, h.trans (Go.head (m' := { mN text lim s o mk seen1 with pc := 5, frames := [], weight := 0 }) rfl ?_ (Go.step rfl (step_end (yes := false) rfl rfl rfl))), rfl⟩
  rw [step_resume (f := fr0 5 s o) (rest := []) rfl rfl rfl]
  show (if s < lim then _ else _) = _
  rw [if_neg (Nat.not_lt.mpr hl)]; rfl
end
theorem searchA (text : Array Nat) (lim : Nat) : ∀ (d s : Nat) (o : Bool) (mk : Array (Option Nat)) (seen : Seen), s + d = lim → mk.size = 2 →
    (∃ i, s ≤ i ∧ i < lim ∧ badA (text.getD i 0) = true ∧ (∀ j, s ≤ j → j < i → badA (text.getD j 0) = false) ∧ ∃ o' mk' seen' pc, mk'.size = 2 ∧ Go (12 * (d + 1)) (mA text lim s o mk seen) (mF text lim i o' mk' pc seen'))
    ∨ ((∀ j, s ≤ j → j < lim → badA (text.getD j 0) = false) ∧ ∃ m', Go (12 * (d + 1)) (mA text lim s o mk seen) m' ∧ m'.outcome = some .failed)
  | 0, s, o, mk, seen, hd, _ => by
    refine .inr ⟨fun j h1 h2 => by omega, ?_⟩
    obtain ⟨m', h, e⟩ := goA_last (text := text) (lim := lim) (s := s) (o := o) (mk := mk) seen (by omega)
    exact ⟨m', h.mono (by omega), e⟩
  | d + 1, s, o, mk, seen, hd, hm => by
    cases hb : badA (text.getD s 0) with
    | true =>
      obtain ⟨seen', pc, h⟩ := goA_yes (lim := lim) (o := o) (mk := mk) seen (by omega) hb
      exact .inl ⟨s, Nat.le_refl _, by omega, hb, fun j h1 h2 => by omega, o, mk, seen', pc, hm, h.mono (by omega)⟩
    | false =>
      obtain ⟨seen', h⟩ := goA_next (lim := lim) (o := o) (mk := mk) seen (by omega) hb
      have ih := searchA text lim d (s + 1) false (mk.setIfInBounds 0 (some s)) seen' (by omega) (by rw [Array.size_setIfInBounds]; exact hm)
      have cov : ∀ j, s ≤ j → ¬ s + 1 ≤ j → badA (text.getD j 0) = false := fun j h1 h2 => by
        have : j = s := by omega
        rw [this]; exact hb
      rcases ih with ⟨i, h1, h2, h3, h4, o', mk', seen'', pc, h5, h6⟩ | ⟨h1, m', h2, h3⟩
      · exact .inl ⟨i, by omega, h2, h3, fun j j1 j2 => by
          by_cases hj : s + 1 ≤ j
          · exact h4 j hj j2
          · exact cov j j1 hj, o', mk', seen'', pc, h5, (h.trans h6).mono (by omega)⟩
      · exact .inr ⟨fun j j1 j2 => by
          by_cases hj : s + 1 ≤ j
          · exact h1 j hj j2
          · exact cov j j1 hj, m', (h.trans h2).mono (by omega), h3⟩
/-- what a search makes: the machine's end -/
theorem forSearchA (text : Array Nat) (s : Nat) (hs : s ≤ text.size) (hl : text.size ≤ 1000000) :
    (∃ i, s ≤ i ∧ i < text.size ∧ badA (text.getD i 0) = true ∧ (∀ j, s ≤ j → j < i → badA (text.getD j 0) = false) ∧ ∃ m', Go 100000000 (forSearch cA text 1 s text.size false) m' ∧ m'.outcome = some .matched ∧ m'.start = i ∧ m'.handed = i + 1 ∧ m'.lastmark = 1 ∧ m'.lastindex = 1 ∧ m'.marks = #[some i, some (i + 1)])
    ∨ ((∀ j, s ≤ j → j < text.size → badA (text.getD j 0) = false) ∧ ∃ m', Go 100000000 (forSearch cA text 1 s text.size false) m' ∧ m'.outcome = some .failed) := by
  by_cases hlast : text.size - s < 1
  · have e : s = text.size := by omega
    refine .inr ⟨fun j h1 h2 => by omega, ?_⟩
    have e2 : forSearch cA text 1 s text.size false = ({ code := cA, text, lim := text.size, start := s, pc := 5, pos := s, handed := s, marks := #[none, none], seen := ({} : Seen).add 14 } : M).say false := by
      show (if (decide (s > text.size) || decide (text.size - s < 1)) = true then _ else _) = _
      rw [if_pos (by simp only [hlast, decide_true, Bool.or_true])]; rfl
    rw [e2]
    exact ⟨_, (Go.step rfl (step_end (yes := false) rfl rfl rfl)).mono (by decide), rfl⟩
  · have e2 : forSearch cA text 1 s text.size false = mA text text.size s true #[none, none] (({} : Seen).add 14) := by
      show (if (decide (s > text.size) || decide (text.size - s < 1)) = true then _ else _) = _
      rw [if_neg (by simp only [Bool.or_eq_true, decide_eq_true_eq]; omega)]; rfl
    rw [e2]
    rcases searchA text text.size (text.size - s) s true #[none, none] (({} : Seen).add 14) (by omega) rfl with ⟨i, h1, h2, h3, h4, o', mk', seen', pc, h5, h6⟩ | ⟨h1, m', h2, h3⟩
    · refine .inl ⟨i, h1, h2, h3, h4, _, h6.mono (by omega), rfl, rfl, rfl, rfl, rfl, ?_⟩
      obtain ⟨l⟩ := mk'
      match l, h5 with
      | [a, b], _ => rfl
    · exact .inr ⟨h1, m', h2.mono (by omega), h3⟩
end Mine
end
-- part ReW
section
open PySem PySem.Sre
namespace Mine
def mW (text : Array Nat) (lim s pc pos hd : Nat) (seen : Seen) : M :=
  { code := cW, text, lim, start := s, lastStart := lim, pc, pos, handed := hd, outermost := true, marks := #[], frames := [fr0 15 s true], weight := 1, seen }
theorem admittedW (m : M) (hm : m.code = cW) : ∀ (d s : Nat) (seen : Seen), s + d = m.lim →
    (∃ i seen', s ≤ i ∧ i < m.lim ∧ stops (m.text.getD i 0) = true ∧ (∀ j, s ≤ j → j < i → stops (m.text.getD j 0) = false) ∧ M.admitted m (d + 1) s seen = .ok (some i, seen'))
    ∨ ((∀ j, s ≤ j → j < m.lim → stops (m.text.getD j 0) = false) ∧ ∃ seen', M.admitted m (d + 1) s seen = .ok (none, seen'))
  | 0, s, seen, hd => by
    refine .inr ⟨fun j h1 h2 => by omega, seen, ?_⟩
    rw [M.admitted, if_pos (by omega)]
  | d + 1, s, seen, hd => by
    obtain ⟨seen1, h1⟩ := set_W (m.text.getD s 0) seen
    rw [← hm] at h1
    cases hb : stops (m.text.getD s 0) with
    | true =>
      rw [hb] at h1
      refine .inl ⟨s, seen1, Nat.le_refl _, by omega, hb, fun j h1 h2 => by omega, ?_⟩
      rw [M.admitted, if_neg (by omega), h1]
    | false =>
      rw [hb] at h1
      have e : M.admitted m (d + 1 + 1) s seen = M.admitted m (d + 1) (s + 1) seen1 := by
        rw [M.admitted, if_neg (by omega), h1]
      rw [e]
      have cov : ∀ j, s ≤ j → ¬ s + 1 ≤ j → stops (m.text.getD j 0) = false := fun j h1 h2 => by
        have : j = s := by omega
        rw [this]; exact hb
      rcases admittedW m hm d (s + 1) seen1 (by omega) with ⟨i, seen', h1, h2, h3, h4, h5⟩ | ⟨h1, h2⟩
      · exact .inl ⟨i, seen', by omega, h2, h3, fun j j1 j2 => by
          by_cases hj : s + 1 ≤ j
          · exact h4 j hj j2
          · exact cov j j1 hj, h5⟩
      · exact .inr ⟨fun j j1 j2 => by
          by_cases hj : s + 1 ≤ j
          · exact h1 j hj j2
          · exact cov j j1 hj, h2⟩
theorem goW {text : Array Nat} {lim s : Nat} (seen : Seen) (hl : s < lim) (hc : stops (text.getD s 0) = true) : ∃ m', Go 4 (mW text lim s 15 s s seen) m' ∧ m'.outcome = some .matched ∧ m'.start = s ∧ m'.handed = s + 1 ∧ m'.lastmark = -1 ∧ m'.lastindex = -1 ∧ m'.marks = #[] := by
  obtain ⟨seen1, h1⟩ := acc_W (text.getD s 0) (seen.add 13)
  rw [hc] at h1
  refine ⟨_, Go.head (m' := mW text lim s 27 (s + 1) s seen1) rfl ?_ (Go.head (m' := { mW text lim s 27 (s + 1) (s + 1) (seen1.add 1) with answer := some true }) rfl ?_ (Go.head (m' := { mW text lim s 15 s (s + 1) (seen1.add 1) with answer := some true, frames := [], weight := 0 }) rfl ?_ (Go.step rfl (step_end (yes := true) rfl rfl rfl)))), rfl, rfl, rfl, rfl, rfl, rfl⟩
  · rw [step_exec rfl rfl (show 15 < 28 by decide), exec_IN_yes rfl hl h1, show itemWidth (mW text lim s 15 s s seen).code (mW text lim s 15 s s seen).pc = 12 from width_IN rfl]; rfl
  · rw [step_exec rfl rfl (show 27 < 28 by decide), exec_SUCCESS rfl rfl rfl]; rfl
  · rw [step_resume rfl rfl rfl]; rfl
theorem forSearchW (text : Array Nat) (s : Nat) (hs : s ≤ text.size) :
    (∃ i, s ≤ i ∧ i < text.size ∧ stops (text.getD i 0) = true ∧ (∀ j, s ≤ j → j < i → stops (text.getD j 0) = false) ∧ ∃ m', Go 100000000 (forSearch cW text 0 s text.size false) m' ∧ m'.outcome = some .matched ∧ m'.start = i ∧ m'.handed = i + 1 ∧ m'.lastmark = -1 ∧ m'.lastindex = -1 ∧ m'.marks = #[])
    ∨ ((∀ j, s ≤ j → j < text.size → stops (text.getD j 0) = false) ∧ ∃ m', Go 100000000 (forSearch cW text 0 s text.size false) m' ∧ m'.outcome = some .failed) := by
  let m0 : M := { code := cW, text, lim := text.size, start := s, pc := 15, pos := s, handed := s, marks := #[], seen := ({} : Seen).add 14 }
  by_cases hlast : text.size - s < 1
  · refine .inr ⟨fun j h1 h2 => by omega, ?_⟩
    have e2 : forSearch cW text 0 s text.size false = m0.say false := by
      show (if (decide (s > text.size) || decide (text.size - s < 1)) = true then _ else _) = _
      rw [if_pos (by simp only [hlast, decide_true, Bool.or_true])]; rfl
    rw [e2]
    exact ⟨_, (Go.step rfl (step_end (yes := false) rfl rfl rfl)).mono (by decide), rfl⟩
  · let m1 : M := { m0 with lastStart := text.size }
    have e2 : forSearch cW text 0 s text.size false = (match M.admitted m1 (text.size + 1 - s) s m1.seen with
        | .ok (some i, seen) => ({ m1 with mustAdvance := false, seen } : M).attemptAt i true
        | .ok (none, seen) => ({ m1 with seen } : M).say false
        | .error why => m1.stick why) := by
      show (if (decide (s > text.size) || decide (text.size - s < 1)) = true then _ else _) = _
      rw [if_neg (by simp only [Bool.or_eq_true, decide_eq_true_eq]; omega)]; rfl
    rw [e2]
    have e3 : text.size + 1 - s = (text.size - s) + 1 := by omega
    rw [e3]
    rcases admittedW m1 rfl (text.size - s) s m1.seen (by show s + (text.size - s) = text.size; omega) with ⟨i, seen', h1, h2, h3, h4, h5⟩ | ⟨h1, seen', h2⟩
    · rw [h5]
      obtain ⟨m', g, r⟩ := goW (text := text) (lim := text.size) (s := i) seen' h2 h3
      exact .inl ⟨i, h1, h2, h3, h4, m', g.mono (by decide), r⟩
    · rw [h2]
      exact .inr ⟨h1, _, (Go.step rfl (step_end (yes := false) rfl rfl rfl)).mono (by decide), rfl⟩

theorem runWhile {code text : Array Nat} {i : Nat} (ok : Nat → Bool) (hacc : ∀ c seen, ∃ seen', accepts code i c seen = .ok (ok c, seen')) : ∀ (n N p found : Nat) (seen : Seen), n ≤ N → (∀ j, j < n → ok (text.getD (p + j) 0) = true) → (n < N → ok (text.getD (p + n) 0) = false) → ∃ seen', run code text i N p found seen = .ok (found + n, seen')
  | 0, 0, p, found, seen, _, _, _ => ⟨seen, rfl⟩
  | 0, N + 1, p, found, seen, _, _, h => by
    obtain ⟨seen1, h1⟩ := hacc (text.getD p 0) seen
    have := h (Nat.succ_pos _)
    rw [Nat.add_zero] at this
    rw [this] at h1
    refine ⟨seen1, ?_⟩
    rw [Sre.run, h1]; rfl
  | n + 1, 0, p, found, seen, hn, _, _ => absurd hn (Nat.not_succ_le_zero _)
  | n + 1, N + 1, p, found, seen, hn, h, h' => by
    obtain ⟨seen1, h1⟩ := hacc (text.getD p 0) seen
    have := h 0 (Nat.succ_pos _)
    rw [Nat.add_zero] at this
    rw [this] at h1
    obtain ⟨seen2, h2⟩ := runWhile ok hacc n N (p + 1) (found + 1) seen1 (by omega) (fun j hj => by have := h (j + 1) (by omega); rwa [show p + 1 + j = p + (j + 1) by omega]) (fun q => by have := h' (by omega); rwa [show p + 1 + n = p + (n + 1) by omega])
    refine ⟨seen2, ?_⟩
    rw [Sre.run, h1]
    show run code text i N (p + 1) (found + 1) seen1 = _
    rw [h2, show found + 1 + n = found + (n + 1) by omega]

def mS (text : Array Nat) (lim s pc pos hd : Nat) (mk : Array (Option Nat)) (lm li : Int) (fr : List Sre.Frame) (wt : Nat) (seen : Seen) : M :=
  { code := cS, text, lim, start := s, pc, pos, handed := hd, marks := mk, lastmark := lm, lastindex := li, frames := fr, weight := wt, seen }
def frG (s : Nat) (n : Nat) : Sre.Frame := { wait := .giveBack, pc := 7, pos := s + n, outermost := true, count := n, kept := { lastmark := 0, lastindex := -1, whole := false, marks := #[] } }
theorem matchS (text : Array Nat) (s n : Nat) (hn : s + n < text.size) (hsz : text.size ≤ 1000000) (h1 : ∀ j, j < n → stops (text.getD (s + j) 0) = false) (h2 : stops (text.getD (s + n) 0) = true) :
    ∃ m', Go 100000000 (forMatch cS text 2 s text.size false false) m' ∧ m'.outcome = some .matched ∧ m'.start = s ∧ m'.handed = s + n + 1 ∧ m'.lastmark = 3 ∧ m'.lastindex = 2 ∧ m'.marks = #[some s, some (s + n), some (s + n), some (s + n + 1)] := by
  have e2 : forMatch cS text 2 s text.size false false = mS text text.size s 5 s s #[none, none, none, none] (-1) (-1) [] 0 (({} : Seen).add 14) := by
    show (if (((true && decide (s ≤ text.size)) && decide (text.size - s < 1))) = true then _ else _) = _
    rw [if_neg (by simp only [Bool.and_eq_true, decide_eq_true_eq]; omega)]; rfl
  rw [e2]
  obtain ⟨seen1, r1⟩ := runWhile (code := cS) (text := text) (i := 11) (fun c => !stops c) (fun c seen => acc_S1 c seen) n (min 4294967295 ((text.size : Int) - (s : Nat)).toNat) s 0 (((({} : Seen).add 14).add 17).add 24 |>.add 13) (by omega) (fun j hj => by simp only [h1 j hj, Bool.not_false]) (fun _ => by simp only [h2, Bool.not_true])
  rw [Nat.zero_add] at r1
  obtain ⟨seen2, a2⟩ := acc_S2 (text.getD (s + n) 0) (((seen1.add 17).add 17).add 13)
  rw [h2] at a2
  refine ⟨_, Go.mono (Go.head (m' := mS text text.size s 7 s s #[some s, none, none, none] 0 (-1) [] 0 ((({} : Seen).add 14).add 17)) rfl ?_
    (Go.head (m' := mS text text.size s 25 (s + n) (s + n) #[some s, none, none, none] 0 (-1) [frG s n] 1 seen1) rfl ?_
    (Go.head (m' := mS text text.size s 27 (s + n) (s + n) #[some s, some (s + n), none, none] 1 1 [frG s n] 1 (seen1.add 17)) rfl ?_
    (Go.head (m' := mS text text.size s 29 (s + n) (s + n) #[some s, some (s + n), some (s + n), none] 2 1 [frG s n] 1 ((seen1.add 17).add 17)) rfl ?_
    (Go.head (m' := mS text text.size s 41 (s + n + 1) (s + n) #[some s, some (s + n), some (s + n), none] 2 1 [frG s n] 1 seen2) rfl ?_
    (Go.head (m' := mS text text.size s 43 (s + n + 1) (s + n) #[some s, some (s + n), some (s + n), some (s + n + 1)] 3 2 [frG s n] 1 (seen2.add 17)) rfl ?_
    (Go.head (m' := { mS text text.size s 43 (s + n + 1) (s + n + 1) #[some s, some (s + n), some (s + n), some (s + n + 1)] 3 2 [frG s n] 1 ((seen2.add 17).add 1) with answer := some true }) rfl ?_
    (Go.head (m' := { mS text text.size s 7 (s + n) (s + n + 1) #[some s, some (s + n), some (s + n), some (s + n + 1)] 3 2 [] 0 ((seen2.add 17).add 1) with answer := some true }) rfl ?_ (Go.step rfl (step_end (yes := true) rfl rfl rfl)))))))))) (by decide), rfl, rfl, rfl, rfl, rfl, rfl⟩
  · rw [step_exec rfl rfl (show 5 < 44 by decide), exec_MARK (i := 0) rfl rfl]; rfl
  · rw [step_exec rfl rfl (show 7 < 44 by decide), exec_REPEAT_ONE (n := n) (least := 0) (most := 4294967295) (i4 := 13) (seen' := seen1) rfl rfl rfl rfl (by show ¬ ((0 : Nat) : Int) > (text.size : Int) - (s : Nat); omega) r1 (Nat.not_lt_zero _)]; rfl
  · rw [step_exec rfl rfl (show 25 < 44 by decide), exec_MARK (i := 1) rfl rfl]; rfl
  · rw [step_exec rfl rfl (show 27 < 44 by decide), exec_MARK (i := 2) rfl rfl]; rfl
  · rw [step_exec rfl rfl (show 29 < 44 by decide), exec_IN_yes rfl hn a2, show itemWidth (mS text text.size s 29 (s + n) (s + n) #[some s, some (s + n), some (s + n), none] 2 1 [frG s n] 1 ((seen1.add 17).add 17)).code (mS text text.size s 29 (s + n) (s + n) #[some s, some (s + n), some (s + n), none] 2 1 [frG s n] 1 ((seen1.add 17).add 17)).pc = 12 from width_IN rfl]; rfl
  · rw [step_exec rfl rfl (show 41 < 44 by decide), exec_MARK (i := 3) rfl rfl]; rfl
  · rw [step_exec rfl rfl (show 43 < 44 by decide), exec_SUCCESS rfl rfl rfl]; rfl
  · rw [step_resume rfl rfl rfl]; rfl
def mH (text : Array Nat) (pc pos hd : Nat) (fr : List Sre.Frame) (wt : Nat) (seen : Seen) : M :=
  { code := cH, text, lim := 4, start := 0, pc, pos, handed := hd, marks := #[], frames := fr, weight := wt, seen }
def frH : Sre.Frame := { wait := .giveBack, pc := 7, pos := 4, outermost := true, count := 4, kept := { lastmark := -1, lastindex := -1, whole := false, marks := #[] } }
theorem matchH (a b c d : Nat) (ha : isHex a = true) (hb : isHex b = true) (hc : isHex c = true) (hd : isHex d = true) :
    ∃ m', Go 100000000 (forMatch cH #[a, b, c, d] 0 0 4 false false) m' ∧ m'.outcome = some .matched ∧ m'.start = 0 ∧ m'.handed = 4 ∧ m'.lastmark = -1 ∧ m'.lastindex = -1 ∧ m'.marks = #[] := by
  have e2 : forMatch cH #[a, b, c, d] 0 0 4 false false = mH #[a, b, c, d] 5 0 0 [] 0 (({} : Seen).add 14) := rfl
  rw [e2]
  obtain ⟨seen1, r1⟩ := runWhile (code := cH) (text := #[a, b, c, d]) (i := 11) isHex (fun c seen => acc_H c seen) 4 4 0 0 (((((({} : Seen).add 14).add 6).add 43).add 24).add 13) (Nat.le_refl _) (fun j hj => by
    match j, hj with
    | 0, _ => exact ha
    | 1, _ => exact hb
    | 2, _ => exact hc
    | 3, _ => exact hd) (fun h => absurd h (Nat.lt_irrefl _))
  rw [Nat.zero_add] at r1
  refine ⟨_, Go.mono (Go.head (m' := mH #[a, b, c, d] 7 0 0 [] 0 (((({} : Seen).add 14).add 6).add 43)) rfl ?_
    (Go.head (m' := mH #[a, b, c, d] 24 4 4 [frH] 1 seen1) rfl ?_
    (Go.head (m' := mH #[a, b, c, d] 26 4 4 [frH] 1 ((seen1.add 6).add 48)) rfl ?_
    (Go.head (m' := { mH #[a, b, c, d] 26 4 4 [frH] 1 (((seen1.add 6).add 48).add 1) with answer := some true }) rfl ?_
    (Go.head (m' := { mH #[a, b, c, d] 7 4 4 [] 0 (((seen1.add 6).add 48).add 1) with answer := some true }) rfl ?_ (Go.step rfl (step_end (yes := true) rfl rfl rfl))))))) (by decide), rfl, rfl, rfl, rfl, rfl, rfl⟩
  · rw [step_exec rfl rfl (show 5 < 27 by decide), exec_AT (k := 0) rfl rfl rfl]; rfl
  · rw [step_exec rfl rfl (show 7 < 27 by decide), exec_REPEAT_ONE (n := 4) (least := 4) (most := 4) (i4 := 13) (seen' := seen1) rfl rfl rfl rfl (show ¬ ((4 : Nat) : Int) > ((4 : Nat) : Int) - ((0 : Nat) : Int) by decide) r1 (by decide)]; rfl
  · rw [step_exec rfl rfl (show 24 < 27 by decide), exec_AT (k := 5) rfl rfl rfl]; rfl
  · rw [step_exec rfl rfl (show 26 < 27 by decide), exec_SUCCESS rfl rfl rfl]; rfl
  · rw [step_resume rfl rfl rfl]; rfl
end Mine
end
-- part LHead
section
open PySem PySem.W PyProof.Rows
namespace Mine
set_option maxRecDepth 100000 in
set_option maxHeartbeats 8000000 in
open_top hd for PySem.Challenge.rw_ff5031_01
end Mine
end
-- part Base
section
open PySem PySem.Spec PySem.Calls PySem.W PyProof.Rows
namespace Mine
/-- the surroundings of a call made by a def -/
abbrev ar (dp un : Nat) (gd : Option (List Code)) (outer : List Env) : Around := { handled := none, depth := dp, frames := some outer, guards := gd, units := un }
/-- a call's end: nothing old is changed, and the value is as said -/
def EndV (g : Heap) (post : Heap → Heap → Value → Prop) (v : Value) (s s' : Shared) : Prop :=
  ∃ h' tk', s' = { s with heap := h', toks := tk' } ∧ g.StaysIn h' ∧ post g h' v
def Con (w : World) (f : Addr) (vs : List Value) (pre : Heap → Prop) (post : Heap → Heap → Value → Prop) : Prop :=
  ∀ (p : Program) (loose : List Str) (mean : ExcName → Option Value) (mg mb : Str → Option Value) (dp un : Nat) (gd : Option (List Code)) (outer : List Env) (base : Heap) (s : Shared),
    Below (ar dp un gd outer) base outer s.heap → (hd.heap_39 w.params).In s.heap → Top p loose mean mg mb s.heap → pre s.heap → dp + 5 < recursionLimit → un + 40 < cLine →
    wpAny (model PySem.Challenge.rw_ff5031_01.row.prog w) (ar dp un gd outer) (call (.ref f) vs) (fun v s' => EndV s.heap post v s s') (fun _ _ => False) s

section
variable {prog : Program} {w : World} {A : Around} {s : Shared} {K : Frag} {base : Heap} {outer : List Env} {p : Program} {loose : List Str} {mean : ExcName → Option Value} {mg mb : Str → Option Value}
theorem enter {name qual : Str} {params : Arguments} {body : List Stmt} {scope : Scope} {dV kV doc pm cdv ct oc : Value} {an od : Option Addr} {osl : Array (Option Value)} {f : Addr} {vs : List Value} {binds : List (Str × Value)} {Q : Value → Shared → Prop}
    (_B : Below A base outer s.heap) (X : K.In s.heap) (T : Top p loose mean mg mb s.heap)
    (ho : K.lookup f = some ⟨oc, od, .func (fnOf name qual params body scope dV kV doc pm an cdv ct), osl⟩) (hcd : codeIn K cdv qual = true) (hroom : A.depth < recursionLimit)
    (hbind : BindsTo s (fnOf name qual params body scope dV kV doc pm an cdv ct) ⟨vs, []⟩ binds) (hloc : ∀ y ∈ binds, scope.names.lookup y.1 = some .local)
    (h : ∀ L' h₁ tk, Fr s.heap L' h₁ (fun y => binds.reverse.lookup y) → News s.heap L' h₁ [] →
      wpAny (model prog w) (A.deeper (envOf qual scope L' f cdv)) (execs body (envOf qual scope L' f cdv))
        (fun fl s' => Q (match fl with | .ret v => v | _ => .none) s') (fun _ _ => False) { s with heap := h₁, toks := tk })
    (hco : scope.isCoroutine = false) (hgen : scope.isGenerator = false) (hk : scope.kind = .function)
    (hcell : ∀ x ∈ scope.names, x.2 ≠ .cell) : wpAny (model prog w) A (call (.ref f) vs) Q (fun _ _ => False) s := by
  refine wpAny_call (codeAny_call_def (fd := fnOf name qual params body scope dV kV doc pm an cdv ct) (body := body) (binds := binds) hroom (X _ _ ho) rfl T.nolimit (codeRec_of X hcd) rfl hbind hcell hloc (fun h₁ hns hk₁ => ?_) hco hgen hk)
  exact wpAny_mono (h s.heap.objs.size h₁ _ ⟨hns, hk₁, Nat.le_refl _⟩ News.nil) (fun _ _ h => h) fun _ _ h => h.elim
theorem enter_obj {name qual : Str} {params : Arguments} {body : List Stmt} {scope : Scope} {dV kV doc pm cdv ct oc : Value} {an od : Option Addr} {osl : Array (Option Value)} {f : Addr} {vs : List Value} {binds : List (Str × Value)} {Q : Value → Shared → Prop}
    (_B : Below A base outer s.heap) (T : Top p loose mean mg mb s.heap)
    (ho : s.heap.get? f = some ⟨oc, od, .func (fnX name qual params body scope [] dV kV doc pm an cdv ct), osl⟩) (hcd : s.heap.CodeRec cdv qual) (hroom : A.depth < recursionLimit)
    (hbind : BindsTo s (fnX name qual params body scope [] dV kV doc pm an cdv ct) ⟨vs, []⟩ binds) (hloc : ∀ y ∈ binds, scope.names.lookup y.1 = some .local)
    (h : ∀ L' h₁ tk, Fr s.heap L' h₁ (fun y => binds.reverse.lookup y) → News s.heap L' h₁ [] →
      wpAny (model prog w) (A.deeper (envX qual scope L' f cdv [])) (execs body (envX qual scope L' f cdv []))
        (fun fl s' => Q (match fl with | .ret v => v | _ => .none) s') (fun _ _ => False) { s with heap := h₁, toks := tk })
    (hco : scope.isCoroutine = false) (hgen : scope.isGenerator = false) (hk : scope.kind = .function)
    (hcell : ∀ x ∈ scope.names, x.2 ≠ .cell) : wpAny (model prog w) A (call (.ref f) vs) Q (fun _ _ => False) s := by
  refine wpAny_call (codeAny_call_def (fd := fnX name qual params body scope [] dV kV doc pm an cdv ct) (body := body) (binds := binds) hroom ho rfl T.nolimit hcd rfl hbind hcell hloc (fun h₁ hns hk₁ => ?_) hco hgen hk)
  exact wpAny_mono (h s.heap.objs.size h₁ _ ⟨hns, hk₁, Nat.le_refl _⟩ News.nil) (fun _ _ h => h) fun _ _ h => h.elim
end

section
variable {h₀ h h' : Heap} {L : Addr} {m : Str → Option Value} {news : List (Addr × Obj)}
theorem fr_grow (F : Fr h₀ L h m) (st : h.StaysIn h') : Fr h₀ L h' m := ⟨F.ns.keeps st, fun b o e => st b o (F.keep b o e), F.above⟩
theorem news_grow (N : News h₀ L h news) (st : h.StaysIn h') : News h₀ L h' news := fun p hp => ⟨st _ _ (N p hp).1, (N p hp).2⟩
theorem news_more {u : Addr} {o : Obj} (F : Fr h₀ L h m) (N : News h₀ L h news) (st : h.StaysIn h') (hu : h'.get? u = some o) (hf : h.get? u = none) : News h₀ L h' ((u, o) :: news) := fun p hp => by
  rcases List.mem_cons.mp hp with rfl | hp
  · refine ⟨hu, fun e => ?_, ?_⟩
    · obtain ⟨oL, _, _, hL, _⟩ := F.ns
      rw [← e, hf] at hL; cases hL
    · cases q : h₀.get? u with
      | none => rfl
      | some o' => have := F.keep _ _ q; rw [hf] at this; cases this
  · exact news_grow N st p hp
theorem endV_of {post : Heap → Heap → Value → Prop} {v : Value} {s s' : Shared} {m' : Str → Option Value} {L' : Addr} (F : Fr s.heap L' s'.heap m') (e : s' = { s with heap := s'.heap, toks := s'.toks }) (hp : post s.heap s'.heap v) : EndV s.heap post v s s' :=
  ⟨_, _, e, F.keep, hp⟩
end
end Mine
namespace Mine
/-- a goal at which the walk stands still -/
structure Hold (P : Prop) : Prop where
  out : P
theorem hold_of {P : Prop} (h : Hold P) : P := h.out
end Mine
end
-- part ReRun
section
open PySem PySem.Spec PySem.Calls PySem.W PyProof.Rows PySem.Sre PySem.Builtin.Re
namespace Mine
theorem runFor_add : ∀ (a b : Nat) (m : Sre.M), Sre.M.runFor (a + b) m = Sre.M.runFor b (Sre.M.runFor a m)
  | 0, b, m => by rw [Nat.zero_add]; rfl
  | a + 1, b, m => by
    rw [show a + 1 + b = a + b + 1 by omega, Sre.M.runFor, Sre.M.runFor]
    split
    · next h => rw [runFor_done h]
    · exact runFor_add a b _
section
variable {MM : Model} {A : Around} {E : Value → Shared → Prop} {s : Shared}
theorem drive_ok {m' : Sre.M} {Q : Sre.M → Shared → Prop} (ho : m'.outcome.isSome = true) (hQ : Q m' s) : ∀ (T n : Nat) (m : Sre.M), (∀ k, Sre.M.runFor (n + k) m = Sre.M.runFor k m') → n ≤ 4 * T → 0 < T → wpAny MM A (reDrive T m) Q E s
  | 0, _, _, _, _, h => absurd h (Nat.lt_irrefl _)
  | T + 1, n, m, h, hn, _ => by
    unfold reDrive
    show wpAny MM A (if (Sre.M.runFor 4 m).outcome.isSome = true then pure (Sre.M.runFor 4 m) else (do rule "sre.turn"; reDrive T (Sre.M.runFor 4 m))) Q E s
    by_cases hs : (Sre.M.runFor 4 m).outcome.isSome = true
    · rw [if_pos hs]
      have e1 := h 4
      rw [runFor_done ho, Nat.add_comm, runFor_add, runFor_done hs] at e1
      rw [e1]
      exact wpAny_pure hQ
    · rw [if_neg hs]
      have h4 : 4 < n := by
        refine Nat.lt_of_not_le fun h4 => hs ?_
        have e := h (4 - n)
        rw [show n + (4 - n) = 4 by omega, runFor_done ho] at e
        rw [e]; exact ho
      refine wpAny_bind (wpAny_rule ?_)
      refine drive_ok ho hQ T (n - 4) _ (fun k => ?_) (by omega) (by omega)
      rw [← runFor_add, show 4 + (n - 4 + k) = n + k by omega]
      exact h k
theorem forIn_quiet {α : Type} {f : α → PUnit → Sem (ForInStep PUnit)} {Q : PUnit → Shared → Prop} (hf : ∀ a, ∀ R : ForInStep PUnit → Shared → Prop, R (.yield ⟨⟩) s → wpAny MM A (f a ⟨⟩) R E s) (hQ : Q ⟨⟩ s) : ∀ l : List α, wpAny MM A (forIn l PUnit.unit f) Q E s
  | [] => by rw [List.forIn_nil]; exact wpAny_pure hQ
  | a :: r => by
    rw [List.forIn_cons]
    exact wpAny_bind (hf a _ (forIn_quiet hf hQ r))
theorem run_matched {m m' : Sre.M} {Q : Option Sre.M → Shared → Prop} (g : Go 100000000 m m') (ho : m'.outcome = some .matched) (hQ : Q (some m') s) : wpAny MM A (reRunToEnd m) Q E s := by
  obtain ⟨n, hn, e⟩ := g
  unfold reRunToEnd
  refine wpAny_bind (drive_ok (m' := m') (by rw [ho]; rfl) ?_ (2 ^ 64) n m e (by omega) (by decide))
  refine wpAny_bind (forIn_quiet (fun i R hR => ?_) ?_ _)
  · split
    · exact wpAny_bind (wpAny_rule (wpAny_pure hR))
    · exact wpAny_pure hR
  · rw [ho]; exact wpAny_pure hQ
theorem run_failed {m m' : Sre.M} {Q : Option Sre.M → Shared → Prop} (g : Go 100000000 m m') (ho : m'.outcome = some .failed) (hQ : Q none s) : wpAny MM A (reRunToEnd m) Q E s := by
  obtain ⟨n, hn, e⟩ := g
  unfold reRunToEnd
  refine wpAny_bind (drive_ok (m' := m') (by rw [ho]; rfl) ?_ (2 ^ 64) n m e (by omega) (by decide))
  refine wpAny_bind (forIn_quiet (fun i R hR => ?_) ?_ _)
  · split
    · exact wpAny_bind (wpAny_rule (wpAny_pure hR))
    · exact wpAny_pure hR
  · rw [ho]; exact wpAny_pure hQ
end
end Mine
end
-- part ReFacts
section
open PySem PySem.Spec PySem.Calls PySem.W PyProof.Rows
namespace Mine
theorem pa_pattern : PlainAttrs "re.Pattern" :=
  ⟨⟨"object.__getattribute__", by rw [typeLookup_type, builtinLookup_eq_fast]; kernel_rfl, by decide +kernel⟩, by rw [typeLookup_type, builtinLookup_eq_fast]; kernel_rfl⟩
theorem pa_match : PlainAttrs "re.Match" :=
  ⟨⟨"object.__getattribute__", by rw [typeLookup_type, builtinLookup_eq_fast]; kernel_rfl, by decide +kernel⟩, by rw [typeLookup_type, builtinLookup_eq_fast]; kernel_rfl⟩
theorem owner_pattern : Manifest.owners.lookup (String.ofList ['n', 'r', 'e', 't', 't', 'a', 'P', '.', 'e', 'r'].reverse) = some Manifest.sig_re_Pattern := by kernel_rfl
theorem owner_match : Manifest.owners.lookup (String.ofList ['h', 'c', 't', 'a', 'M', '.', 'e', 'r'].reverse) = some Manifest.sig_re_Match := by kernel_rfl
theorem slot_sub : Slot "re.Pattern" "sub" "re.Pattern.sub" :=
  .of (owner := "re.Pattern") (n := "sub") (by rw [typeLookup_type, builtinLookup_eq_fast]; kernel_rfl) (by decide +kernel) (by decide +kernel) (by decide +kernel)
    (by first | exact .inl (by decide +kernel) | exact .inr (by decide +kernel)) (by rw [isSubtype_type]; kernel_rfl)
theorem slot_match : Slot "re.Pattern" "match" "re.Pattern.match" :=
  .of (owner := "re.Pattern") (n := "match") (by rw [typeLookup_type, builtinLookup_eq_fast]; kernel_rfl) (by decide +kernel) (by decide +kernel) (by decide +kernel)
    (by first | exact .inl (by decide +kernel) | exact .inr (by decide +kernel)) (by rw [isSubtype_type]; kernel_rfl)
theorem slot_group : Slot "re.Match" "group" "re.Match.group" :=
  .of (owner := "re.Match") (n := "group") (by rw [typeLookup_type, builtinLookup_eq_fast]; kernel_rfl) (by decide +kernel) (by decide +kernel) (by decide +kernel)
    (by first | exact .inl (by decide +kernel) | exact .inr (by decide +kernel)) (by rw [isSubtype_type]; kernel_rfl)
theorem slot_groups : Slot "re.Match" "groups" "re.Match.groups" :=
  .of (owner := "re.Match") (n := "groups") (by rw [typeLookup_type, builtinLookup_eq_fast]; kernel_rfl) (by decide +kernel) (by decide +kernel) (by decide +kernel)
    (by first | exact .inl (by decide +kernel) | exact .inr (by decide +kernel)) (by rw [isSubtype_type]; kernel_rfl)
theorem slot_end : Slot "re.Match" "end" "re.Match.end" :=
  .of (owner := "re.Match") (n := "end") (by rw [typeLookup_type, builtinLookup_eq_fast]; kernel_rfl) (by decide +kernel) (by decide +kernel) (by decide +kernel)
    (by first | exact .inl (by decide +kernel) | exact .inr (by decide +kernel)) (by rw [isSubtype_type]; kernel_rfl)
theorem type_sub : typeOf (.builtin "re.Pattern.sub") = pure (.type "method_descriptor") := by show builtinType _ = _; rw [builtinType_eq_fast]; kernel_rfl
theorem type_group : typeOf (.builtin "re.Match.group") = pure (.type "method_descriptor") := by show builtinType _ = _; rw [builtinType_eq_fast]; kernel_rfl
theorem type_groups : typeOf (.builtin "re.Match.groups") = pure (.type "method_descriptor") := by show builtinType _ = _; rw [builtinType_eq_fast]; kernel_rfl
theorem type_end : typeOf (.builtin "re.Match.end") = pure (.type "method_descriptor") := by show builtinType _ = _; rw [builtinType_eq_fast]; kernel_rfl
theorem entry_sub : entryFor table "re.Pattern.sub" = some Builtin.«re.Pattern.sub» := entryFor_of_tree (by kernel_rfl)
theorem entry_subloop : entryFor table "re.Pattern.sub.loop" = some Builtin.«re.Pattern.sub.loop» := entryFor_of_tree (by kernel_rfl)
theorem entry_match : entryFor table "re.Pattern.match" = some Builtin.«re.Pattern.match» := entryFor_of_tree (by kernel_rfl)
theorem entry_group : entryFor table "re.Match.group" = some Builtin.«re.Match.group» := entryFor_of_tree (by kernel_rfl)
theorem entry_groups : entryFor table "re.Match.groups" = some Builtin.«re.Match.groups» := entryFor_of_tree (by kernel_rfl)
theorem entry_end : entryFor table "re.Match.end" = some Builtin.«re.Match.end» := entryFor_of_tree (by kernel_rfl)
theorem args_sub (a b c : Value) : argsOk "re.Pattern.sub" ⟨[a, b, c], []⟩ := by
  unfold argsOk; rw [signature?_of (id := "re.Pattern.sub") (n := ['b', 'u', 's']) (o := ['n', 'r', 'e', 't', 't', 'a', 'P', '.', 'e', 'r']) (by kernel_rfl) owner_pattern]; kernel_rfl
theorem args_match1 (a b : Value) : argsOk "re.Pattern.match" ⟨[a, b], []⟩ := by
  unfold argsOk; rw [signature?_of (id := "re.Pattern.match") (n := ['h', 'c', 't', 'a', 'm']) (o := ['n', 'r', 'e', 't', 't', 'a', 'P', '.', 'e', 'r']) (by kernel_rfl) owner_pattern]; kernel_rfl
theorem args_match2 (a b c : Value) : argsOk "re.Pattern.match" ⟨[a, b, c], []⟩ := by
  unfold argsOk; rw [signature?_of (id := "re.Pattern.match") (n := ['h', 'c', 't', 'a', 'm']) (o := ['n', 'r', 'e', 't', 't', 'a', 'P', '.', 'e', 'r']) (by kernel_rfl) owner_pattern]; kernel_rfl
theorem args_group (a b : Value) : argsOk "re.Match.group" ⟨[a, b], []⟩ := by
  unfold argsOk; rw [signature?_of (id := "re.Match.group") (n := ['p', 'u', 'o', 'r', 'g']) (o := ['h', 'c', 't', 'a', 'M', '.', 'e', 'r']) (by kernel_rfl) owner_match]; kernel_rfl
theorem args_groups (a : Value) : argsOk "re.Match.groups" ⟨[a], []⟩ := by
  unfold argsOk; rw [signature?_of (id := "re.Match.groups") (n := ['s', 'p', 'u', 'o', 'r', 'g']) (o := ['h', 'c', 't', 'a', 'M', '.', 'e', 'r']) (by kernel_rfl) owner_match]; kernel_rfl
theorem args_end (a : Value) : argsOk "re.Match.end" ⟨[a], []⟩ := by
  unfold argsOk; rw [signature?_of (id := "re.Match.end") (n := ['d', 'n', 'e']) (o := ['h', 'c', 't', 'a', 'M', '.', 'e', 'r']) (by kernel_rfl) owner_match]; kernel_rfl
end Mine
end
-- part ReRules
section
open PySem PySem.Spec PySem.Calls PySem.W PyProof.Rows PySem.Builtin.Re
namespace Mine
abbrev tupObj (vs : List Value) : Obj := { cls := .type "tuple", data := .seq vs.toArray }
abbrev matchObj (str : Str) (tk : Tok) (pat f2 f3 f4 : Value) (b : Addr) : Obj := { cls := .type "re.Match", data := .fields #[.str str tk, pat, f2, f3, f4, .ref b] }
/-- a match of str with these spans -/
def MatchAt (h : Heap) (a : Addr) (str : Str) (spans : List Int) : Prop :=
  ∃ tk pat f2 f3 f4 b, h.get? a = some (matchObj str tk pat f2 f3 f4 b) ∧ h.get? b = some (tupObj (spans.map rawInt))
theorem MatchAt.keeps {h h' : Heap} {a : Addr} {str : Str} {spans : List Int} (x : MatchAt h a str spans) (st : h.StaysIn h') : MatchAt h' a str spans :=
  let ⟨tk, pat, f2, f3, f4, b, e1, e2⟩ := x; ⟨tk, pat, f2, f3, f4, b, st _ _ e1, st _ _ e2⟩
/-- the match and its spans are both new -/
def FreshM (g h' : Heap) (a : Addr) : Prop := g.objs.size ≤ a ∧ ∀ o vs b', h'.get? a = some o → o.data = .fields vs → vs[5]? = some (.ref b') → g.objs.size ≤ b' ∧ b' < a
theorem stays_push {h : Heap} (o : Obj) : h.StaysIn (h.push o) := fun _ _ e => Heap.get?_push_of_some _ e
section
variable {MM : Model} {A : Around} {E : Value → Shared → Prop} {s : Shared}
theorem get_fresh {h : Heap} {a : Addr} (ha : h.objs.size ≤ a) : h.get? a = none := by
  cases q : h.get? a with
  | none => rfl
  | some o => exact absurd (Heap.lt_size q) (Nat.not_lt.mpr ha)
theorem newMatch_of {pat : Value} {str : Str} {tk : Tok} {f2 f3 f4 : Int} {L : List Int} {Q : Value → Shared → Prop} (hL : L.length ≤ 100)
    (h : ∀ h' a, s.heap.StaysIn h' → MatchAt h' a str L → FreshM s.heap h' a → s.heap.objs.size < h'.objs.size → Q (.ref a) { s with heap := h' }) :
    wpAny MM A (newTuple (L.map rawInt) >>= fun t => newFields "re.Match" [.str str tk, pat, rawInt f2, rawInt f3, rawInt f4, t]) Q E s := by
  refine wpAny_bind (wpAny_newObj_type ?_ (by show ((L.map rawInt).toArray).size ≤ sizeLine; rw [List.size_toArray, List.length_map, sizeLine_eq]; omega))
  refine wpAny_newObj_type (h _ _ (fun _ _ e => stays_push _ _ _ (stays_push _ _ _ e)) ⟨tk, pat, rawInt f2, rawInt f3, rawInt f4, s.heap.objs.size, Heap.get?_push_size _ rfl, stays_push _ _ _ (Heap.get?_push_size _ rfl)⟩ ⟨?_, ?_⟩ ?_) (by show (6 : Nat) ≤ sizeLine + 2; rw [sizeLine_eq]; omega)
  · show s.heap.objs.size ≤ (Array.push s.heap.objs _).size
    rw [Array.size_push]; omega
  · intro o vs b' e1 e2 e3
    cases (Heap.get?_push_size _ rfl).symm.trans e1
    cases e2
    cases e3
    exact ⟨Nat.le_refl _, by show _ < (Array.push s.heap.objs _).size; rw [Array.size_push]; exact Nat.lt_succ_self _⟩
  · show s.heap.objs.size < (Array.push (Array.push s.heap.objs _) _).size
    rw [Array.size_push, Array.size_push]; omega
theorem newMatchA {pat : Value} {str : Str} {tk : Tok} {i pos lim : Nat} {m : Sre.M} {Q : Value → Shared → Prop} (hs : m.start = i) (hh : m.handed = i + 1) (hlm : m.lastmark = 1) (hmk : m.marks = #[some i, some (i + 1)])
    (h : ∀ h' a, s.heap.StaysIn h' → MatchAt h' a str [i, (i + 1 : Nat), i, (i + 1 : Nat)] → FreshM s.heap h' a → s.heap.objs.size < h'.objs.size → Q (.ref a) { s with heap := h' }) :
    wpAny MM A (reNewMatch pat (.str str tk) 1 pos lim m) Q E s := by
  obtain ⟨code, text, lim', start, lastStart, wholeText, mustAdvance, pc, pos', handed, outermost, marks, lastmark, lastindex, loops, inner, frames, weight, answer, seen, outcome⟩ := m
  dsimp only at hs hh hlm hmk
  subst hs hh hlm hmk
  unfold reNewMatch
  have hw : ((List.range 1).any fun g => match (#[some start, some (start + 1)] : Array (Option Nat)).getD (2 * g) none, (#[some start, some (start + 1)] : Array (Option Nat)).getD (2 * g + 1) none with | some b, some e => decide (((2 * g + 1 : Nat) : Int) ≤ 1) && decide (e < b) | _, _ => false) = false := by
    show ((decide (((2 * 0 + 1 : Nat) : Int) ≤ 1) && decide (start + 1 < start)) || false) = false
    simp
  dsimp only
  refine wpAny_ite ?_
  rw [if_neg (by intro q; exact Bool.false_ne_true (hw.symm.trans q))]
  exact newMatch_of (L := [start, (start + 1 : Nat), start, (start + 1 : Nat)]) (by show 4 ≤ 100; decide) h
theorem newMatch0 {pat : Value} {str : Str} {tk : Tok} {i j pos lim : Nat} {m : Sre.M} {Q : Value → Shared → Prop} (hs : m.start = i) (hh : m.handed = j)
    (h : ∀ h' a, s.heap.StaysIn h' → MatchAt h' a str [i, j] → FreshM s.heap h' a → s.heap.objs.size < h'.objs.size → Q (.ref a) { s with heap := h' }) :
    wpAny MM A (reNewMatch pat (.str str tk) 0 pos lim m) Q E s := by
  subst hs hh
  exact newMatch_of (L := [m.start, m.handed]) (by show 2 ≤ 100; decide) h
theorem newMatch2 {pat : Value} {str : Str} {tk : Tok} {i n pos lim : Nat} {m : Sre.M} {Q : Value → Shared → Prop} (hs : m.start = i) (hh : m.handed = i + n + 1) (hlm : m.lastmark = 3) (hmk : m.marks = #[some i, some (i + n), some (i + n), some (i + n + 1)])
    (h : ∀ h' a, s.heap.StaysIn h' → MatchAt h' a str [i, (i + n + 1 : Nat), i, (i + n : Nat), (i + n : Nat), (i + n + 1 : Nat)] → FreshM s.heap h' a → s.heap.objs.size < h'.objs.size → Q (.ref a) { s with heap := h' }) :
    wpAny MM A (reNewMatch pat (.str str tk) 2 pos lim m) Q E s := by
  obtain ⟨code, text, lim', start, lastStart, wholeText, mustAdvance, pc, pos', handed, outermost, marks, lastmark, lastindex, loops, inner, frames, weight, answer, seen, outcome⟩ := m
  dsimp only at hs hh hlm hmk
  subst hs hh hlm hmk
  unfold reNewMatch
  have hw : ((List.range 2).any fun g => match (#[some start, some (start + n), some (start + n), some (start + n + 1)] : Array (Option Nat)).getD (2 * g) none, (#[some start, some (start + n), some (start + n), some (start + n + 1)] : Array (Option Nat)).getD (2 * g + 1) none with | some b, some e => decide (((2 * g + 1 : Nat) : Int) ≤ 3) && decide (e < b) | _, _ => false) = false := by
    show ((decide (((2 * 0 + 1 : Nat) : Int) ≤ 3) && decide (start + n < start)) || ((decide (((2 * 1 + 1 : Nat) : Int) ≤ 3) && decide (start + n + 1 < start + n)) || false)) = false
    simp
  dsimp only
  refine wpAny_ite ?_
  rw [if_neg (by intro q; exact Bool.false_ne_true (hw.symm.trans q))]
  exact newMatch_of (L := [start, (start + n + 1 : Nat), start, (start + n : Nat), (start + n : Nat), (start + n + 1 : Nat)]) (by show 6 ≤ 100; decide) h
theorem rawItems_of {b : Addr} {L : List Int} {Q : Array Int → Shared → Prop} (hb : s.heap.get? b = some (tupObj (L.map rawInt))) (h : Q L.toArray s) : wpAny MM A (reRawItems (.ref b)) Q E s := by
  unfold reRawItems
  refine wpAny_bind (wpAny_seqItems hb rfl (wpAny_pure ?_))
  show Q (((some (L.map rawInt).toArray).getD #[]).map reRawOf) s
  have e : ((some (L.map rawInt).toArray).getD #[]).map reRawOf = L.toArray := by
    show (L.map rawInt).toArray.map reRawOf = L.toArray
    rw [List.map_toArray, List.map_map]
    exact congrArg List.toArray ((List.map_congr_left (g := _root_.id) fun _ _ => rfl).trans (List.map_id _))
  rw [e]; exact h
theorem found_of {a : Addr} {str : Str} {L : List Int} {Q : ReFound → Shared → Prop} (hm : MatchAt s.heap a str L) (h : ∀ x : ReFound, x.spans = L.toArray → (∃ tk, x.fields.getD 0 .none = .str str tk) → Q x s) : wpAny MM A (reFound (.ref a)) Q E s := by
  obtain ⟨tk, pat, f2, f3, f4, b, e1, e2⟩ := hm
  unfold reFound
  refine wpAny_bind (wpAny_fieldsOf e1 rfl ?_)
  exact wpAny_bind (rawItems_of e2 (wpAny_pure (h ⟨_, L.toArray⟩ rfl ⟨tk, rfl⟩)))
theorem slice_of {str : Str} {b e : Nat} {Q : Value → Shared → Prop} (hz : str.cps.size ≤ 1000000) (h : Q (.str ⟨str.cps.extract b e⟩ s.toks) { s with toks := s.toks + 1 }) : wpAny MM A (reSlice str.cps 0 b e) Q E s := by
  show wpAny MM A (mkStr ⟨str.cps.extract b e⟩) Q E s
  refine wpAny_mkStr h ?_
  show (str.cps.extract b e).size ≤ sizeLine
  rw [sizeLine_eq, Array.size_extract]; omega
theorem groupText_of {x : ReFound} {str : Str} {L : List Int} {g b e : Nat} {d : Value} {Q : Value → Shared → Prop} (hx : x.spans = L.toArray) (hf : ∃ tk, x.fields.getD 0 .none = .str str tk) (hz : str.cps.size ≤ 1000000)
    (h1 : L.getD (2 * g) (-1) = (b : Int)) (h2 : L.getD (2 * g + 1) (-1) = (e : Int)) (h : Q (.str ⟨str.cps.extract b e⟩ s.toks) { s with toks := s.toks + 1 }) : wpAny MM A (reGroupText x g d) Q E s := by
  obtain ⟨tk, hf⟩ := hf
  have h1' : x.spans.getD (2 * g) (-1) = (b : Int) := by rw [hx, ← h1]; simp
  have h2' : x.spans.getD (2 * g + 1) (-1) = (e : Int) := by rw [hx, ← h2]; simp
  unfold reGroupText
  dsimp only
  rw [h1', h2', if_neg (by simp)]
  rw [hf]
  unfold reTextOf
  exact slice_of hz h
end
section
variable {prog : Program} {w : World} {A : Around} {E : Value → Shared → Prop} {s : Shared}
theorem number0 {MM : Model} {x : ReFound} {u : Tok} {Q : Nat → Shared → Prop} (hx : 0 < x.spans.size) (h : Q 0 s) : wpAny MM A (reGroupNumber x (.int 0 u)) Q E s := by
  unfold reGroupNumber
  show wpAny MM A (if (decide ((0 : Int) < 0) || decide (2 * (0 : Int) ≥ x.spans.size)) = true then _ else pure (Int.toNat 0)) Q E s
  rw [if_neg (by intro q; simp only [Bool.or_eq_true, decide_eq_true_eq] at q; omega)]
  exact wpAny_pure h
theorem group0_of {a : Addr} {str : Str} {L : List Int} {b e : Nat} {u : Tok} {Q : Value → Shared → Prop} (hm : MatchAt s.heap a str L) (hz : str.cps.size ≤ 1000000) (h1 : L.getD 0 (-1) = (b : Int)) (h2 : L.getD 1 (-1) = (e : Int)) (hl : 0 < L.length)
    (h : Q (.str ⟨str.cps.extract b e⟩ s.toks) { s with toks := s.toks + 1 }) : wpAny (model prog w) A (call (.builtin "re.Match.group") [.ref a, .int 0 u]) Q E s := by
  obtain ⟨tk, pat, f2, f3, f4, bb, e1, e2⟩ := id hm
  refine wpAny_call (codeAny_call_builtin slot_group.plain entry_group (slot_group.check _ _ _ _ _ _ _ _ ⟨_, e1, rfl⟩ (args_group _ _) ?_))
  refine wpAny_bind (wpAny_pure ?_)
  refine wpAny_bind (found_of hm fun x hx hf => ?_)
  dsimp only
  refine wpAny_bind (number0 (by rw [hx]; simpa using hl) ?_)
  exact wpAny_bind (groupText_of hx hf hz h1 h2 (wpAny_pure h))
theorem end_of {a : Addr} {str : Str} {L : List Int} {e : Int} {Q : Value → Shared → Prop} (hm : MatchAt s.heap a str L) (h2 : L.getD 1 (-1) = e)
    (h : Q (.int e s.toks) { s with toks := s.toks + 1 }) : wpAny (model prog w) A (call (.builtin "re.Match.end") [.ref a]) Q E s := by
  obtain ⟨tk, pat, f2, f3, f4, bb, e1, e2⟩ := id hm
  refine wpAny_call (codeAny_call_builtin slot_end.plain entry_end (slot_end.check _ _ _ _ _ _ _ _ ⟨_, e1, rfl⟩ (args_end _) ?_))
  unfold Builtin.«re.Match.end» reOneGroup
  refine wpAny_bind (wpAny_bind (wpAny_of_eq (a := (Value.ref a, [])) (by rfl) ?_))
  refine wpAny_bind (found_of hm fun x hx hf => ?_)
  refine wpAny_bind (wpAny_pure (wpAny_pure ?_))
  have e3 : x.spans.getD (2 * 0 + 1) (-1) = e := by rw [hx, ← h2]; simp
  show wpAny _ _ (retInt (x.spans.getD (2 * 0 + 1) (-1))) _ _ _
  rw [e3]
  exact wpAny_bind (wpAny_mkInt (wpAny_pure h))
theorem groups_of {a : Addr} {str : Str} {i n : Nat} {Q : Value → Shared → Prop} (hm : MatchAt s.heap a str [i, (i + n + 1 : Nat), i, (i + n : Nat), (i + n : Nat), (i + n + 1 : Nat)]) (hz : str.cps.size ≤ 1000000)
    (h : ∀ t1 t2 tk, Q (.ref s.heap.objs.size) { s with heap := s.heap.push (tupObj [.str ⟨str.cps.extract i (i + n)⟩ t1, .str ⟨str.cps.extract (i + n) (i + n + 1)⟩ t2]), toks := tk }) : wpAny (model prog w) A (call (.builtin "re.Match.groups") [.ref a]) Q E s := by
  obtain ⟨tk, pat, f2, f3, f4, bb, e1, e2⟩ := id hm
  refine wpAny_call (codeAny_call_builtin slot_groups.plain entry_groups (slot_groups.check _ _ _ _ _ _ _ _ ⟨_, e1, rfl⟩ (args_groups _) ?_))
  unfold Builtin.«re.Match.groups» reWithDefault
  refine wpAny_bind (wpAny_bind (wpAny_of_eq (a := [none]) (by kernel_rfl) ?_))
  refine wpAny_bind (found_of hm fun x hx hf => wpAny_pure ?_)
  have e3 : x.spans.size / 2 - 1 = 2 := by rw [hx, List.size_toArray]; show 6 / 2 - 1 = 2; decide
  show wpAny _ _ (do
    let l ← List.mapM (fun g => reGroupText x (g + 1) ((none : Option Value).getD .none)) (List.range (x.spans.size / 2 - 1))
    let r ← newTuple l
    ret r) _ _ _
  rw [e3, show List.range 2 = [0, 1] from rfl]
  simp only [List.mapM_cons, List.mapM_nil]
  refine wpAny_bind (wpAny_bind (groupText_of hx hf hz (b := i) (e := i + n) rfl rfl ?_))
  refine wpAny_bind (wpAny_bind (groupText_of hx hf hz (b := i + n) (e := i + n + 1) rfl rfl ?_))
  refine wpAny_bind (wpAny_pure (wpAny_pure (wpAny_pure ?_)))
  exact wpAny_bind (wpAny_newObj_type (wpAny_pure (h _ _ _)) (by show (2 : Nat) ≤ sizeLine; rw [sizeLine_eq]; omega))
end
end Mine
end
-- part ReBound
section
open PySem PySem.Spec PySem.Calls PySem.W PyProof.Rows PySem.Builtin.Re
namespace Mine
abbrev bmObj (id : String) (self : Value) : Obj := { cls := .type "builtin_function_or_method", data := .fields #[.builtin id, self] }
def BmAt (q : Addr) (id : String) (self : Value) (h : Heap) : Prop := h.get? q = some (bmObj id self)
section
variable {prog : Program} {w : World} {A : Around} {E : Value → Shared → Prop} {s : Shared}
theorem codeAny_meets {id : String} {B : Builtin} {args : Args} {S : PySem.Spec} {R : Result → Shared → Prop} (plain : plainId id = true) (entry : entryFor table id = some B) (g : Meets (B args) S) (h : S A R s) : codeAny (model prog w) A (.builtin id args) R s := by
  refine codeAny_of_tree ?_
  rw [Around.under_plainId plain]
  show wpAny _ _ (match entryFor table id with | some b => b args | none => unsupported ((withoutEnding? id "#data").getD id)) _ _ s
  rw [entry]
  exact g prog w A R s h
theorem codeAny_builtin {id : String} {B : Builtin} {args : Args} {R : Result → Shared → Prop} (plain : plainId id = true) (entry : entryFor table id = some B)
    (h : wpAny (model prog w) A.in1 (B args) (fun fin s' => match fin with | .done f => R (.ok f) s' | .again c' => c'.quiet = true ∧ codeAny (model prog w) A c' R s') (fun e s' => R (.error e) s') s) : codeAny (model prog w) A (.builtin id args) R s := by
  refine codeAny_of_tree ?_
  rw [Around.under_plainId plain]
  show wpAny _ _ (match entryFor table id with | some b => b args | none => unsupported ((withoutEnding? id "#data").getD id)) _ _ s
  rw [entry]
  exact h
theorem checkBound {MM : Model} {T id : String} {sig : Manifest.Signature} {self : Value} {rest : List Value} {Q : Unit → Shared → Prop} (hsig : Manifest.signature? id = some sig) (hk : builtinKind id = some .method)
    (hv : Manifest.varargsMethods.contains id = false) (hT : s.TypeIs self T) (hm : isSubtype (.type T) (.type "module") = pure false) (hty : ∀ R : Bool → Shared → Prop, R false s → wpAny MM A (isType self) R E s)
    (hc : Bind.checkArgs id { sig with full := s!"{Bind.lastOf T}.{Bind.lastOf id}" } ⟨self :: rest, []⟩ = pure ()) (h : Q () s) : wpAny MM A (checkBoundCall id ⟨self :: rest, []⟩) Q E s := by
  unfold checkBoundCall
  rw [hsig]
  dsimp only
  rw [hk]
  show wpAny MM A (do
    let ofModule ← isInstance self (.type "module")
    if (Manifest.varargsMethods.contains id || ofModule) = true then (do return ← Bind.checkArgs id { sig with full := Bind.lastOf id } ⟨self :: rest, []⟩) else _) Q E s
  refine wpAny_bind (wpAny_isInstance hT hm ?_)
  rw [hv, Bool.false_or, if_neg Bool.false_ne_true]
  refine wpAny_bind (hty _ ?_)
  show wpAny MM A (typeOf self >>= _) Q E s
  refine wpAny_bind (wpAny_typeOf hT ?_)
  exact wpAny_of_eq hc h
theorem bound_code {p : Addr} {id : String} {self : Value} {args : List Value} {R : Result → Shared → Prop} (ho : BmAt p id self s.heap) (hq : plainId id = true)
    (hc : ∀ (A' : Around) (E' : Value → Shared → Prop) (Q : Unit → Shared → Prop), Q () s → wpAny (model prog w) A' (checkBoundCall id ⟨self :: args, []⟩) Q E' s)
    (h : codeAny (model prog w) A (.builtin id ⟨self :: args, []⟩) R s) : codeAny (model prog w) A (.call (.ref p) ⟨args, []⟩) R s := by
  refine codeAny_of_tree ?_
  show wpAny _ _ (callAny (.ref p) _) _ _ _
  unfold callAny
  refine wpAny_bind (wpAny_load ho ?_)
  show wpAny _ _ (do checkBoundCall id ⟨self :: args, []⟩; again (.builtin id ⟨self :: args, []⟩)) _ _ _
  exact wpAny_bind (hc _ _ _ (wpAny_pure ⟨plainId_quiet hq _, h⟩))
end
end Mine
end
-- part ReMatch
section
open PySem PySem.Spec PySem.Calls PySem.W PyProof.Rows PySem.Builtin.Re
namespace Mine
abbrev patObj (pv f1 : Value) (g : Nat) (c : Addr) : Obj := { cls := .type "re.Pattern", data := .fields #[pv, f1, .int (g : Int) 0, .none, .none, .ref c, .int 0 0] }
def PatAt (h : Heap) (a : Addr) (L : List Int) (g : Nat) : Prop := ∃ pv f1 c, h.get? a = some (patObj pv f1 g c) ∧ h.get? c = some (tupObj (L.map rawInt))
theorem PatAt.keeps {h h' : Heap} {a : Addr} {L : List Int} {g : Nat} (x : PatAt h a L g) (st : h.StaysIn h') : PatAt h' a L g :=
  let ⟨pv, f1, c, e1, e2⟩ := x; ⟨pv, f1, c, st _ _ e1, st _ _ e2⟩
section
variable {MM : Model} {A : Around} {E : Value → Shared → Prop} {s : Shared}
theorem ssize_of {i : Int} {u : Tok} {Q : Int → Shared → Prop} (h0 : 0 ≤ i) (h1 : i < 1000000) (h : Q i s) : wpAny MM A (reSsize (.int i u)) Q E s := by
  show wpAny MM A (if (decide (i < -(2 ^ 63)) || decide (i ≥ 2 ^ 63)) = true then _ else pure i) Q E s
  rw [if_neg (by intro q; simp only [Bool.or_eq_true, decide_eq_true_eq] at q; omega)]
  exact wpAny_pure h
theorem target2_of {a : Addr} {L : List Int} {g : Nat} {x : Str} {t u : Tok} {i : Nat} {Q : ReTarget → Shared → Prop} (hp : PatAt s.heap a L g) (hi : i ≤ x.cps.size) (hx : x.cps.size < 1000000)
    (h : Q ⟨.ref a, .str x t, (L.map Int.toNat).toArray, x.cps, 0, g, i, x.cps.size⟩ s) : wpAny MM A (reTarget "re.Pattern.match" "match" ⟨[.ref a, .str x t, .int (i : Int) u], []⟩) Q E s := by
  obtain ⟨pv, f1, c, e1, e2⟩ := hp
  unfold reTarget
  refine wpAny_bind (wpAny_of_eq (a := [some (.str x t), some (.int (i : Int) u), none]) (by kernel_rfl) ?_)
  refine wpAny_bind (ssize_of (by omega) (by omega) (wpAny_bind (wpAny_pure ?_)))
  refine wpAny_bind (wpAny_fieldsOf e1 rfl ?_)
  refine wpAny_bind (wpAny_pure ?_)
  refine wpAny_bind (wpAny_pure ?_)
  refine wpAny_bind (rawItems_of e2 (wpAny_pure ?_))
  have e3 : (L.toArray.map (·.toNat)) = (L.map Int.toNat).toArray := by rw [List.map_toArray]
  have e4 : min ((i : Int).toNat) x.cps.size = i := by rw [Int.toNat_natCast]; omega
  have e5 : min (((2 : Int) ^ 63 - 1).toNat) x.cps.size = x.cps.size := by
    have : ((2 : Int) ^ 63 - 1).toNat = 9223372036854775807 := by decide
    rw [this]; omega
  show Q ⟨.ref a, .str x t, L.toArray.map (·.toNat), x.cps, 0, ((g : Int)).toNat, min ((i : Int).toNat) x.cps.size, min (((2 : Int) ^ 63 - 1).toNat) x.cps.size⟩ s
  rw [e3, e4, e5, Int.toNat_natCast]
  exact h
theorem target1_of {a : Addr} {L : List Int} {g : Nat} {x : Str} {t : Tok} {Q : ReTarget → Shared → Prop} (hp : PatAt s.heap a L g) (hx : x.cps.size < 1000000)
    (h : Q ⟨.ref a, .str x t, (L.map Int.toNat).toArray, x.cps, 0, g, 0, x.cps.size⟩ s) : wpAny MM A (reTarget "re.Pattern.match" "match" ⟨[.ref a, .str x t], []⟩) Q E s := by
  obtain ⟨pv, f1, c, e1, e2⟩ := hp
  unfold reTarget
  refine wpAny_bind (wpAny_of_eq (a := [some (.str x t), none, none]) (by kernel_rfl) ?_)
  refine wpAny_bind (wpAny_pure ?_)
  refine wpAny_bind (wpAny_pure ?_)
  refine wpAny_bind (wpAny_fieldsOf e1 rfl ?_)
  refine wpAny_bind (wpAny_pure ?_)
  refine wpAny_bind (wpAny_pure ?_)
  refine wpAny_bind (rawItems_of e2 (wpAny_pure ?_))
  have e3 : (L.toArray.map (·.toNat)) = (L.map Int.toNat).toArray := by rw [List.map_toArray]
  have e4 : min ((0 : Int).toNat) x.cps.size = 0 := by rw [show (0 : Int).toNat = 0 from rfl]; omega
  have e5 : min (((2 : Int) ^ 63 - 1).toNat) x.cps.size = x.cps.size := by
    have : ((2 : Int) ^ 63 - 1).toNat = 9223372036854775807 := by decide
    rw [this]; omega
  show Q ⟨.ref a, .str x t, L.toArray.map (·.toNat), x.cps, 0, ((g : Int)).toNat, min ((0 : Int).toNat) x.cps.size, min (((2 : Int) ^ 63 - 1).toNat) x.cps.size⟩ s
  rw [e3, e4, e5, Int.toNat_natCast]
  exact h
end
def lS : List Int := cS.toList.map Int.ofNat
def lH : List Int := cH.toList.map Int.ofNat
def lA : List Int := cA.toList.map Int.ofNat
def lW : List Int := cW.toList.map Int.ofNat
section
variable {prog : Program} {w : World} {A : Around} {E : Value → Shared → Prop} {s : Shared}
theorem sig_match : Manifest.signature? "re.Pattern.match" = some ⟨.keywords, "Pattern.match", "match", .self, [⟨"string", .posOrKw, true⟩, ⟨"pos", .posOrKw, false⟩, ⟨"endpos", .posOrKw, false⟩]⟩ := by
  rw [signature?_of (id := "re.Pattern.match") (n := ['h', 'c', 't', 'a', 'm']) (o := ['n', 'r', 'e', 't', 't', 'a', 'P', '.', 'e', 'r']) (by kernel_rfl) owner_pattern]; kernel_rfl
theorem kind_match : builtinKind "re.Pattern.match" = some .method := by decide +kernel
theorem bname_match : (s!"{Bind.lastOf "re.Pattern"}.{Bind.lastOf "re.Pattern.match"}" : String) = "Pattern.match" := by decide +kernel
theorem chk_match2 (a b c : Value) : Bind.checkArgs "re.Pattern.match" { (⟨.keywords, "Pattern.match", "match", .self, [⟨"string", .posOrKw, true⟩, ⟨"pos", .posOrKw, false⟩, ⟨"endpos", .posOrKw, false⟩]⟩ : Manifest.Signature) with full := s!"{Bind.lastOf "re.Pattern"}.{Bind.lastOf "re.Pattern.match"}" } ⟨[a, b, c], []⟩ = pure () := by
  rw [bname_match]
  have h := args_match2 a b c
  unfold argsOk at h
  rw [sig_match] at h
  exact h
theorem chk_match1 (a b : Value) : Bind.checkArgs "re.Pattern.match" { (⟨.keywords, "Pattern.match", "match", .self, [⟨"string", .posOrKw, true⟩, ⟨"pos", .posOrKw, false⟩, ⟨"endpos", .posOrKw, false⟩]⟩ : Manifest.Signature) with full := s!"{Bind.lastOf "re.Pattern"}.{Bind.lastOf "re.Pattern.match"}" } ⟨[a, b], []⟩ = pure () := by
  rw [bname_match]
  have h := args_match1 a b
  unfold argsOk at h
  rw [sig_match] at h
  exact h
theorem nomod_pattern : isSubtype (.type "re.Pattern") (.type "module") = pure false := by rw [isSubtype_type]; kernel_rfl
theorem nova_match : Manifest.varargsMethods.contains "re.Pattern.match" = false := by decide +kernel
theorem isType_obj {MM : Model} {a : Addr} {o : Obj} {vs : Array Value} {R : Bool → Shared → Prop} (ho : s.heap.get? a = some o) (hd : o.data = .fields vs) (h : R false s) : wpAny MM A (isType (.ref a)) R E s := by
  simp only [isType, loadHead]
  refine wpAny_bind (wpAny_loadPart ho ?_)
  rw [hd]
  exact wpAny_pure h
theorem check_match2 {MM : Model} {a : Addr} {o : Obj} {vs : Array Value} {b c : Value} {Q : Unit → Shared → Prop} (ho : s.heap.get? a = some o) (hc : o.cls = .type "re.Pattern") (hd : o.data = .fields vs) (h : Q () s) : wpAny MM A (checkBoundCall "re.Pattern.match" ⟨[.ref a, b, c], []⟩) Q E s := by
  have h1 : s.TypeIs (.ref a) "re.Pattern" := ⟨o, ho, hc⟩
  have h2 := fun (R : Bool → Shared → Prop) (hR : R false s) => isType_obj (MM := MM) (A := A) (E := E) ho hd hR
  have h3 := chk_match2 (.ref a) b c
  have h4 := @checkBound A E s MM "re.Pattern" "re.Pattern.match" _ (.ref a) [b, c] Q sig_match kind_match nova_match
  exact h4 h1 nomod_pattern h2 h3 h
theorem check_match1 {MM : Model} {a : Addr} {o : Obj} {vs : Array Value} {b : Value} {Q : Unit → Shared → Prop} (ho : s.heap.get? a = some o) (hc : o.cls = .type "re.Pattern") (hd : o.data = .fields vs) (h : Q () s) : wpAny MM A (checkBoundCall "re.Pattern.match" ⟨[.ref a, b], []⟩) Q E s := by
  have h1 : s.TypeIs (.ref a) "re.Pattern" := ⟨o, ho, hc⟩
  have h2 := fun (R : Bool → Shared → Prop) (hR : R false s) => isType_obj (MM := MM) (A := A) (E := E) ho hd hR
  have h3 := chk_match1 (.ref a) b
  have h4 := @checkBound A E s MM "re.Pattern" "re.Pattern.match" _ (.ref a) [b] Q sig_match kind_match nova_match
  exact h4 h1 nomod_pattern h2 h3 h
theorem call_match {p a : Addr} {x : Str} {t u : Tok} {i n : Nat} {Q : Value → Shared → Prop} (ho : BmAt p "re.Pattern.match" (.ref a) s.heap) (hp : PatAt s.heap a lS 2) (hx : x.cps.size < 1000000)
    (hn : i + n < x.cps.size) (h1 : ∀ j, j < n → stops (x.cps.getD (i + j) 0) = false) (h2 : stops (x.cps.getD (i + n) 0) = true)
    (h : ∀ h' b, s.heap.StaysIn h' → MatchAt h' b x [i, (i + n + 1 : Nat), i, (i + n : Nat), (i + n : Nat), (i + n + 1 : Nat)] → FreshM s.heap h' b → s.heap.objs.size < h'.objs.size → Q (.ref b) { s with heap := h' }) :
    wpAny (model prog w) A (call (.ref p) [.str x t, .int (i : Int) u]) Q E s := by
  obtain ⟨pv, f1, c, e1, e2⟩ := id hp
  have hb := fun (A' : Around) (E' : Value → Shared → Prop) (Q : Unit → Shared → Prop) (hQ : Q () s) => check_match2 (MM := model prog w) (A := A') (E := E') (b := .str x t) (c := .int (i : Int) u) e1 rfl rfl hQ
  refine wpAny_call (bound_code ho slot_match.plain hb ?_)
  refine codeAny_builtin slot_match.plain entry_match ?_
  unfold Builtin.«re.Pattern.match»
  refine wpAny_bind (target2_of hp (by omega) hx ?_)
  unfold reAnswer
  obtain ⟨m', g', o', r1, r2, r3, r4, r5⟩ := matchS x.cps i n hn (by omega) h1 h2
  refine wpAny_bind (run_matched g' o' ?_)
  exact wpAny_bind (newMatch2 r1 r2 r3 r5 fun h' b st hm hf hsz => wpAny_pure (h h' b st hm hf hsz))
theorem call_match4 {p a' : Addr} {a b c d : Nat} {x : Str} {t : Tok} {Q : Value → Shared → Prop} (hx : x = ⟨#[a, b, c, d]⟩) (ho : BmAt p "re.Pattern.match" (.ref a') s.heap) (hp : PatAt s.heap a' lH 0)
    (ha : isHex a = true) (hb : isHex b = true) (hc : isHex c = true) (hd : isHex d = true)
    (h : ∀ h' m, s.heap.StaysIn h' → MatchAt h' m x [(0 : Nat), (4 : Nat)] → FreshM s.heap h' m → s.heap.objs.size < h'.objs.size → Q (.ref m) { s with heap := h' }) :
    wpAny (model prog w) A (call (.ref p) [.str x t]) Q E s := by
  obtain ⟨pv, f1, c', e1, e2⟩ := id hp
  have hb' := fun (A' : Around) (E' : Value → Shared → Prop) (Q : Unit → Shared → Prop) (hQ : Q () s) => check_match1 (MM := model prog w) (A := A') (E := E') (b := .str x t) e1 rfl rfl hQ
  refine wpAny_call (bound_code ho slot_match.plain hb' ?_)
  refine codeAny_builtin slot_match.plain entry_match ?_
  unfold Builtin.«re.Pattern.match»
  have hsz : x.cps.size < 1000000 := by rw [hx]; show 4 < 1000000; omega
  refine wpAny_bind (target1_of hp hsz ?_)
  unfold reAnswer
  obtain ⟨m', g', o', r1, r2, r3, r4, r5⟩ := matchH a b c d ha hb hc hd
  have g2 : Go 100000000 (Sre.forMatch cH x.cps 0 0 x.cps.size false false) m' := by rw [hx]; exact g'
  refine wpAny_bind (run_matched g2 o' ?_)
  exact wpAny_bind (newMatch0 r1 r2 fun h' b st hm hf hsz => wpAny_pure (h h' b st hm hf hsz))
end
end Mine
end
-- part FJoined
section
open PySem PySem.Spec PySem.Calls PySem.W PyProof.Rows
namespace Mine
abbrev isHi (n : Int) : Prop := 55296 ≤ n ∧ n < 56320
abbrev isLo (n : Int) : Prop := 56320 ≤ n ∧ n < 57344
def joinI : List Int → List Int
  | n :: m :: r => if isHi n ∧ isLo m then (65536 + (n - 55296) * 1024 + m - 56320) :: joinI r else n :: joinI (m :: r)
  | [n] => [n]
  | [] => []
theorem txt_snocI (l : List Int) (n : Int) : KStt.txt (l ++ [n]) = KStt.txt l ++ ⟨#[n.toNat]⟩ := by
  refine PySem.Str.ext' (Array.toList_inj.mp ?_)
  rw [PySem.Str.cps_append, Array.toList_append]
  show ((l ++ [n]).map Int.toNat) = l.map Int.toNat ++ [n.toNat]
  rw [List.map_append]
  rfl
theorem drop_getD {ns : List Int} {i : Nat} (h : i < ns.length) : ns.drop i = ns.getD i 0 :: ns.drop (i + 1) := by
  rw [List.drop_eq_getElem_cons h, List.getD_eq_getElem?_getD, List.getElem?_eq_getElem h]; rfl
theorem join_pair {ns acc : List Int} {i : Int} (h0 : 0 ≤ i) (h : i + 1 < (ns.length : Int)) (h1 : isHi (ns.getD i.toNat 0)) (h2 : isLo (ns.getD (i + 1).toNat 0)) (ha : acc ++ joinI (ns.drop i.toNat) = joinI ns) :
    (acc ++ [65536 + (ns.getD i.toNat 0 - 55296) * 1024 + ns.getD (i + 1).toNat 0 - 56320]) ++ joinI (ns.drop (i + 2).toNat) = joinI ns := by
  have e1 : (i + 1).toNat = i.toNat + 1 := by omega
  have e2 : (i + 2).toNat = i.toNat + 1 + 1 := by omega
  rw [e1] at h2 ⊢
  rw [e2, ← ha, drop_getD (i := i.toNat) (by omega), drop_getD (i := i.toNat + 1) (by omega), joinI, if_pos ⟨h1, h2⟩]
  simp
theorem join_single {ns acc : List Int} {i : Int} (h0 : 0 ≤ i) (h : i < (ns.length : Int)) (hn : ¬ (i + 1 < (ns.length : Int) ∧ isHi (ns.getD i.toNat 0) ∧ isLo (ns.getD (i + 1).toNat 0))) (ha : acc ++ joinI (ns.drop i.toNat) = joinI ns) :
    (acc ++ [ns.getD i.toNat 0]) ++ joinI (ns.drop (i + 1).toNat) = joinI ns := by
  have e1 : (i + 1).toNat = i.toNat + 1 := by omega
  rw [e1] at hn ⊢
  rw [← ha, drop_getD (i := i.toNat) (by omega)]
  by_cases hl : i + 1 < (ns.length : Int)
  · have hn' : ¬ (isHi (ns.getD i.toNat 0) ∧ isLo (ns.getD (i.toNat + 1) 0)) := fun q => hn ⟨hl, q⟩
    rw [drop_getD (i := i.toNat + 1) (by omega), joinI, if_neg hn']
    simp
  · rw [List.drop_eq_nil_of_le (as := ns) (i := i.toNat + 1) (by omega)]
    simp [joinI]
set_option maxRecDepth 100000 in
set_option maxHeartbeats 2000000 in
theorem joined_ok (w : World) (u : Addr) (us : List Value) (ns : List Int) : Con w 145 [.ref u] (fun g => g.IsList u us.toArray ∧ IntsAre us ns ∧ ns.length ≤ 200 ∧ ∀ i, 0 ≤ ns.getD i 0 ∧ ns.getD i 0 ≤ 65535) (fun _ _ v => ∃ t', v = .str (KStt.txt (joinI ns)) t') := by
  unfold Con; k_with_none; w_top off; k_fill
  intro p loose mean mg mb dp un gd outer base s B X T hpre hdp hun
  obtain ⟨hl, hi, hln, hbd⟩ := hpre
  have hlu := hi.length
  k_dflt (refine' enter ?B ?X ?T ?o ?cd ?room ?bind ?loc ?_ ?c1 ?c2 ?c3 ?c4; (case B => k_asm); (case X => k_asm); (case T => k_asm); (case o => k_is); (case cd => k_is); (case room => (dsimp only [ar]; simp only [recursionLimit] at *; omega)); (case bind => exact BindsTo.of_eq rfl); (case c4 => decide); (case loc => exact locs rfl); (case c1 => exact rfl); (case c2 => exact rfl); (case c3 => exact rfl))
  intro L' h₁ tk F N
  try dsimp only
  try k_fold
  k_with "exec While Compare cons nil" => refine hold_of ?_
  k_steps
  refine Hold.mk ?_
  rename Fr _ _ _ _ => F1
  rename News _ _ _ _ => N1
  refine ksw_while (σ := (List Int × Tok) × Int × Tok) (fun _ => []) (fun c => [(PySem.Str.ofString "text", .str (KStt.txt c.1.1) c.1.2), (PySem.Str.ofString "i", .int c.2.1 c.2.2)]) (fun _ => True) [PySem.Str.ofString "n"] (fun c => 0 ≤ c.2.1 ∧ c.2.1 ≤ ns.length ∧ (c.1.1.length : Int) ≤ c.2.1 ∧ c.1.1 ++ joinI (ns.drop c.2.1.toNat) = joinI ns) (fun c => (ns.length - c.2.1).toNat) (([], _), 0, _) F1 News.nil trivial (by intro p hp; simp only [List.mem_cons, List.not_mem_nil, or_false] at hp; rcases hp with rfl | rfl <;> rfl) ⟨Int.le_refl 0, Int.natCast_nonneg _, Int.le_refl 0, rfl⟩ ?_ PassesOwn.never
  rintro ⟨⟨acc, t1⟩, i, t2⟩ u9 h tk' _ ⟨hi0, hin, hal, hacc⟩ F2 N2
  dsimp only at hi0 hin hal hacc
  clear F1 N1
  have htl : (KStt.txt acc).length ≤ 400 := by rw [KStt.txt_length]; omega
  have hb1 := hbd i.toNat
  have hb2 := hbd (i + 1).toNat
  (try dsimp only)
  (try k_fold)
  k_steps
  all_goals (try dsimp only)
  all_goals (try k_unfold)
  all_goals (try dsimp only)
  all_goals (rename Fr _ _ _ _ => F9; rename News _ _ _ _ => N9)
  all_goals first
    | (refine ksw_end ((acc ++ [65536 + (ns.getD i.toNat 0 - 55296) * 1024 + ns.getD (i + 1).toNat 0 - 56320], _), i + 2, _) F9 N9 (fun _ h => nomatch h) trivial (by intro p hp; simp only [List.mem_cons, List.not_mem_nil, or_false] at hp; rcases hp with rfl | rfl; (rw [txt_snocI]; rfl); rfl) ?_ ⟨?_, ?_, ?_, join_pair ?_ ?_ ?_ ?_ hacc⟩ ?_)
    | (refine ksw_end ((acc ++ [ns.getD i.toNat 0], _), i + 1, _) F9 N9 (fun _ h => nomatch h) trivial (by intro p hp; simp only [List.mem_cons, List.not_mem_nil, or_false] at hp; rcases hp with rfl | rfl; (rw [txt_snocI]; rfl); rfl) ?_ ⟨?_, ?_, ?_, join_single ?_ ?_ ?_ hacc⟩ ?_)
    | skip
  all_goals first
    | (dsimp only [isHi, isLo] at *; (try simp only [List.length_append, List.length_cons, List.length_nil] at *); first | assumption | omega)
    | (intro z h2 h3; (simp only [List.forall_mem_cons, List.not_mem_nil, false_implies, implies_true, and_true, ne_eq] at h2); (simp only [List.contains_cons, List.contains_nil, Bool.or_false, Bool.or_eq_false_iff, beq_eq_false_iff_ne, ne_eq] at h3); simp [kstB, h2, h3]; done)
    | skip
  have e : i.toNat = ns.length := by omega
  rw [e, List.drop_length] at hacc
  refine endV_of F9 rfl ⟨t1, ?_⟩
  rw [← hacc, joinI, List.append_nil]
end Mine
end
-- part Dicts
section
open PySem PySem.Spec PySem.Calls PySem.W PyProof.Rows
namespace Mine
theorem nsIn_eq {K : Frag} {a : Addr} {cl : Value} {d : Option Addr} {es : List DictEntry} {n : Nat} {sl : Array (Option Value)} {x : Str} {r : Option Value}
    (hl : K.lookup a = some ⟨cl, d, .dict es.toArray n, sl⟩) (hf : (es.find? (·.key.isStr x)).map (·.val) = r) (hr : es.any (·.refKey) = false) : nsIn K a x = some r := by
  unfold nsIn
  rw [hl]
  dsimp only
  subst hf
  cases h : es.find? (·.key.isStr x) with
  | some e => rfl
  | none => rw [hr]; rfl
theorem str1_beq (k c : Nat) : ((⟨#[k]⟩ : Str) == ⟨#[c]⟩) = decide (c = k) := by
  by_cases h : c = k
  · subst h; simp
  · rw [decide_eq_false h]
    refine beq_eq_false_iff_ne.mpr fun e => h ?_
    have := congrArg (fun s : Str => s.cps.getD 0 0) e
    exact this.symm
/-- the entries of a table of one-sign keys -/
def tabV : List (Nat × Value) → Nat → Option Value
  | [], _ => none
  | p :: r, c => if c = p.1 then some p.2 else tabV r c
inductive TabIs : List DictEntry → List (Nat × Value) → Prop
  | nil : TabIs [] []
  | cons {k : Nat} {x : Str} {t : Tok} {hsh : Int} {v : Value} {es : List DictEntry} {l : List (Nat × Value)} : x = ⟨#[k]⟩ → TabIs es l → TabIs (⟨hsh, .str x t, v⟩ :: es) ((k, v) :: l)
theorem TabIs.find {es : List DictEntry} {l : List (Nat × Value)} (h : TabIs es l) (c : Nat) : (es.find? (·.key.isStr ⟨#[c]⟩)).map (·.val) = tabV l c := by
  induction h with
  | nil => rfl
  | cons hk _ ih =>
    subst hk
    rename_i k t hsh v es l _
    rw [List.find?_cons, tabV]
    show Option.map _ (match ((⟨#[k]⟩ : Str) == ⟨#[c]⟩) with | true => _ | false => _) = _
    rw [str1_beq]
    by_cases e : c = k
    · rw [decide_eq_true e, if_pos e]; rfl
    · rw [decide_eq_false e, if_neg e]; exact ih
theorem TabIs.noRef {es : List DictEntry} {l : List (Nat × Value)} (h : TabIs es l) : es.any (·.refKey) = false := by
  induction h with
  | nil => rfl
  | cons hk _ ih => rw [List.any_cons, ih]; rfl
abbrev sv (x : String) (t : Nat) : Value := .str (PySem.Str.ofString x) t
def shortT : List (Nat × Value) := [(34, sv "\\\"" 619), (92, sv "\\\\" 621), (10, sv "\\n" 623), (9, sv "\\t" 625), (13, sv "\\r" 627), (8, sv "\\b" 629), (12, sv "\\f" 631)]
def escT : List (Nat × Value) := [(92, sv "\\\\" 357), (34, sv "\\\"" 359), (8, sv "\\b" 361), (12, sv "\\f" 363), (10, sv "\\n" 365), (13, sv "\\r" 367), (9, sv "\\t" 369)]
def backT : List (Nat × Value) := [(34, sv "\"" 513), (92, sv "\\" 515), (47, sv "/" 517), (98, sv "\x08" 519), (102, sv "\x0c" 521), (110, sv "\n" 523), (114, sv "\x0d" 525), (116, sv "\t" 527)]
theorem short_in (P : Params) (c : Nat) : nsIn (hd.heap_39 P) 124 ⟨#[c]⟩ = some (tabV shortT c) := by
  have h : ∀ es l, TabIs es l → (hd.heap_39 P).lookup 124 = some ⟨.type "dict", none, .dict es.toArray 7, #[]⟩ → nsIn (hd.heap_39 P) 124 ⟨#[c]⟩ = some (tabV l c) := fun es l ht hl => nsIn_eq hl (ht.find c) ht.noRef
  refine h _ shortT ?_ (by with_unfolding_all rfl)
  repeat' (first | exact TabIs.nil | refine TabIs.cons (by decide +kernel) ?_)
theorem esc_in (P : Params) (c : Nat) : nsIn (hd.heap_39 P) 42 ⟨#[c]⟩ = some (tabV escT c) := by
  have h : ∀ es l, TabIs es l → (hd.heap_39 P).lookup 42 = some ⟨.type "dict", none, .dict es.toArray 7, #[]⟩ → nsIn (hd.heap_39 P) 42 ⟨#[c]⟩ = some (tabV l c) := fun es l ht hl => nsIn_eq hl (ht.find c) ht.noRef
  refine h _ escT ?_ (by with_unfolding_all rfl)
  repeat' (first | exact TabIs.nil | refine TabIs.cons (by decide +kernel) ?_)
theorem back_in (P : Params) (c : Nat) : nsIn (hd.heap_39 P) 99 ⟨#[c]⟩ = some (tabV backT c) := by
  have h : ∀ es l, TabIs es l → (hd.heap_39 P).lookup 99 = some ⟨.type "dict", none, .dict es.toArray 8, #[]⟩ → nsIn (hd.heap_39 P) 99 ⟨#[c]⟩ = some (tabV l c) := fun es l ht hl => nsIn_eq hl (ht.find c) ht.noRef
  refine h _ backT ?_ (by with_unfolding_all rfl)
  repeat' (first | exact TabIs.nil | refine TabIs.cons (by decide +kernel) ?_)
theorem tab_none {c : Nat} : ∀ {l : List (Nat × Value)}, (∀ k ∈ l.map (·.1), c ≠ k) → tabV l c = none
  | [], _ => rfl
  | p :: r, h => by
    rw [tabV, if_neg (h p.1 (List.Mem.head _)), tab_none fun k hk => h k (List.Mem.tail _ hk)]
theorem short_none (P : Params) (n : Int) (h0 : 0 ≤ n) (hne : n ≠ 34 ∧ n ≠ 92 ∧ n ≠ 10 ∧ n ≠ 9 ∧ n ≠ 13 ∧ n ≠ 8 ∧ n ≠ 12) : nsIn (hd.heap_39 P) 124 ⟨#[n.toNat]⟩ = some none := by
  rw [short_in, tab_none]
  intro k hk
  simp only [shortT, List.map_cons, List.map_nil, List.mem_cons, List.not_mem_nil, or_false] at hk
  omega
end Mine
end
-- part FSpelled
section
open PySem PySem.Spec PySem.Calls PySem.W PyProof.Rows
namespace Mine
def figs : Str := PySem.Str.ofString "0123456789abcdef"
def fig (d : Int) : Int := (((Txt.charAt figs d).getD 0 : Nat) : Int)
def spell1 (n : Int) : List Int :=
  if n = 34 then [92, 34] else if n = 92 then [92, 92] else if n = 10 then [92, 110] else if n = 9 then [92, 116] else if n = 13 then [92, 114] else if n = 8 then [92, 98] else if n = 12 then [92, 102]
  else if 32 ≤ n ∧ n < 127 then [n]
  else [92, 117, fig (n.fdiv 4096), fig ((n.fdiv 256).fmod 16), fig ((n.fdiv 16).fmod 16), fig (n.fmod 16)]
theorem spell1_len (n : Int) : (spell1 n).length ≤ 6 := by
  unfold spell1; repeat' split
  all_goals (simp only [List.length_cons, List.length_nil]; omega)
def spellI (ns : List Int) : List Int := ns.flatMap spell1
theorem spellI_snoc (ns : List Int) (n : Int) : spellI (ns ++ [n]) = spellI ns ++ spell1 n := by simp [spellI]
theorem spellI_len : ∀ ns : List Int, (spellI ns).length ≤ 6 * ns.length
  | [] => Nat.le_refl _
  | n :: r => by
    have h1 := spell1_len n
    have h2 := spellI_len r
    unfold spellI at h2 ⊢
    rw [List.flatMap_cons, List.length_append, List.length_cons]; omega
theorem strV_end {x y : Str} {t : Tok} (h : x = y) : ∃ t', Value.str x t = Value.str y t' := ⟨t, by rw [h]⟩
theorem txt_append (a b : List Int) : KStt.txt (a ++ b) = KStt.txt a ++ KStt.txt b := by
  refine PySem.Str.ext' (Array.toList_inj.mp ?_)
  rw [PySem.Str.cps_append, Array.toList_append]
  show ((a ++ b).map Int.toNat) = a.map Int.toNat ++ b.map Int.toNat
  rw [List.map_append]
theorem txt_u (i j k l : Int) : PySem.Str.ofString "\\u" ++ Txt.item figs i ++ Txt.item figs j ++ Txt.item figs k ++ Txt.item figs l = KStt.txt [92, 117, fig i, fig j, fig k, fig l] := by
  rw [show PySem.Str.ofString "\\u" = ⟨#[92, 117]⟩ from by decide +kernel]
  refine PySem.Str.ext' (Array.toList_inj.mp ?_)
  simp only [PySem.Str.cps_append, Array.toList_append]
  rfl
theorem spell_else {n : Int} (hne : n ≠ 34 ∧ n ≠ 92 ∧ n ≠ 10 ∧ n ≠ 9 ∧ n ≠ 13 ∧ n ≠ 8 ∧ n ≠ 12) : spell1 n = if 32 ≤ n ∧ n < 127 then [n] else [92, 117, fig (n.fdiv 4096), fig ((n.fdiv 256).fmod 16), fig ((n.fdiv 16).fmod 16), fig (n.fmod 16)] := by
  obtain ⟨h1, h2, h3, h4, h5, h6, h7⟩ := hne
  unfold spell1
  rw [if_neg h1, if_neg h2, if_neg h3, if_neg h4, if_neg h5, if_neg h6, if_neg h7]
theorem spelled_end {h₀ : Heap} {L : Addr} {x : Str} {stored : List Str} {m₀ m' : Str → Option Value} {pre : List Int} {n : Int} {own : List (Addr × Obj)} {s₁ : Shared} {h' : Heap} {tk : Nat} {acc : List Int} {Y : Str} {t9 : Tok}
    (F : Fr h₀ L h' m') (N : News h₀ L h' ([] ++ own)) (hacc : acc = 34 :: spellI pre) (hY : Y = KStt.txt (spell1 n)) (hk : m' (PySem.Str.ofString "text") = some (.str (KStt.txt acc ++ Y) t9))
    (hr : ∀ z, z ≠ x → (∀ p ∈ [(PySem.Str.ofString "text", Value.str (KStt.txt (acc ++ spell1 n)) t9)], z ≠ p.1) → stored.contains z = false → m' z = m₀ z) :
    InvEndN h₀ L (KstS (σ := List Int × Tok) (fun _ => []) (fun c => [(PySem.Str.ofString "text", .str (KStt.txt c.1) c.2)]) (fun _ => True) x stored m₀ (fun pre c => c.1 = 34 :: spellI pre) (pre ++ [n])) own [] s₁ { s₁ with heap := h', toks := tk } :=
  InvEndN.intro F N ⟨(acc ++ spell1 n, t9), rfl, trivial, by
    intro p hp
    rw [List.mem_singleton.mp hp]
    show m' (PySem.Str.ofString "text") = some (.str (KStt.txt (acc ++ spell1 n)) t9)
    rw [hk, hY, txt_append], hr, by
    show acc ++ spell1 n = 34 :: spellI (pre ++ [n])
    rw [hacc, spellI_snoc]; rfl⟩ rfl (fun _ h => nomatch h) fun _ hp => hp
theorem item_len (x : Str) (i : Int) : (Txt.item x i).length = 1 := rfl
theorem one_len (c : Nat) : (⟨#[c]⟩ : Str).length = 1 := rfl
theorem u_len : (PySem.Str.ofString "\\u").length = 2 := by decide +kernel
theorem q_len : (PySem.Str.ofString "\"").length = 1 := by decide +kernel
local macro_rules | `(tactic| size_fits) => `(tactic| ((simp only [PySem.Str.length_append, item_len, one_len, u_len, q_len]); (rw [PySem.sizeLine_eq]); omega))
local macro_rules | `(tactic| walk_at "InvPostN") => `(tactic| refine hold_of ?_)
set_option maxRecDepth 100000 in
set_option maxHeartbeats 2000000 in
theorem spelled_ok (w : World) (u : Addr) (us : List Value) (ns : List Int) : Con w 152 [.ref u] (fun g => g.IsList u us.toArray ∧ IntsAre us ns ∧ ns.length ≤ 200 ∧ ∀ n ∈ ns, 0 ≤ n ∧ n ≤ 65535) (fun _ _ v => ∃ t', v = .str (KStt.txt (34 :: spellI ns ++ [34])) t') := by
  unfold Con; k_with_none; w_top off; k_fill
  intro p loose mean mg mb dp un gd outer base s B X T hpre hdp hun
  obtain ⟨hl, hi, hln, hbd⟩ := hpre
  have hlu := hi.length
  k_dflt (refine' enter ?B ?X ?T ?o ?cd ?room ?bind ?loc ?_ ?c1 ?c2 ?c3 ?c4; (case B => k_asm); (case X => k_asm); (case T => k_asm); (case o => k_is); (case cd => k_is); (case room => (dsimp only [ar]; simp only [recursionLimit] at *; omega)); (case bind => exact BindsTo.of_eq rfl); (case c4 => decide); (case loc => exact locs rfl); (case c1 => exact rfl); (case c2 => exact rfl); (case c3 => exact rfl))
  intro L' h₁ tk F N
  try dsimp only
  try k_fold
  k_with "pyIter ref" => refine hold_of ?_
  k_steps
  refine Hold.mk ?_
  rename Fr _ _ _ _ => F1
  rename News _ _ _ _ => N1
  refine kst_list (σ := List Int × Tok) (fun _ => []) (fun c => [(PySem.Str.ofString "text", .str (KStt.txt c.1) c.2)]) (fun _ => True) [PySem.Str.ofString "ch", PySem.Str.ofString "figures"] (fun pre c => c.1 = 34 :: spellI pre) ([34], _) rfl hl (by assumption) F1 News.nil trivial (by intro p hp; simp only [List.mem_cons, List.not_mem_nil, or_false] at hp; subst hp; rfl) rfl ?_ ?_
  · rintro ⟨acc, t1⟩ pre post n t u9 h tk' own hns hmem off _ hacc F2 N2
    dsimp only at hacc
    have hlp : pre.length ≤ 200 := by
      have := congrArg List.length hns
      simp only [List.length_append, List.length_cons] at this
      omega
    have htl : (KStt.txt acc).length ≤ 1300 := by
      rw [KStt.txt_length, hacc, List.length_cons]
      have := spellI_len pre
      omega
    have hb1 := hbd n hmem
    clear F1 N1
    have hc : n = 34 ∨ n = 92 ∨ n = 10 ∨ n = 9 ∨ n = 13 ∨ n = 8 ∨ n = 12 ∨ (n ≠ 34 ∧ n ≠ 92 ∧ n ≠ 10 ∧ n ≠ 9 ∧ n ≠ 13 ∧ n ≠ 8 ∧ n ≠ 12) := by omega
    rcases hc with rfl | rfl | rfl | rfl | rfl | rfl | rfl | hne
    all_goals (try dsimp only)
    all_goals (try k_fold)
    rotate_left 7
    · have hnone := short_none w.params n hb1.1 hne
      k_with "compareOp In str ref" => (refine' topIn_K ?F ?X ?l ?k ?e ?o ?_; (case F => k_asm); (case X => k_asm); (case e => assumption); (case l => k_is); (case k => k_keys); (case o => decide))
      k_steps
      all_goals (refine Hold.mk ?_; dsimp only [InvPostN]; rename Fr _ _ _ _ => F9; rename News _ _ _ _ => N9)
      · refine spelled_end F9 N9 hacc (by rw [spell_else hne, if_pos ⟨by assumption, by assumption⟩]; rfl) rfl (by intro z h1 h2 h3; (simp only [List.forall_mem_cons, List.not_mem_nil, false_implies, implies_true, and_true, ne_eq] at h2); (simp only [List.contains_cons, List.contains_nil, Bool.or_false, Bool.or_eq_false_iff, beq_eq_false_iff_ne, ne_eq] at h3); simp [kstB, h1, h2, h3])
      · refine spelled_end F9 N9 hacc (by rw [spell_else hne, if_neg (by omega)]; exact txt_u _ _ _ _) rfl (by intro z h1 h2 h3; (simp only [List.forall_mem_cons, List.not_mem_nil, false_implies, implies_true, and_true, ne_eq] at h2); (simp only [List.contains_cons, List.contains_nil, Bool.or_false, Bool.or_eq_false_iff, beq_eq_false_iff_ne, ne_eq] at h3); simp [kstB, h1, h2, h3])
      · refine spelled_end F9 N9 hacc (by rw [spell_else hne, if_neg (by omega)]; exact txt_u _ _ _ _) rfl (by intro z h1 h2 h3; (simp only [List.forall_mem_cons, List.not_mem_nil, false_implies, implies_true, and_true, ne_eq] at h2); (simp only [List.contains_cons, List.contains_nil, Bool.or_false, Bool.or_eq_false_iff, beq_eq_false_iff_ne, ne_eq] at h3); simp [kstB, h1, h2, h3])
    all_goals k_steps
    all_goals (refine Hold.mk ?_; dsimp only [InvPostN]; rename Fr _ _ _ _ => F9; rename News _ _ _ _ => N9)
    all_goals (refine spelled_end F9 N9 hacc ?_ rfl (by intro z h1 h2 h3; (simp only [List.forall_mem_cons, List.not_mem_nil, false_implies, implies_true, and_true, ne_eq] at h2); (simp only [List.contains_cons, List.contains_nil, Bool.or_false, Bool.or_eq_false_iff, beq_eq_false_iff_ne, ne_eq] at h3); simp [kstB, h1, h2, h3]))
    all_goals decide +kernel
  · rintro ⟨acc, t1⟩ u9 h tk' _ hacc F2 N2
    dsimp only at hacc
    have htl : (KStt.txt acc).length ≤ 1300 := by
      rw [KStt.txt_length, hacc, List.length_cons]
      have := spellI_len ns
      omega
    clear F1 N1
    (try dsimp only)
    (try k_fold)
    k_steps
    all_goals (try dsimp only)
    all_goals (try k_unfold)
    all_goals (try dsimp only)
    rename Fr _ _ _ _ => F9
    refine endV_of F9 rfl (strV_end ?_)
    rw [← hacc, txt_append]
    exact congrArg (KStt.txt acc ++ ·) (by decide +kernel)
end Mine
end
-- part FHex
section
open PySem PySem.Spec PySem.Calls PySem.W PyProof.Rows PySem.Builtin PySem.Builtin.Str
namespace Mine
set_option maxRecDepth 100000
def hexD (d : Nat) : Nat := (Nat.digitChar d).toNat
theorem fig_D {d : Nat} (h : d < 16) : (fig (d : Int)).toNat = hexD d :=
  (show ∀ d : Fin 16, (fig ((d.val : Nat) : Int)).toNat = hexD d.val from by decide +kernel) ⟨d, h⟩
theorem D_big {d : Nat} (h : d < 16) : 48 ≤ hexD d :=
  (show ∀ d : Fin 16, 48 ≤ hexD d.val from by decide +kernel) ⟨d, h⟩
def fig4 (n : Int) : List Int := [fig (n.fdiv 4096), fig ((n.fdiv 256).fmod 16), fig ((n.fdiv 16).fmod 16), fig (n.fmod 16)]
theorem fig4_D {m : Nat} (h : m < 65536) : (fig4 (m : Int)).map Int.toNat = [hexD (m / 4096), hexD (m / 256 % 16), hexD (m / 16 % 16), hexD (m % 16)] := by
  unfold fig4
  have e1 : (m : Int).fdiv 4096 = ((m / 4096 : Nat) : Int) := by rw [Int.fdiv_eq_ediv_of_nonneg _ (by omega)]; omega
  have e2 : ((m : Int).fdiv 256).fmod 16 = ((m / 256 % 16 : Nat) : Int) := by rw [Int.fdiv_eq_ediv_of_nonneg _ (by omega), Int.fmod_eq_emod_of_nonneg _ (by omega)]; omega
  have e3 : ((m : Int).fdiv 16).fmod 16 = ((m / 16 % 16 : Nat) : Int) := by rw [Int.fdiv_eq_ediv_of_nonneg _ (by omega), Int.fmod_eq_emod_of_nonneg _ (by omega)]; omega
  have e4 : (m : Int).fmod 16 = ((m % 16 : Nat) : Int) := by rw [Int.fmod_eq_emod_of_nonneg _ (by omega)]; omega
  rw [e1, e2, e3, e4]
  simp only [List.map_cons, List.map_nil]
  rw [fig_D (by omega), fig_D (by omega), fig_D (by omega), fig_D (by omega)]
def hexOf (m : Nat) : List Nat := (Nat.toDigits 16 m).map Char.toNat
theorem hexOf_lt {m : Nat} (h : m < 16) : hexOf m = [hexD m] := by
  unfold hexOf; rw [Nat.toDigits_of_lt_base h]; rfl
theorem hexOf_ge {m : Nat} (h : 16 ≤ m) : hexOf m = hexOf (m / 16) ++ [hexD (m % 16)] := by
  unfold hexOf; rw [Nat.toDigits_of_base_le (by omega) h, List.map_append]; rfl
theorem hexOf_all {m : Nat} (h : m < 65536) : (hexOf m).length ≤ 4 ∧ List.replicate (4 - (hexOf m).length) 48 ++ hexOf m = [hexD (m / 4096), hexD (m / 256 % 16), hexD (m / 16 % 16), hexD (m % 16)] ∧ ∃ d r, hexOf m = d :: r ∧ 48 ≤ d := by
  have z : hexD 0 = 48 := rfl
  by_cases h1 : m < 16
  · rw [hexOf_lt h1, show m / 4096 = 0 by omega, show m / 256 % 16 = 0 by omega, show m / 16 % 16 = 0 by omega, show m % 16 = m by omega, z]
    exact ⟨by simp, rfl, _, _, rfl, D_big h1⟩
  · by_cases h2 : m < 256
    · rw [hexOf_ge (by omega), hexOf_lt (by omega), show m / 4096 = 0 by omega, show m / 256 % 16 = 0 by omega, show m / 16 % 16 = m / 16 by omega, z]
      exact ⟨by simp, rfl, _, _, rfl, D_big (by omega)⟩
    · by_cases h3 : m < 4096
      · rw [hexOf_ge (by omega), hexOf_ge (by omega), hexOf_lt (by omega), show m / 4096 = 0 by omega, show m / 16 / 16 = m / 256 % 16 by omega, z]
        exact ⟨by simp, rfl, _, _, rfl, D_big (by omega)⟩
      · rw [hexOf_ge (by omega), hexOf_ge (by omega), hexOf_ge (by omega), hexOf_lt (by omega), show m / 16 / 16 / 16 = m / 4096 by omega, show m / 16 / 16 % 16 = m / 256 % 16 by omega]
        exact ⟨by simp, rfl, _, _, rfl, D_big (by omega)⟩
theorem hexField {n : Int} (h0 : 0 ≤ n) (h1 : n < 65536) {C : Percent} (hC : C = { zero := true, width := some 4, type := 120 }) :
    (percentField C true (percentInt C (decide (n < 0)) (hexOf n.natAbs)) = none ∧ (⟨(percentInt C (decide (n < 0)) (hexOf n.natAbs)).toArray⟩ : PySem.Str) = KStt.txt (fig4 n)) ∨ ∃ l, percentField C true (percentInt C (decide (n < 0)) (hexOf n.natAbs)) = some l ∧ (⟨l.toArray⟩ : PySem.Str) = KStt.txt (fig4 n) := by
  subst hC
  obtain ⟨m, rfl⟩ := Int.eq_ofNat_of_zero_le h0
  have hm : m < 65536 := by omega
  obtain ⟨a1, a2, d, r, a3, a4⟩ := hexOf_all hm
  have hF := fig4_D hm
  have e1 : percentInt { zero := true, width := some 4, type := 120 } (decide ((m : Int) < 0)) (hexOf (m : Int).natAbs) = hexOf m := by
    rw [show decide ((m : Int) < 0) = false from decide_eq_false (by omega)]
    simp [percentInt]
  rw [e1]
  have hT : ∀ l : List Nat, l = [hexD (m / 4096), hexD (m / 256 % 16), hexD (m / 16 % 16), hexD (m % 16)] → (⟨l.toArray⟩ : PySem.Str) = KStt.txt (fig4 m) := by
    intro l hl
    refine PySem.Str.ext' (Array.toList_inj.mp ?_)
    show l = (fig4 m).map Int.toNat
    rw [hl, hF]
  by_cases h4 : 4 ≤ (hexOf m).length
  · left
    refine ⟨?_, hT _ ?_⟩
    · simp [percentField, h4]
    · rw [← a2, show 4 - (hexOf m).length = 0 by omega]; rfl
  · right
    refine ⟨_, ?_, hT _ a2⟩
    have b1 : d ≠ 45 := by omega
    have b2 : d ≠ 43 := by omega
    have h4' : ¬ (4 ≤ r.length + 1) := by rw [a3] at h4; simpa using h4
    rw [a3]
    simp [percentField, h4', b1, b2]
theorem hexNone {n : Int} (h0 : 0 ≤ n) (h1 : n < 65536) {C : Percent} (hC : C = { zero := true, width := some 4, type := 120 }) (e : percentField C true (percentInt C (decide (n < 0)) (hexOf n.natAbs)) = none) : (⟨(percentInt C (decide (n < 0)) (hexOf n.natAbs)).toArray⟩ : PySem.Str) = KStt.txt (fig4 n) := by
  rcases hexField h0 h1 hC with ⟨_, e2⟩ | ⟨l, e1, _⟩
  · exact e2
  · exact nomatch e.symm.trans e1
theorem hexSome {n : Int} {l : List Nat} (h0 : 0 ≤ n) (h1 : n < 65536) {C : Percent} (hC : C = { zero := true, width := some 4, type := 120 }) (e : percentField C true (percentInt C (decide (n < 0)) (hexOf n.natAbs)) = some l) : (⟨l.toArray⟩ : PySem.Str) = KStt.txt (fig4 n) := by
  rcases hexField h0 h1 hC with ⟨e1, _⟩ | ⟨l', e1, e2⟩
  · exact nomatch e.symm.trans e1
  · cases e.symm.trans e1; exact e2
theorem hex_after {M : Model} {A : Around} {E : Value → Shared → Prop} {s : Shared} {l : List Nat} {p : List Value} {r : List Nat}
  {f : Nat → List Value × Writer × List Nat → Sem (ForInStep (List Value × Writer × List Nat))} {Q : List Value × Writer × List Nat → Shared → Prop}
  {w : Writer} {T x : PySem.Str} {N : Nat} {o : Option Value} {n : Int} (g : KPc.Good w T N) (hx : x = KStt.txt (fig4 n)) (ho : KPc.Obj o x)
  (h : ∀ w', KPc.Good w' (T ++ KStt.txt (fig4 n)) (N + 4) → wpAny M A (forIn l (p, w', r) f) Q E s) : wpAny M A (forIn l (p, w.add x o, r) f) Q E s :=
  KPc.after_add g hx ho h
theorem hex1 {t : Tok} {b : Addr} {n : Int} {u : Tok} (h0 : 0 ≤ n) (h1 : n < 65536) : Meets («str.__mod__» ⟨[.str ⟨#[92, 117, 37, 48, 52, 120]⟩ t, .ref b], []⟩) (fun _ R s => IsTup s.heap b #[.int n u] ∧ ∀ t' k, R (.ok (.ret (.str (KStt.txt (92 :: 117 :: fig4 n)) t'))) { s with toks := k }) := by
  apply KPt.meets_tup
  intro _ _ _ _ _ _ kptH _
  obtain ⟨kptO, kptG, kptC, kptN, kptD⟩ := kptH
  rw [KPt.entry_is_r]
  unfold Builtin.Str.percentFormat
  refine wpAny_bind (wpAny_isInstance (T := "tuple") ⟨kptO, kptG, kptC⟩ KPt.sub_tt ?_)
  refine wpAny_bind (KPt.asStr_ref kptG kptD ?_)
  refine wpAny_bind (KPt.fills_ref ⟨kptO, kptG, kptC⟩ ?_)
  intro _
  kpc_if
  refine wpAny_bind (wpAny_seqItems kptG kptD ?_)
  refine wpAny_bind (wpAny_pure ?_)
  refine wpAny_bind ?_
  rw [KPc.range_list]
  refine KPc.start ?_
  intro _ _
  (refine KPc.turn ?_; kpc_check; (repeat kpc_if); refine wpAny_pure ?_; kpt_piece)
  (refine KPc.turn ?_; kpc_check; (repeat kpc_if); (refine wpAny_bind ?_; refine wpAny_holding ?_; (repeat kpc_if)); (refine wpAny_bind (wpAny_of_eq (a := _) rfl ?_)); (repeat kpc_if); (refine wpAny_bind (wpAny_pure ?_)); (repeat kpc_if); (refine wpAny_pure ?_); dsimp only; split)
  all_goals (rename_i hexE; refine wpAny_pure ?_; refine hex_after (by kpc_g) (by first | exact hexNone h0 h1 rfl hexE | exact hexSome h0 h1 rfl hexE) (by kpc_obj) ?_; clear hexE; intro _ _)
  all_goals (refine KPc.turn ?_)
  all_goals kpc_check
  all_goals (refine wpAny_pure ?_)
  all_goals kpc_if
  all_goals refine KPc.finish_ok (by kpc_g) (by decide +kernel) ?_ (by assumption)
  all_goals refine (congrArg (· ++ _) (show PySem.Str.ofString "\\u" = KStt.txt [92, 117] from by decide +kernel)).trans ?_
  all_goals exact (txt_append [92, 117] (fig4 n)).symm
set_option maxHeartbeats 4000000 in
theorem hex2 {t : Tok} {b : Addr} {n n' : Int} {u u' : Tok} (h0 : 0 ≤ n) (h1 : n < 65536) (h2 : 0 ≤ n') (h3 : n' < 65536) : Meets («str.__mod__» ⟨[.str ⟨#[92, 117, 37, 48, 52, 120, 92, 117, 37, 48, 52, 120]⟩ t, .ref b], []⟩) (fun _ R s => IsTup s.heap b #[.int n u, .int n' u'] ∧ ∀ t' k, R (.ok (.ret (.str (KStt.txt ((92 :: 117 :: fig4 n) ++ (92 :: 117 :: fig4 n'))) t'))) { s with toks := k }) := by
  apply KPt.meets_tup
  intro _ _ _ _ _ _ kptH _
  obtain ⟨kptO, kptG, kptC, kptN, kptD⟩ := kptH
  rw [KPt.entry_is_r]
  unfold Builtin.Str.percentFormat
  refine wpAny_bind (wpAny_isInstance (T := "tuple") ⟨kptO, kptG, kptC⟩ KPt.sub_tt ?_)
  refine wpAny_bind (KPt.asStr_ref kptG kptD ?_)
  refine wpAny_bind (KPt.fills_ref ⟨kptO, kptG, kptC⟩ ?_)
  intro _
  kpc_if
  refine wpAny_bind (wpAny_seqItems kptG kptD ?_)
  refine wpAny_bind (wpAny_pure ?_)
  refine wpAny_bind ?_
  rw [KPc.range_list]
  refine KPc.start ?_
  intro _ _
  (refine KPc.turn ?_; kpc_check; (repeat kpc_if); refine wpAny_pure ?_; kpt_piece)
  (refine KPc.turn ?_; kpc_check; (repeat kpc_if); (refine wpAny_bind ?_; refine wpAny_holding ?_; (repeat kpc_if)); (refine wpAny_bind (wpAny_of_eq (a := _) rfl ?_)); (repeat kpc_if); (refine wpAny_bind (wpAny_pure ?_)); (repeat kpc_if); (refine wpAny_pure ?_); dsimp only; split)
  all_goals (rename_i hexE; refine wpAny_pure ?_; refine hex_after (by kpc_g) (by first | exact hexNone h0 h1 rfl hexE | exact hexSome h0 h1 rfl hexE) (by kpc_obj) ?_; clear hexE; intro _ _)
  all_goals (refine KPc.turn ?_; kpc_check; (repeat kpc_if); refine wpAny_pure ?_; refine KPc.after_add (y := KStt.txt [92, 117]) (by kpc_g) rfl (by kpc_obj) ?_; intro _ _)
  all_goals (refine KPc.turn ?_; kpc_check; (repeat kpc_if); (refine wpAny_bind ?_; refine wpAny_holding ?_; (repeat kpc_if)); (refine wpAny_bind (wpAny_of_eq (a := _) rfl ?_)); (repeat kpc_if); (refine wpAny_bind (wpAny_pure ?_)); (repeat kpc_if); (refine wpAny_pure ?_); dsimp only; split)
  all_goals (rename_i hexE; refine wpAny_pure ?_; refine hex_after (by kpc_g) (by first | exact hexNone h2 h3 rfl hexE | exact hexSome h2 h3 rfl hexE) (by kpc_obj) ?_; clear hexE; intro _ _)
  all_goals (refine KPc.turn ?_)
  all_goals kpc_check
  all_goals (refine wpAny_pure ?_)
  all_goals kpc_if
  all_goals refine KPc.finish_ok (by kpc_g) (by decide +kernel) ?_ (by assumption)
  all_goals rw [show PySem.Str.ofString "\\u" = KStt.txt [92, 117] from by decide +kernel, ← txt_append, ← txt_append, ← txt_append]
  all_goals rfl
end Mine
end
-- part ReCall
section
open PySem PySem.Spec PySem.Calls PySem.W PyProof.Rows PySem.Builtin.Re
namespace Mine
section
variable {M : Model} {A : Around} {E : Value → Shared → Prop} {s : Shared} {env : Env} {pos : Pos} {first : List Value} {Q : Value → Shared → Prop} {q : Addr} {id : String} {self : Value}
theorem keeps_B (h : Heap) (X : BmAt q id self h) : ∃ k, (k = Keeper.frame ∨ k = Keeper.machine ∨ k = Keeper.boundFrame) ∧ Looks M h (keeperOf (.ref q)) k :=
  ⟨.machine, .inr (.inl rfl), (Looks.ld (part := none) X).andThen .now⟩
theorem callWith_B {e : Expr} {rest : List Expr} (_X : BmAt q id self s.heap) (h : wpAny M A (spliced (backTo pos (starEach (e :: rest) env))) (fun vs s₁ => BmAt q id self s₁.heap ∧ wpAny M A (call (.ref q) (first ++ vs)) Q E s₁) E s)
    (he : starEach (e :: rest) env = (false, eval e env) :: starEach rest env := by rfl) (hplain : (backTo pos (starEach rest env)).any (·.1) = false := by rfl) :
    wpAny M A (callWith pos (.ref q) first (backTo pos (starEach (e :: rest) env)) []) Q E s := by
  rw [he] at h ⊢
  exact callWith_of (by show ((false || (backTo pos (starEach rest env)).any (·.1)) || false) = false; rw [hplain]; rfl) keeps_B (evalArgs_plain h)
theorem bmK {K : Frag} {h : Heap} (X : K.In h) (hl : K.lookup q = some (bmObj id self)) : BmAt q id self h := X _ _ hl
theorem bmN {h₀ h : Heap} {L : Addr} {news : List (Addr × Obj)} (N : News h₀ L h news) (hm : (q, bmObj id self) ∈ news) : BmAt q id self h := (N _ hm).1
end
end Mine
namespace Mine
theorem noBool_match : typeLookup (.type "re.Match") (PySem.Str.ofString "__bool__") = pure none := by rw [typeLookup_type, builtinLookup_eq_fast]; kernel_rfl
theorem noLen_match : typeLookup (.type "re.Match") (PySem.Str.ofString "__len__") = pure none := by rw [typeLookup_type, builtinLookup_eq_fast]; kernel_rfl
theorem truthy_match {M : Model} {A : Around} {E : Value → Shared → Prop} {s : Shared} {m : Addr} {x : Str} {L : List Int} {Q : Bool → Shared → Prop} (hm : MatchAt s.heap m x L) (h : Q true s) : wpAny M A (truthy (.ref m)) Q E s := by
  obtain ⟨tk, pat, f2, f3, f4, b, e1, e2⟩ := hm
  have hT : s.TypeIs (.ref m) "re.Match" := ⟨_, e1, rfl⟩
  unfold truthy
  first
    | refine wpAny_bind (wpAny_callSpecial?_none (name := PySem.Str.ofString "__bool__") hT noBool_match ?_)
    | refine wpAny_bind (wpAny_pure (wpAny_bind (wpAny_callSpecial?_none (name := PySem.Str.ofString "__bool__") hT noBool_match ?_)))
  first
    | refine wpAny_bind (wpAny_specialOf (name := PySem.Str.ofString "__len__") hT noLen_match ?_)
    | refine wpAny_bind (wpAny_pure (wpAny_bind (wpAny_specialOf (name := PySem.Str.ofString "__len__") hT noLen_match ?_)))
  first | exact wpAny_pure h | exact h | exact wpAny_bind (wpAny_pure h)
end Mine
end
-- part FInt16
section
open PySem PySem.Spec PySem.Calls PySem.W PyProof.Rows PySem.Builtin PySem.NumText
namespace Mine
theorem hexD_all : ∀ d : Fin 16, blank (hexD d.val) = false ∧ hexD d.val ≠ 45 ∧ hexD d.val ≠ 43 ∧ digit? (hexD d.val) = some d.val ∧ hexD d.val ≠ 95 ∧ hexD d.val < 128 ∧ hexD d.val ≠ 0 ∧ hexD d.val ≠ 120 ∧ hexD d.val ≠ 88 ∧ hexD d.val ≠ 111 ∧ hexD d.val ≠ 79 := by decide +kernel
theorem step16 {d : Nat} (h : d < 16) (p : Array Nat × Bool) : NumText.step 16 p (hexD d) = some (p.1.push d, true) := by
  obtain ⟨_, _, _, h4, h5, _⟩ := hexD_all ⟨d, h⟩
  dsimp only at h4 h5
  unfold NumText.step
  rw [if_neg (by simpa using h5), h4]
  exact if_pos h
theorem based16 {a b c d : Nat} (hb : b < 16) : based 16 [a, hexD b, c, d] = (16, false, [a, hexD b, c, d]) := by
  obtain ⟨_, _, _, _, _, _, _, h8, h9, h10, h11⟩ := hexD_all ⟨b, hb⟩
  dsimp only at h8 h9 h10 h11
  have hp : prefix? [a, hexD b, c, d] = none ∨ prefix? [a, hexD b, c, d] = some 2 := by
    by_cases e : a = 48
    · subst e
      show (if (hexD b == 120 || hexD b == 88) = true then some 16 else if (hexD b == 111 || hexD b == 79) = true then some 8 else if (hexD b == 98 || hexD b == 66) = true then some 2 else none) = none ∨ (if (hexD b == 120 || hexD b == 88) = true then some 16 else if (hexD b == 111 || hexD b == 79) = true then some 8 else if (hexD b == 98 || hexD b == 66) = true then some 2 else none) = some 2
      have q1 : (hexD b == 120 || hexD b == 88) = false := by simp [h8, h9]
      have q2 : (hexD b == 111 || hexD b == 79) = false := by simp [h10, h11]
      rw [q1, q2]
      by_cases e : (hexD b == 98 || hexD b == 66) = true
      · right; rw [e]; rfl
      · left; rw [Bool.not_eq_true] at e; rw [e]; rfl
    · left
      simp [prefix?, e]
  unfold based
  rcases hp with e | e <;> rw [e] <;> rfl
theorem read16 {a b c d : Nat} (ha : a < 16) (hb : b < 16) (hc : c < 16) (hd : d < 16) :
    (int_private% "readNumeral") 0 16 [hexD a, hexD b, hexD c, hexD d] = (int_private% "Numeral.value") (((a * 4096 + b * 256 + c * 16 + d : Nat)) : Int) := by
  obtain ⟨a1, a2, a3, _⟩ := hexD_all ⟨a, ha⟩
  obtain ⟨d1, _⟩ := hexD_all ⟨d, hd⟩
  dsimp only at a1 a2 a3 d1
  rw [readNumeral_eq]
  have e1 : [hexD a, hexD b, hexD c, hexD d].dropWhile blank = [hexD a, hexD b, hexD c, hexD d] := by rw [List.dropWhile_cons, a1]; rfl
  have e2 : sign [hexD a, hexD b, hexD c, hexD d] = (false, [hexD a, hexD b, hexD c, hexD d]) := by simp [sign, a2, a3]
  rw [e1, e2]
  dsimp only
  rw [based16 hb]
  dsimp only
  have e3 : ([hexD a, hexD b, hexD c, hexD d].reverse.dropWhile blank).reverse = [hexD a, hexD b, hexD c, hexD d] := by
    show ([hexD d, hexD c, hexD b, hexD a].dropWhile blank).reverse = _
    rw [List.dropWhile_cons, d1]; rfl
  rw [e3]
  have e4 : digits? 16 [hexD a, hexD b, hexD c, hexD d] = some #[a, b, c, d] := by
    unfold digits?
    simp only [List.foldlM_cons, List.foldlM_nil, step16 ha, step16 hb, step16 hc, step16 hd, Option.bind_eq_bind, Option.bind_some]
    rfl
  rw [e4]
  unfold judge
  dsimp only
  rw [if_neg (by simp), if_neg (by simp)]
  show (int_private% "Numeral.value") (((((0 * 16 + a) * 16 + b) * 16 + c) * 16 + d : Nat) : Int) = _
  congr 1
  omega
set_option maxHeartbeats 4000000 in
theorem gives_16 {a b c d : Nat} {t u : Tok} (ha : a < 16) (hb : b < 16) (hc : c < 16) (hd : d < 16) : Gives (Builtin.«int.__new__» ⟨[.type "int", .str ⟨#[hexD a, hexD b, hexD c, hexD d]⟩ t, .int 16 u], []⟩) (.int (((a * 4096 + b * 256 + c * 16 + d : Nat)) : Int)) :=
  .of_wp fun M A E s Q h => by
    obtain ⟨hp, g, d', tk, os⟩ := s
    have f1 := F.conv_sub_int
    have f2 := F.madeHere_int
    have hr := read16 ha hb hc hd
    have hk : KIN.Hid ((int_private% "readNumeral") 0 16 [hexD a, hexD b, hexD c, hexD d] = (int_private% "Numeral.value") (((a * 4096 + b * 256 + c * 16 + d : Nat)) : Int)) := KIN.Hid.mk hr
    clear hr
    repeat (any_goals (first
      | assumption
      | wp_step))
    have e1 : (if ((⟨#[hexD a, hexD b, hexD c, hexD d]⟩ : PySem.Str).cps.all fun x => decide (x < 128)) = true then (⟨#[hexD a, hexD b, hexD c, hexD d]⟩ : PySem.Str).cps.toList else Unicode.numberText (⟨#[hexD a, hexD b, hexD c, hexD d]⟩ : PySem.Str).cps.toList) = [hexD a, hexD b, hexD c, hexD d] := by
      obtain ⟨_, _, _, _, _, a6, a7, _⟩ := hexD_all ⟨a, ha⟩
      obtain ⟨_, _, _, _, _, b6, b7, _⟩ := hexD_all ⟨b, hb⟩
      obtain ⟨_, _, _, _, _, c6, c7, _⟩ := hexD_all ⟨c, hc⟩
      obtain ⟨_, _, _, _, _, d6, d7, _⟩ := hexD_all ⟨d, hd⟩
      dsimp only at a6 b6 c6 d6
      rw [if_pos]
      simp [a6, b6, c6, d6]
    have e2 : List.takeWhile (fun x => x != 0) [hexD a, hexD b, hexD c, hexD d] = [hexD a, hexD b, hexD c, hexD d] := by
      obtain ⟨_, _, _, _, _, a6, a7, _⟩ := hexD_all ⟨a, ha⟩
      obtain ⟨_, _, _, _, _, b6, b7, _⟩ := hexD_all ⟨b, hb⟩
      obtain ⟨_, _, _, _, _, c6, c7, _⟩ := hexD_all ⟨c, hc⟩
      obtain ⟨_, _, _, _, _, d6, d7, _⟩ := hexD_all ⟨d, hd⟩
      dsimp only at a7 b7 c7 d7
      simp [a7, b7, c7, d7]
    rw [e1, e2, if_pos (show [hexD a, hexD b, hexD c, hexD d].length ≤ 640 by simp)]
    repeat (any_goals (first
      | assumption
      | wp_step))
    all_goals (try (rw [show Int.toNat 16 = 16 from rfl, hk.out]))
    all_goals (try dsimp only)
    repeat (any_goals (first
      | assumption
      | wp_step))
    all_goals first | exact ⟨_, rfl, h⟩ | skip
theorem typeCall_int_2 (a b : Value) : checkTypeCall "int" ⟨[a, b], []⟩ = pure () := by kernel_rfl
theorem newCall_int_2 (a b : Value) : checkBuiltinCall "int.__new__" ⟨[.type "int", a, b], []⟩ = pure () := by kernel_rfl
theorem args_init_3 (a b c : Value) : argsOk "object.__init__" ⟨[a, b, c], []⟩ := by
  unfold argsOk; rw [signature?_of (id := "object.__init__") (n := ['_', '_', 't', 'i', 'n', 'i', '_', '_']) (o := ['t', 'c', 'e', 'j', 'b', 'o']) (by kernel_rfl) F.owner_object]; kernel_rfl
theorem call_int16 {prog : Program} {w : World} {A : Around} {E : Value → Shared → Prop} {s : Shared} {Q : Value → Shared → Prop} {x : PySem.Str} {a b c d : Nat} {t u : Tok} (ha : a < 16) (hb : b < 16) (hc : c < 16) (hd : d < 16) (hx : x = ⟨#[hexD a, hexD b, hexD c, hexD d]⟩)
    (h : Q (.int (((a * 4096 + b * 256 + c * 16 + d : Nat)) : Int) s.toks) { s with toks := s.toks + 1 }) : wpAny (model prog w) A (call (.type "int") [.str x t, .int 16 u]) Q E s := by
  subst hx
  exact callType_new F.called_int F.newNe_int (typeCall_int_2 _ _) (newCall_int_2 _ _) (fun obj => args_init_3 obj _ _) F.entry_int_new (gives_16 ha hb hc hd).meets (show (Made.int _).post _ s from ⟨rfl, h⟩)
end Mine
end
-- part FHex4
section
open PySem PySem.Spec PySem.Calls PySem.W PyProof.Rows PySem.Builtin.Re
namespace Mine
theorem call_match4' {prog : Program} {w : World} {A : Around} {E : Value → Shared → Prop} {s : Shared} {K : Frag} {a b c d : Nat} {x : Str} {t : Tok} {Q : Value → Shared → Prop} (X : K.In s.heap) (h1 : K.lookup 105 = some (bmObj "re.Pattern.match" (.ref 104))) {pv f1 : Value} (h2 : K.lookup 104 = some (patObj pv f1 0 103)) (h3 : K.lookup 103 = some (tupObj (lH.map rawInt)))
    (hx : x = ⟨#[a, b, c, d]⟩) (ha : isHex a = true) (hb : isHex b = true) (hc : isHex c = true) (hd : isHex d = true)
    (h : ∀ h' m, s.heap.StaysIn h' → MatchAt h' m x [(0 : Nat), (4 : Nat)] → FreshM s.heap h' m → s.heap.objs.size < h'.objs.size → Q (.ref m) { s with heap := h' }) : wpAny (model prog w) A (call (.ref 105) [.str x t]) Q E s :=
  call_match4 hx (bmK X h1) ⟨pv, f1, 103, X _ _ h2, X _ _ h3⟩ ha hb hc hd h
local macro_rules | `(tactic| walk_at "callWith ref") => `(tactic| (k_here; k_dflt (refine' callWith_B (id := "re.Pattern.match") (self := .ref 104) ?k1 ?_; (case k1 => exact bmK (by k_in) (by k_is)))))
local macro_rules | `(tactic| walk_at "And") => `(tactic| ((with_reducible show BmAt _ _ _ _ ∧ _); refine ⟨bmK (by k_in) (by k_is), ?_⟩; try dsimp only [List.nil_append, List.cons_append]))
local macro_rules | `(tactic| walk_at "call ref") => `(tactic| (k_here; k_dflt (refine' call_match4' ?X ?h1 ?h2 ?h3 ?hx ?ha ?hb ?hc ?hd ?_; (case X => k_in); (case h1 => k_is); (case h2 => k_is); (case h3 => k_is); (case hx => assumption); (case ha => assumption); (case hb => assumption); (case hc => assumption); (case hd => assumption)); intro hM' mM' stM' mmM' ffM' szM'; (have FM' := fr_grow (by k_asm) stM'); (have NM' := news_grow (by k_asm) stM'); (try dsimp only at FM' NM')))
theorem hexD_isHex {d : Nat} (h : d < 16) : isHex (hexD d) = true :=
  (show ∀ d : Fin 16, isHex (hexD d.val) = true from by decide +kernel) ⟨d, h⟩
theorem slice_ex {x : Str} {a b : Nat} (hab : a ≤ b) (hb : b ≤ x.cps.size) : Txt.slice x (some (a : Int)) (some (b : Int)) = ⟨x.cps.extract a b⟩ := by
  have e0 := StrLaws.sliced_plain x hab hb
  have e1 : (x.cps.extract a b).toList = (x.cps.toList.drop a).take (b - a) := by simp
  unfold Txt.slice
  split
  · rename_i h
    have h2 : (Builtin.Str.strSliceIndices (some (a : Int)) (some (b : Int)) 1 x.length).length = x.length := by simpa using h
    rw [StrLaws.strSliceIndices_plain (len := x.length) hab hb, List.length_map, List.length_range] at h2
    have h3 : x.length = x.cps.size := rfl
    refine PySem.Str.ext' (Array.toList_inj.mp ?_)
    rw [e1, show a = 0 by omega, show b = x.cps.size by omega]
    simp only [Nat.sub_zero, List.drop_zero]
    exact (List.take_of_length_le (Nat.le_of_eq Array.length_toList)).symm
  · rw [e0]
    refine PySem.Str.ext' (Array.toList_inj.mp ?_)
    rw [e1]
theorem slice4 {x : Str} {e : Nat} (he : e + 4 ≤ x.cps.size) : Txt.slice x (some (e : Int)) (some ((e : Int) + 4)) = ⟨x.cps.extract e (e + 4)⟩ :=
  slice_ex (b := e + 4) (by omega) he
local macro_rules | `(tactic| walk_at "truthy ref") => `(tactic| (k_here; refine truthy_match (by assumption) ?_))
local macro_rules | `(tactic| walk_at "call type:int") => `(tactic| (k_here; (with_reducible show wpAny _ _ (call (Value.type "int") [Value.str _ _, Value.int _ _]) _ _ _); (refine' call_int16 ?ha ?hb ?hc ?hd ?hx ?_; (case hx => assumption); (case ha => assumption); (case hb => assumption); (case hc => assumption); (case hd => assumption))))
set_option maxRecDepth 100000 in
set_option maxHeartbeats 4000000 in
theorem hex4_ok (w : World) (x : Str) (t u : Tok) (e a b c d : Nat) : Con w 113 [.str x t, .int (e : Int) u] (fun _ => x.cps.size ≤ 3000 ∧ e + 4 ≤ x.cps.size ∧ x.cps.extract e (e + 4) = #[hexD a, hexD b, hexD c, hexD d] ∧ a < 16 ∧ b < 16 ∧ c < 16 ∧ d < 16)
    (fun g h v => ∃ r u1 u2 n, v = .ref r ∧ h.get? r = some { cls := .type "tuple", data := .seq #[.int (((a * 4096 + b * 256 + c * 16 + d : Nat)) : Int) u1, .int (e + 4) u2] n } ∧ g.get? r = none) := by
  unfold Con; k_with_none; w_top off; k_fill
  intro p loose mean mg mb dp un gd outer base s B X T hpre hdp hun
  obtain ⟨hz, he, hxe, ha, hb, hc, hd'⟩ := hpre
  have ha1 := hexD_isHex ha
  have hb1 := hexD_isHex hb
  have hc1 := hexD_isHex hc
  have hd1 := hexD_isHex hd'
  k_dflt (refine' enter ?B ?X ?T ?o ?cd ?room ?bind ?loc ?_ ?c1 ?c2 ?c3 ?c4; (case B => k_asm); (case X => k_asm); (case T => k_asm); (case o => k_is); (case cd => k_is); (case room => (dsimp only [ar]; simp only [recursionLimit] at *; omega)); (case bind => exact binds_K (by k_asm) rfl (by k_is) rfl rfl rfl); (case c4 => decide); (case loc => exact locs rfl); (case c1 => exact rfl); (case c2 => exact rfl); (case c3 => exact rfl))
  intro L' h₁ tk F N
  have hsl : Txt.slice x (some (e : Int)) (some ((e : Int) + 4)) = ⟨#[hexD a, hexD b, hexD c, hexD d]⟩ := by rw [slice4 he, hxe]
  try dsimp only
  try k_fold
  k_steps
  rename Fr _ _ _ _ => F9
  rename News _ _ _ _ => N9
  refine endV_of F9 rfl ⟨_, _, _, _, rfl, (N9 _ List.mem_cons_self).1, (N9 _ List.mem_cons_self).2.2⟩
end Mine
end
-- part FUnits
section
open PySem PySem.Spec PySem.Calls PySem.W PyProof.Rows
namespace Mine
local macro_rules | `(tactic| walk_at "no such key") => `(tactic| fail "none")
local macro_rules | `(tactic| walk_at "no such key") => `(tactic| fail "none")
local macro_rules | `(tactic| walk_at "no such key") => `(tactic| fail "none")
local macro_rules | `(tactic| walk_at "no such key") => `(tactic| fail "none")
local macro_rules | `(tactic| walk_at "no such key") => `(tactic| fail "none")
local macro_rules | `(tactic| walk_at "no such key") => `(tactic| fail "none")
local macro_rules | `(tactic| walk_at "no such key") => `(tactic| fail "none")
local macro_rules | `(tactic| walk_at "no such key") => `(tactic| fail "none")
local macro_rules | `(tactic| walk_at "no such key") => `(tactic| fail "none")
local macro_rules | `(tactic| walk_at "no such key") => `(tactic| fail "none")
local macro_rules | `(tactic| walk_at "no such key") => `(tactic| fail "none")
local macro_rules | `(tactic| walk_at "no such key") => `(tactic| fail "none")
local macro_rules | `(tactic| walk_at "no such key") => `(tactic| fail "none")
local macro_rules | `(tactic| walk_at "no such key") => `(tactic| fail "none")
local macro_rules | `(tactic| walk_at "no such key") => `(tactic| fail "none")
local macro_rules | `(tactic| walk_at "no such key") => `(tactic| fail "none")
local macro_rules | `(tactic| walk_at "no such key") => `(tactic| fail "none")
local macro_rules | `(tactic| walk_at "no such key") => `(tactic| fail "none")
local macro_rules | `(tactic| walk_at "no such key") => `(tactic| fail "none")
local macro_rules | `(tactic| walk_at "no such key") => `(tactic| fail "none")
local macro_rules | `(tactic| walk_at "no such key") => `(tactic| fail "none")
local macro_rules | `(tactic| walk_at "no such key") => `(tactic| fail "none")
local macro_rules | `(tactic| walk_at "no such key") => `(tactic| fail "none")
local macro_rules | `(tactic| walk_at "no such key") => `(tactic| fail "none")
local macro_rules | `(tactic| walk_at "no such key") => `(tactic| fail "none")
local macro_rules | `(tactic| walk_at "no such key") => `(tactic| fail "none")
local macro_rules | `(tactic| walk_at "no such key") => `(tactic| fail "none")
local macro_rules | `(tactic| walk_at "no such key") => `(tactic| fail "none")
local macro_rules | `(tactic| walk_at "no such key") => `(tactic| fail "none")
local macro_rules | `(tactic| walk_at "no such key") => `(tactic| fail "none")
def unitsI : List Int → List Int
  | [] => []
  | n :: r => if 65535 < n then (55296 + (n - 65536).fdiv 1024) :: (56320 + (n - 65536).fmod 1024) :: unitsI r else n :: unitsI r
theorem unitsI_snoc : ∀ (l : List Int) (n : Int), unitsI (l ++ [n]) = unitsI l ++ (if 65535 < n then [55296 + (n - 65536).fdiv 1024, 56320 + (n - 65536).fmod 1024] else [n])
  | [], n => by simp only [List.nil_append, unitsI]
  | a :: l, n => by
    simp only [List.cons_append, unitsI, unitsI_snoc l n]
    split <;> simp
theorem unitsI_length : ∀ l : List Int, (unitsI l).length ≤ 2 * l.length
  | [] => Nat.le_refl _
  | a :: l => by have := unitsI_length l; simp only [unitsI, List.length_cons]; split <;> (simp only [List.length_cons]; omega)
def KstL (l : Addr) (x : PySem.Str) (stored : List PySem.Str) (m₀ : PySem.Str → Option Value) (P : List Int → Array Value → Prop) (pre : List Int) : (PySem.Str → Option Value) → List (Addr × Obj) → Prop :=
  KstS (σ := Array Value × Nat) (fun c => [(l, listOf c.1 c.2)]) (fun _ => []) (fun _ => True) x stored m₀ (fun pre c => P pre c.1) pre
section
variable {prog : Program} {w : World} {A : Around} {E : Value → Shared → Prop} {s : Shared} {env : Env} {h₀ : Heap} {x : PySem.Str} {body : List Stmt} {Q : Flow → Shared → Prop}
theorem loop_text_list {xt : PySem.Str} {tx : Tok} {m₀ : PySem.Str → Option Value} {l : Addr} {a₀ : Array Value} {n₀ : Nat} (stored : List PySem.Str) (P : List Int → Array Value → Prop)
    (hh : A.handled = none) (F : Fr h₀ env.locals s.heap m₀) (N : News h₀ env.locals s.heap [(l, listOf a₀ n₀)]) (hp : P [] a₀)
    (turn : ∀ (c : Array Value) (n₁ : Nat) (pre post : List Int) (n : Nat) t (u : PySem.Str → Option Value) h tk own, KStt.codes xt = pre ++ (n : Int) :: post → OwnOff own [l] → KstMark → P pre c →
      Fr h₀ env.locals h (fun y => if y = x then some (.str ⟨#[n]⟩ t) else if stored.contains y then u y else m₀ y) → News h₀ env.locals h ((l, listOf c n₁) :: own) →
      wpAny (model prog w) A (execs body env) (InvPostN h₀ env.locals (KstL l x stored m₀ P (pre ++ [(n : Int)])) own [l] { s with heap := h, toks := tk } Q) E { s with heap := h, toks := tk })
    (done : ∀ (c : Array Value) (n₁ : Nat) (u : PySem.Str → Option Value) h tk, P (KStt.codes xt) c → Fr h₀ env.locals h (fun y => if y = x then u y else if stored.contains y then u y else m₀ y) → News h₀ env.locals h [(l, listOf c n₁)] → Q .next { s with heap := h, toks := tk }) :
    wpAny (model prog w) A (pyIter (.str xt tx)) (fun it s₂ => LoopAtV prog w A h₀ env x body Q E it s₂) E s :=
  KStt.kst_text (σ := Array Value × Nat) (fun c => [(l, listOf c.1 c.2)]) (fun _ => []) (fun _ => True) stored (fun pre c => P pre c.1) (a₀, n₀) hh F N trivial (fun _ h => nomatch h) hp
    (fun c pre post n t u h tk own h1 h2 _ h3 F N => turn c.1 c.2 pre post n t u h tk own h1 h2 kstMark h3 F N)
    (fun c u h tk _ h1 F N => done c.1 c.2 u h tk h1 F N)
theorem loop_end_list {l L : Addr} {stored : List PySem.Str} {m₀ m' : PySem.Str → Option Value} {P : List Int → Array Value → Prop} {pre : List Int} {own : List (Addr × Obj)} {s₁ : Shared} {h' : Heap} {tk : Nat} {c : Array Value} {n₁ : Nat}
    (F : Fr h₀ L h' m') (N : News h₀ L h' ((l, listOf c n₁) :: own)) (hp : P pre c) (hk : ∀ z, z ≠ x → (∀ p ∈ ([] : List (PySem.Str × Value)), z ≠ p.1) → stored.contains z = false → m' z = m₀ z) :
    InvEndN h₀ L (KstL l x stored m₀ P pre) own [l] s₁ { s₁ with heap := h', toks := tk } :=
  InvEndN.intro F N ⟨(c, n₁), rfl, trivial, (fun _ h => nomatch h), hk, hp⟩ rfl (fun _ hp => (List.mem_singleton.mp hp) ▸ List.Mem.head _) (fun _ hp => .tail _ hp)
end
set_option maxRecDepth 100000 in
set_option maxHeartbeats 2000000 in
theorem units_ok (w : World) (x : Str) (t : Tok) : Con w 138 [.str x t] (fun _ => x.length ≤ 100 ∧ ∀ c ∈ KStt.codes x, c ≤ 1114111) (fun g h v => ∃ u us n, v = .ref u ∧ h.get? u = some (listOf us.toArray n) ∧ g.get? u = none ∧ IntsAre us (unitsI (KStt.codes x))) := by
  unfold Con; k_with_none; w_top off; k_fill
  intro p loose mean mg mb dp un gd outer base s B X T hpre hdp hun
  obtain ⟨hx1, hx2⟩ := hpre
  k_dflt (refine' enter ?B ?X ?T ?o ?cd ?room ?bind ?loc ?_ ?c1 ?c2 ?c3 ?c4; (case B => k_asm); (case X => k_asm); (case T => k_asm); (case o => k_is); (case cd => k_is); (case room => (dsimp only [ar]; simp only [recursionLimit] at *; omega)); (case bind => exact BindsTo.of_eq rfl); (case c4 => decide); (case loc => exact locs rfl); (case c1 => exact rfl); (case c2 => exact rfl); (case c3 => exact rfl))
  intro L' h₁ tk F N
  try dsimp only
  try k_fold
  k_with "pyIter str" => fail "no"
  k_steps
  rename Fr _ _ _ _ => F1
  rename News _ _ _ _ => N1
  refine loop_text_list [PySem.Str.ofString "n"] (fun pre c => IntsAre c.toList (unitsI pre) ∧ c.size ≤ 2 * pre.length) rfl F1 N1 ⟨.nil, Nat.le_refl _⟩ ?_ ?_
  · intro c n₁ pre post n t' u h tk' own hcod off hmk hP F2 N2
    clear F1 N1
    have hlen : pre.length ≤ 100 := by
      have := congrArg List.length hcod
      rw [KStt.codes_length] at this
      simp only [List.length_append, List.length_cons] at this
      omega
    have hsz : c.size ≤ 200 := by omega
    try k_fold
    k_steps
    all_goals (try dsimp only)
    all_goals (try k_unfold)
    all_goals (try dsimp only)
    all_goals (rename Fr _ _ _ _ => F9; rename News _ _ _ _ => N9; refine loop_end_list F9 N9 ?_ (by kst_same))
    · refine ⟨?_, ?_⟩
      · rw [unitsI_snoc, if_pos (by assumption), Array.toList_push, Array.toList_push, List.append_assoc]
        exact hP.1.append (.cons _ _ (.cons _ _ .nil))
      · simp only [Array.size_push, List.length_append, List.length_cons, List.length_nil]; omega
    · refine ⟨?_, ?_⟩
      · rw [unitsI_snoc, if_neg (by assumption), Array.toList_push]
        exact hP.1.append (.cons _ _ .nil)
      · simp only [Array.size_push, List.length_append, List.length_cons, List.length_nil]; omega
  · intro c n₁ u h tk' hP F2 N2
    clear F1 N1
    try k_fold
    k_steps
    all_goals (try dsimp only)
    all_goals (try k_unfold)
    all_goals (try dsimp only)
    rename Fr _ _ _ _ => F9
    rename News _ _ _ _ => N9
    refine endV_of F9 rfl ⟨_, c.toList, n₁, rfl, ?_, (N9 _ (List.Mem.head _)).2.2, hP.1⟩
    rw [Array.toArray_toList]
    exact (N9 _ (List.Mem.head _)).1
end Mine
end
-- part ReSub
section
open PySem PySem.Spec PySem.Calls PySem.W PyProof.Rows PySem.Builtin.Re
namespace Mine
def MatchAt0 (h : Heap) (a : Addr) (x : Str) (i : Nat) : Prop := ∃ L, MatchAt h a x L ∧ L.getD 0 (-1) = (i : Int) ∧ L.getD 1 (-1) = ((i + 1 : Nat) : Int) ∧ 0 < L.length
structure Finder (L : List Int) (g : Nat) (bad : Nat → Bool) : Prop where
  find : ∀ (text : Array Nat) (s : Nat), s ≤ text.size → text.size ≤ 1000000 →
    (∃ i, s ≤ i ∧ i < text.size ∧ bad (text.getD i 0) = true ∧ (∀ j, s ≤ j → j < i → bad (text.getD j 0) = false) ∧ ∃ m', Go 100000000 (Sre.forSearch (L.map Int.toNat).toArray text g s text.size false) m' ∧ m'.outcome = some .matched ∧ m'.start = i ∧ m'.handed = i + 1 ∧
      (∀ (MM : Model) (A : Around) (E : Value → Shared → Prop) (st : Shared) (pat : Value) (x : Str) (tk : Tok) (pos lim : Nat) (Q : Value → Shared → Prop),
        (∀ h' a, st.heap.StaysIn h' → MatchAt0 h' a x i → Q (.ref a) { st with heap := h' }) → wpAny MM A (reNewMatch pat (.str x tk) g pos lim m') Q E st))
    ∨ ((∀ j, s ≤ j → j < text.size → bad (text.getD j 0) = false) ∧ ∃ m', Go 100000000 (Sre.forSearch (L.map Int.toNat).toArray text g s text.size false) m' ∧ m'.outcome = some .failed)
theorem finderA : Finder lA 1 badA where
  find text s hs hz := by
    rcases forSearchA text s hs hz with ⟨i, h1, h2, h3, h4, m', r1, r2, r3, r4, r5, r6, r7⟩ | r
    · exact .inl ⟨i, h1, h2, h3, h4, m', r1, r2, r3, r4, fun MM A E st pat x tk pos lim Q h => newMatchA r3 r4 r5 r7 fun h' a st' hm _ _ => h h' a st' ⟨_, hm, rfl, rfl, by show 0 < 4; decide⟩⟩
    · exact .inr r
theorem finderW : Finder lW 0 stops where
  find text s hs hz := by
    rcases forSearchW text s hs with ⟨i, h1, h2, h3, h4, m', r1, r2, r3, r4, r5, r6, r7⟩ | r
    · exact .inl ⟨i, h1, h2, h3, h4, m', r1, r2, r3, r4, fun MM A E st pat x tk pos lim Q h => newMatch0 r3 r4 fun h' a st' hm _ _ => h h' a st' ⟨_, hm, rfl, rfl, by show 0 < 2; decide⟩⟩
    · exact .inr r
def subF (bad : Nat → Bool) (f : Nat → List Nat) (l : List Nat) : List Nat := l.flatMap fun c => if bad c then f c else [c]
theorem subF_clean {bad : Nat → Bool} {f : Nat → List Nat} : ∀ {l : List Nat}, (∀ c ∈ l, bad c = false) → subF bad f l = l
  | [], _ => rfl
  | c :: r, h => by
    unfold subF
    rw [List.flatMap_cons, h c (List.mem_cons_self ..)]
    show c :: subF bad f r = c :: r
    rw [subF_clean fun d hd => h d (List.mem_cons_of_mem _ hd)]
theorem subF_append {bad : Nat → Bool} {f : Nat → List Nat} (a b : List Nat) : subF bad f (a ++ b) = subF bad f a ++ subF bad f b := by
  unfold subF; rw [List.flatMap_append]
theorem subF_bad {bad : Nat → Bool} {f : Nat → List Nat} {c : Nat} {r : List Nat} (h : bad c = true) : subF bad f (c :: r) = f c ++ subF bad f r := by
  unfold subF; rw [List.flatMap_cons, h]; rfl
theorem subF_len {bad : Nat → Bool} {f : Nat → List Nat} {k : Nat} (hk : 1 ≤ k) (hf : ∀ c, (f c).length ≤ k) : ∀ l : List Nat, (subF bad f l).length ≤ k * l.length
  | [] => Nat.zero_le _
  | c :: r => by
    have ih := subF_len hk hf (bad := bad) r
    have hc := hf c
    unfold subF at ih ⊢
    rw [List.flatMap_cons, List.length_append, List.length_cons, Nat.mul_add, Nat.mul_one]
    split
    · omega
    · simp only [List.length_cons, List.length_nil]; omega
def flatS (ys : List Str) : List Nat := ys.flatMap fun y => y.cps.toList
theorem flatS_snoc (ys : List Str) (y : Str) : flatS (ys ++ [y]) = flatS ys ++ y.cps.toList := by simp [flatS]
theorem flatS_len : ∀ ys : List Str, (flatS ys).length = (ys.map (·.length)).sum
  | [] => rfl
  | y :: r => by
    have ih := flatS_len r
    unfold flatS at ih ⊢
    rw [List.flatMap_cons, List.length_append, List.map_cons, List.sum_cons, ih]
    rfl
theorem glued_fold : ∀ (l : List Str) (acc : Array Nat), (l.foldl (fun acc p => acc ++ (#[] : Array Nat) ++ p.cps) acc).toList = acc.toList ++ flatS l
  | [], acc => by simp [flatS]
  | y :: r, acc => by
    rw [List.foldl_cons, glued_fold r]
    simp [flatS]
theorem join_empty (ys : List Str) : Txt.join ⟨#[]⟩ ys = ⟨(flatS ys).toArray⟩ := by
  refine PySem.Str.ext' (Array.toList_inj.mp ?_)
  cases ys with
  | nil => rfl
  | cons y r =>
    show (List.foldl (fun acc p => acc ++ (#[] : Array Nat) ++ p.cps) y.cps r).toList = _
    rw [glued_fold]
    simp [flatS]
theorem extract_list (x : Str) (b e : Nat) : (x.cps.extract b e).toList = (x.cps.toList.drop b).take (e - b) := by
  simp
theorem getD_list (x : Array Nat) (i : Nat) : x.getD i 0 = x.toList.getD i 0 := by
  simp
theorem below_keeps {A : Around} {base g h' : Heap} {outer : List Env} (B : Below A base outer g) (st : g.StaysIn h') : Below A base outer h' :=
  ⟨B.stack, fun b o e => st b o (B.stays b o e), B.frames.of_keeps fun b o e _ => ⟨o, st b o e, rfl⟩⟩
section
variable {prog : Program} {w : World} {A : Around} {E : Value → Shared → Prop} {s : Shared}
theorem whole_of {MM : Model} {a : Addr} {L : List Int} {g : Nat} {x : Str} {t : Tok} {Q : ReTarget → Shared → Prop} (hp : PatAt s.heap a L g) (h : Q ⟨.ref a, .str x t, (L.map Int.toNat).toArray, x.cps, 0, g, 0, x.cps.size⟩ s) : wpAny MM A (reWholeTarget (.ref a) (.str x t)) Q E s := by
  obtain ⟨pv, f1, c, e1, e2⟩ := hp
  unfold reWholeTarget
  refine wpAny_bind (wpAny_fieldsOf e1 rfl ?_)
  refine wpAny_bind (wpAny_pure ?_)
  refine wpAny_bind (wpAny_pure ?_)
  refine wpAny_bind (rawItems_of e2 (wpAny_pure ?_))
  have e3 : (L.toArray.map (·.toNat)) = (L.map Int.toNat).toArray := by rw [List.map_toArray]
  show Q ⟨.ref a, .str x t, L.toArray.map (·.toNat), x.cps, 0, ((g : Int)).toNat, 0, x.cps.size⟩ s
  rw [e3, Int.toNat_natCast]
  exact h
theorem push_at {MM : Model} {l : Addr} {its : Array Value} {n : Nat} {v : Value} {I : Heap → Prop} {Q : Unit → Shared → Prop} (hl : s.heap.get? l = some (listOf its n)) (hI : I s.heap) (hst : ∀ h h', I h → (∀ b o, b ≠ l → h.get? b = some o → h'.get? b = some o) → I h') (hz : its.size ≤ 100000)
    (h : ∀ h', h'.get? l = some (listOf (its.push v) (n + 1)) → I h' → Q () { s with heap := h' }) : wpAny MM A (updateSeq l (·.push v)) Q E s := by
  refine wpAny_updateSeq hl rfl (h _ ?_ (hst _ _ hI ?_)) (by rw [sizeLine_eq]; omega) (by rw [Array.size_push, sizeLine_eq]; omega)
  · rw [Heap.get?_update_self _ hl (by rw [mapSeq_push]; rfl), mapSeq_push]
  · intro b o hb e
    rw [Heap.get?_update_ne _ _ _ _ hb]
    exact e
theorem opt_push {MM : Model} {α : Type} {c : Prop} [Decidable c] {m : Sem Value} {k : Value → Sem Unit} {T : Sem α} {Q : α → Shared → Prop} (P : Shared → Prop) (h1 : c → wpAny MM A m (fun d s' => wpAny MM A (k d) (fun _ s'' => P s'') E s') E s) (h2 : ¬ c → P s)
    (hT : ∀ s', P s' → wpAny MM A T Q E s') : wpAny MM A (if c then (m >>= fun d => k d >>= fun _ => T) else T) Q E s := by
  by_cases hc : c
  · rw [if_pos hc]
    exact wpAny_bind (wpAny_mono (h1 hc) (fun d s' h => wpAny_bind (wpAny_mono h (fun _ s'' h' => hT s'' h') fun _ _ x => x)) fun _ _ x => x)
  · rw [if_neg hc]; exact hT s (h2 hc)
theorem slice_bad {bad : Nat → Bool} {x : Str} {p i : Nat} (hi : i ≤ x.cps.size) (h : ∀ j, p ≤ j → j < i → bad (x.cps.getD j 0) = false) : ∀ c ∈ (x.cps.toList.drop p).take (i - p), bad c = false := by
  intro c hc
  obtain ⟨k, hk, rfl⟩ := List.mem_iff_getElem.mp hc
  have hk' : k < i - p := by
    have := List.length_take_le (i - p) (x.cps.toList.drop p)
    omega
  have := h (p + k) (by omega) (by omega)
  rw [getD_list] at this
  rw [List.getElem_take, List.getElem_drop]
  rwa [List.getD_eq_getElem?_getD, List.getElem?_eq_getElem (by rw [Array.length_toList]; omega), Option.getD_some] at this
theorem drop_split {x : Str} {p i : Nat} (hpi : p ≤ i) (_hi : i ≤ x.cps.size) : x.cps.toList.drop p = (x.cps.toList.drop p).take (i - p) ++ x.cps.toList.drop i := by
  have := (List.take_append_drop (i - p) (x.cps.toList.drop p)).symm
  rw [List.drop_drop, show p + (i - p) = i by omega] at this
  exact this
theorem drop_here {x : Str} {i : Nat} (hi : i < x.cps.size) : x.cps.toList.drop i = x.cps.getD i 0 :: x.cps.toList.drop (i + 1) := by
  rw [getD_list, List.drop_eq_getElem_cons (by rw [Array.length_toList]; exact hi), List.getD_eq_getElem?_getD, List.getElem?_eq_getElem (by rw [Array.length_toList]; exact hi)]; rfl
abbrev loopArgs (a fo l : Addr) (x : Str) (t : Tok) (n p : Int) : List Value := [.ref a, .str x t, .ref fo, rawInt 1, rawInt 0, rawInt n, rawInt p, rawInt p, .bool false, .ref l, .bool false]
theorem loop_ok {a fo l : Addr} {x : Str} {t : Tok} {L : List Int} {gr : Nat} {bad : Nat → Bool} {f : Nat → Str} {I : Heap → Prop} {s₀ : Shared} {R : Result → Shared → Prop}
    (FD : Finder L gr bad) (hp : ∀ h, I h → PatAt h a L gr) (hst : ∀ h h', I h → (∀ b o, b ≠ l → h.get? b = some o → h'.get? b = some o) → I h') (hx : x.cps.size ≤ 1000) (hfl : ∀ c, (f c).cps.size ≤ 12)
    (hrepl : ∀ (s' : Shared) (m : Addr) (i : Nat) (its : Array Value) (nn : Nat) (E' : Value → Shared → Prop) (Q : Value → Shared → Prop), I s'.heap → s'.heap.get? l = some (listOf its nn) → MatchAt0 s'.heap m x i → i < x.cps.size → bad (x.cps.getD i 0) = true →
      (∀ h' tk t', I h' → h'.get? l = some (listOf its nn) → Q (.str (f (x.cps.getD i 0)) t') { s' with heap := h', toks := tk }) → wpAny (model prog w) A.in1 (call (.ref fo) [.ref m]) Q E' s')
    (hR : ∀ h' tk t', I h' → R (.ok (.ret (.str ⟨(subF bad (fun c => (f c).cps.toList) x.cps.toList).toArray⟩ t'))) { s₀ with heap := h', toks := tk }) :
    ∀ (d p : Nat) (n : Int) (hh : Heap) (tk : Nat) (its : Array Value) (nn : Nat) (ys : List Str), p + d = x.cps.size → I hh → hh.get? l = some (listOf its nn) → StrsAre its.toList ys →
      flatS ys ++ subF bad (fun c => (f c).cps.toList) (x.cps.toList.drop p) = subF bad (fun c => (f c).cps.toList) x.cps.toList → its.size ≤ 2 * p →
      codeAny (model prog w) A (.builtin "re.Pattern.sub.loop" ⟨loopArgs a fo l x t n p, []⟩) R { s₀ with heap := hh, toks := tk } := by
  intro d
  induction d using Nat.strongRecOn with
  | ind d ih =>
  intro p n hh tk its nn ys hpd hgh hl hys hflat hsz
  refine codeAny_builtin (by decide +kernel) entry_subloop ?_
  unfold Builtin.«re.Pattern.sub.loop»
  dsimp only [rawInt]
  refine wpAny_bind (whole_of (hp _ hgh) ?_)
  rw [if_neg (by decide)]
  dsimp only
  rw [if_neg (by simp)]
  refine wpAny_bind ?_
  unfold reNextFound
  dsimp only
  rw [Int.toNat_natCast]
  rcases FD.find x.cps p (by omega) (by omega) with ⟨i, h1, h2, h3, h4, m', r1, r2, r3, r4, r5⟩ | ⟨h1, m', r1, r2⟩
  · refine run_matched r1 r2 ?_
    dsimp only
    rw [r3, r4]
    have hsplit := drop_split h1 (Nat.le_of_lt h2)
    have hclean := slice_bad (Nat.le_of_lt h2) h4
    refine opt_push (fun s' => ∃ hh' tk' its' nn' ys', s' = { s₀ with heap := hh', toks := tk' } ∧ I hh' ∧ hh'.get? l = some (listOf its' nn') ∧ StrsAre its'.toList ys' ∧
      flatS ys' ++ subF bad (fun c => (f c).cps.toList) (x.cps.toList.drop i) = subF bad (fun c => (f c).cps.toList) x.cps.toList ∧ its'.size ≤ 2 * i + 1) ?_ ?_ ?_
    · intro hpi
      refine slice_of (by omega) ?_
      refine push_at (I := I) hl hgh hst (by omega) fun h' e1 e2 => ⟨h', tk + 1, _, nn + 1, ys ++ [⟨x.cps.extract p i⟩], rfl, e2, e1, ?_, ?_, ?_⟩
      · rw [Array.toList_push]; exact hys.append' (.cons _ _ .nil)
      · rw [flatS_snoc, ← hflat, hsplit, subF_append, subF_clean hclean, extract_list, List.append_assoc]
      · rw [Array.size_push]; omega
    · intro hpi
      have e : i = p := by omega
      subst e
      exact ⟨hh, tk, its, nn, ys, rfl, hgh, hl, hys, hflat, by omega⟩
    · rintro _ ⟨hh', tk', its', nn', ys', rfl, q1, q2, q3, q4, q5⟩
      rw [if_neg (by decide)]
      refine wpAny_bind (r5 _ _ _ _ _ _ _ _ _ _ fun h' b st hm => ?_)
      rw [if_pos (by decide)]
      refine wpAny_bind (wpAny_holding ?_)
      refine hrepl _ b i its' nn' _ _ (hst _ _ q1 fun b' o _ e => st b' o e) (st _ _ q2) hm h2 h3 fun h'' tk'' t'' q6 q7 => ?_
      rw [if_pos (by rfl)]
      refine wpAny_bind (push_at (I := I) (l := l) (its := its') (n := nn') q7 q6 hst (by omega) fun h3' e1 e2 => ?_)
      refine wpAny_pure ⟨plainId_quiet (by decide +kernel) _, ?_⟩
      have e5 : (i + 1 == i) = false := by simp
      rw [e5]
      refine ih (d - (i + 1 - p)) (by omega) (i + 1) (n + 1) h3' _ _ _ (ys' ++ [f (x.cps.getD i 0)]) (by omega) e2 e1 ?_ ?_ ?_
      · rw [Array.toList_push]; exact q3.append' (.cons _ _ .nil)
      · rw [flatS_snoc, ← q4, drop_here h2, subF_bad h3, List.append_assoc]
      · rw [Array.size_push]; omega
  · refine run_failed r1 r2 ?_
    dsimp only
    have hall : x.cps.toList.drop p = (x.cps.toList.drop p).take (x.cps.size - p) := by
      rw [List.take_of_length_le]; rw [List.length_drop, Array.length_toList]; omega
    have hclean := slice_bad (Nat.le_refl _) h1
    refine opt_push (fun s' => ∃ hh' tk' its' nn' ys', s' = { s₀ with heap := hh', toks := tk' } ∧ I hh' ∧ hh'.get? l = some (listOf its' nn') ∧ StrsAre its'.toList ys' ∧
      flatS ys' = subF bad (fun c => (f c).cps.toList) x.cps.toList ∧ its'.size ≤ 2 * x.cps.size + 1) ?_ ?_ ?_
    · intro hpi
      refine slice_of (by omega) ?_
      refine push_at (I := I) hl hgh hst (by omega) fun h' e1 e2 => ⟨h', tk + 1, _, nn + 1, ys ++ [⟨x.cps.extract p x.cps.size⟩], rfl, e2, e1, ?_, ?_, ?_⟩
      · rw [Array.toList_push]; exact hys.append' (.cons _ _ .nil)
      · rw [flatS_snoc, ← hflat, hall, subF_clean hclean, extract_list]
      · rw [Array.size_push]; omega
    · intro hpi
      have e : p = x.cps.size := by omega
      refine ⟨hh, tk, its, nn, ys, rfl, hgh, hl, hys, ?_, by omega⟩
      rw [← hflat, e, show x.cps.toList.drop x.cps.size = [] from List.drop_of_length_le (by rw [Array.length_toList]; exact Nat.le_refl _)]
      exact (List.append_nil _).symm
    · rintro _ ⟨hh', tk', its', nn', ys', rfl, q1, q2, q3, q4, q5⟩
      refine wpAny_bind (slice_of (by omega) ?_)
      refine wpAny_bind (wpAny_seqItems q2 rfl ?_)
      dsimp only [Option.getD_some]
      have e0 : x.cps.extract 0 0 = #[] := by simp
      rw [e0]
      by_cases he : its'.isEmpty = true
      · rw [if_pos he]
        have e1 : its' = #[] := by simpa using he
        subst e1
        have e2 : ys' = [] := by cases q3; rfl
        subst e2
        refine wpAny_bind (wpAny_pure ?_)
        rw [if_neg Bool.false_ne_true]
        refine wpAny_pure ?_
        have := hR hh' (tk' + 1) tk' q1
        rw [← q4] at this
        exact this
      · rw [if_neg he, if_pos (show ((0 : Nat) == 0) = true from rfl)]
        refine wpAny_bind ?_
        have hlen : (subF bad (fun c => (f c).cps.toList) x.cps.toList).length ≤ 12 * x.cps.size := by
          have := subF_len (bad := bad) (f := fun c => (f c).cps.toList) (k := 12) (by decide) (fun c => by rw [Array.length_toList]; exact hfl c) x.cps.toList
          rwa [show x.cps.toList.length = x.cps.size from Array.length_toList] at this
        refine join_list (ys := ys') ⟨_, q2, rfl, _, rfl⟩ q3 ?_ fun t' k' => ?_
        · rw [← flatS_len, q4]
          show _ + _ * 0 ≤ _
          omega
        · rw [if_neg Bool.false_ne_true, join_empty, q4]
          exact wpAny_pure (hR hh' k' t' q1)
theorem call_look : typeLookup (.type "function") "__call__" = pure (some (.builtin "function.__call__")) := by rw [typeLookup_type, builtinLookup_eq_fast]; kernel_rfl
theorem noba : isSubtype (.type "str") (.type "bytearray") = pure false := by rw [isSubtype_type]; kernel_rfl
theorem call_sub {a fo : Addr} {x : Str} {t : Tok} {L : List Int} {gr : Nat} {bad : Nat → Bool} {f : Nat → Str} {fobj : Obj} {I : Heap → Prop} {Q : Value → Shared → Prop}
    (FD : Finder L gr bad) (hp : ∀ h, I h → PatAt h a L gr) (hI : I s.heap) (hst : ∀ h h', I h → (∀ b o, b ≠ s.heap.objs.size → h.get? b = some o → h'.get? b = some o) → I h') (hfo : s.heap.get? fo = some fobj) (hfc : fobj.cls = .type "function") (hx : x.cps.size ≤ 1000) (hfl : ∀ c, (f c).cps.size ≤ 12)
    (hrepl : ∀ (s' : Shared) (m : Addr) (i : Nat) (its : Array Value) (nn : Nat) (E' : Value → Shared → Prop) (Q : Value → Shared → Prop), I s'.heap → s'.heap.get? s.heap.objs.size = some (listOf its nn) → MatchAt0 s'.heap m x i → i < x.cps.size → bad (x.cps.getD i 0) = true →
      (∀ h' tk t', I h' → h'.get? s.heap.objs.size = some (listOf its nn) → Q (.str (f (x.cps.getD i 0)) t') { s' with heap := h', toks := tk }) → wpAny (model prog w) A.in1 (call (.ref fo) [.ref m]) Q E' s')
    (hR : ∀ h' tk t', I h' → Q (.str ⟨(subF bad (fun c => (f c).cps.toList) x.cps.toList).toArray⟩ t') { s with heap := h', toks := tk }) :
    wpAny (model prog w) A (call (.builtin "re.Pattern.sub") [.ref a, .ref fo, .str x t]) Q E s := by
  obtain ⟨pv, f1, c, e1, e2⟩ := hp _ hI
  refine wpAny_call (codeAny_call_builtin slot_sub.plain entry_sub (slot_sub.check _ _ _ _ _ _ _ _ ⟨_, e1, rfl⟩ (args_sub _ _ _) ?_))
  unfold Builtin.«re.Pattern.sub» reSubstitute
  dsimp only
  refine wpAny_bind (wpAny_of_eq (a := [some (.ref fo), some (.str x t), none]) (by kernel_rfl) ?_)
  dsimp only
  refine wpAny_bind (wpAny_pure ?_)
  refine wpAny_bind (wpAny_specialOf ⟨_, hfo, hfc⟩ call_look ?_)
  rw [if_pos (show (some (Value.builtin "function.__call__")).isSome = true from rfl)]
  refine wpAny_bind (wpAny_pure ?_)
  rw [if_pos (show (some (Value.builtin "function.__call__")).isSome = true from rfl)]
  refine wpAny_bind (wpAny_pure ?_)
  refine wpAny_bind (wpAny_holding (whole_of (hp _ hI) ?_))
  dsimp only
  rw [if_pos (show ((1 : Int) == 1) = true by decide)]
  refine wpAny_bind ?_
  unfold reNotHeld
  refine wpAny_bind (wpAny_isInstance (typeIs_str _ _ _) noba ?_)
  rw [if_neg Bool.false_ne_true]
  refine wpAny_pure ?_
  refine wpAny_bind (wpAny_newObj_type ?_ (by show (0 : Nat) ≤ sizeLine; omega))
  refine wpAny_pure ⟨plainId_quiet (by decide +kernel) _, ?_⟩
  refine loop_ok (I := I) (l := s.heap.objs.size) (n := 0) (s₀ := s) FD hp hst hx hfl hrepl hR x.cps.size 0 (s.heap.push (listOf #[] 0)) s.toks #[] 0 [] (Nat.zero_add _) (hst _ _ hI fun b o _ e => stays_push _ _ _ e) (Heap.get?_push_size _ rfl) .nil rfl (Nat.le_refl _)
end
end Mine
end
-- part FBits
section
open PySem PySem.Spec PySem.Calls PySem.W PyProof.Rows PySem.Builtin
namespace Mine
theorem and1023 {x : Int} (h : 0 ≤ x) : Builtin.bitAnd x 1023 = x.fmod 1024 := by
  obtain ⟨m, rfl⟩ := Int.eq_ofNat_of_zero_le h
  rw [Int.fmod_eq_emod_of_nonneg _ (by omega)]
  unfold Builtin.bitAnd
  rw [decide_eq_true (show (0:Int) ≤ (m:Int) by omega)]
  show (((m : Int).toNat &&& 1023 : Nat) : Int) = _
  rw [show (1023 : Nat) = 2 ^ 10 - 1 from rfl, Nat.and_two_pow_sub_one_eq_mod]
  show ((m % 1024 : Nat) : Int) = _
  omega
theorem or_nn {a b : Nat} : Builtin.bitOr (a : Int) (b : Int) = ((a ||| b : Nat) : Int) := by
  unfold Builtin.bitOr Builtin.bitAnd Builtin.bitNot
  have h1 : decide (0 ≤ (-(a:Int) - 1)) = false := decide_eq_false (by omega)
  have h2 : decide (0 ≤ (-(b:Int) - 1)) = false := decide_eq_false (by omega)
  have e1 : (-(-(a : Int) - 1) - 1).toNat = a := by omega
  have e2 : (-(-(b : Int) - 1) - 1).toNat = b := by omega
  simp only [h1, h2, e1, e2]
  omega
theorem or_hi {x : Int} (k : Nat) (h : 0 ≤ x) (h' : x < 1024) : Builtin.bitOr ((1024 * k : Nat) : Int) x = ((1024 * k : Nat) : Int) + x := by
  obtain ⟨m, rfl⟩ := Int.eq_ofNat_of_zero_le h
  rw [or_nn]
  have := Nat.two_pow_add_eq_or_of_lt (i := 10) (b := m) (by omega) k
  rw [show (1024 : Nat) = 2 ^ 10 from rfl, ← this]
  omega
theorem far_hi {c : Nat} (h : 65536 ≤ c) (h' : c ≤ 1114111) : Builtin.bitOr 55296 (Builtin.bitAnd (((c : Int) - 65536).fdiv (2 ^ Int.toNat 10)) 1023) = 55296 + ((c : Int) - 65536).fdiv 1024 := by
  rw [show (2 ^ Int.toNat 10 : Int) = 1024 from rfl, Int.fdiv_eq_ediv_of_nonneg _ (by omega), and1023 (by omega), Int.fmod_eq_emod_of_nonneg _ (by omega), show ((c : Int) - 65536) / 1024 % 1024 = ((c : Int) - 65536) / 1024 by omega]
  exact or_hi 54 (by omega) (by omega)
theorem far_lo {c : Nat} (h : 65536 ≤ c) : Builtin.bitOr 56320 (Builtin.bitAnd ((c : Int) - 65536) 1023) = 56320 + ((c : Int) - 65536).fmod 1024 := by
  rw [and1023 (by omega), Int.fmod_eq_emod_of_nonneg _ (by omega)]
  exact or_hi 55 (by omega) (by omega)
def fA (c : Nat) : PySem.Str := KStt.txt (spellI (unitsI [(c : Int)]))
theorem spell1_far {n : Int} (h : n < 32 ∨ 126 < n) (h1 : n ≠ 10) (h2 : n ≠ 9) (h3 : n ≠ 13) (h4 : n ≠ 8) (h5 : n ≠ 12) : spell1 n = 92 :: 117 :: fig4 n := by
  rw [spell_else (by omega), if_neg (by omega)]; rfl
theorem fA_near {c : Nat} (h : c < 65536) (hb : badA c = true) (hne : c ≠ 92 ∧ c ≠ 34 ∧ c ≠ 8 ∧ c ≠ 12 ∧ c ≠ 10 ∧ c ≠ 13 ∧ c ≠ 9) : KStt.txt (92 :: 117 :: fig4 c) = fA c := by
  have hb' : c < 32 ∨ 126 < c := by
    unfold badA at hb
    by_cases e : 32 ≤ c ∧ c ≤ 126
    · rw [decide_eq_true e, decide_eq_false (by omega)] at hb; exact absurd hb (by decide)
    · omega
  unfold fA
  rw [show unitsI [(c : Int)] = [(c : Int)] by simp only [unitsI]; rw [if_neg (by omega)]]
  unfold spellI
  rw [List.flatMap_cons, List.flatMap_nil, List.append_nil, spell1_far (by omega) (by omega) (by omega) (by omega) (by omega) (by omega)]
theorem far_hi_lt {c : Nat} (h : 65536 ≤ c) (h' : c ≤ 1114111) : 0 ≤ Builtin.bitOr 55296 (Builtin.bitAnd (((c : Int) - 65536).fdiv (2 ^ Int.toNat 10)) 1023) ∧ Builtin.bitOr 55296 (Builtin.bitAnd (((c : Int) - 65536).fdiv (2 ^ Int.toNat 10)) 1023) < 65536 := by
  rw [far_hi h h', Int.fdiv_eq_ediv_of_nonneg _ (by omega)]; omega
theorem far_lo_lt {c : Nat} (h : 65536 ≤ c) : 0 ≤ Builtin.bitOr 56320 (Builtin.bitAnd ((c : Int) - 65536) 1023) ∧ Builtin.bitOr 56320 (Builtin.bitAnd ((c : Int) - 65536) 1023) < 65536 := by
  rw [far_lo h, Int.fmod_eq_emod_of_nonneg _ (by omega)]; omega
theorem fA_far {c : Nat} (h : 65536 ≤ c) (h' : c ≤ 1114111) : KStt.txt ((92 :: 117 :: fig4 (Builtin.bitOr 55296 (Builtin.bitAnd (((c : Int) - 65536).fdiv (2 ^ Int.toNat 10)) 1023))) ++ (92 :: 117 :: fig4 (Builtin.bitOr 56320 (Builtin.bitAnd ((c : Int) - 65536) 1023)))) = fA c := by
  rw [far_hi h h', far_lo h]
  unfold fA
  rw [show unitsI [(c : Int)] = [55296 + ((c : Int) - 65536).fdiv 1024, 56320 + ((c : Int) - 65536).fmod 1024] by simp only [unitsI]; rw [if_pos (by omega)]]
  have e1 := Int.fdiv_eq_ediv_of_nonneg ((c : Int) - 65536) (show (0:Int) ≤ 1024 by omega)
  have e2 := Int.fmod_eq_emod_of_nonneg ((c : Int) - 65536) (show (0:Int) ≤ 1024 by omega)
  unfold spellI
  rw [List.flatMap_cons, List.flatMap_cons, List.flatMap_nil, List.append_nil, spell1_far (by omega) (by omega) (by omega) (by omega) (by omega) (by omega), spell1_far (by omega) (by omega) (by omega) (by omega) (by omega) (by omega)]
theorem fA_esc {k c : Nat} (h : (⟨#[92, k]⟩ : PySem.Str) = fA c) : (⟨#[92, k]⟩ : PySem.Str) = fA c := h
example : (⟨#[92, 34]⟩ : PySem.Str) = fA 34 := by decide +kernel
example : (⟨#[92, 110]⟩ : PySem.Str) = fA 10 := by decide +kernel
example : PySem.Str.ofString "\\t" = fA 9 := by decide +kernel
end Mine
end
-- part Toks
section
open PySem PySem.Spec PySem.Calls PySem.W PyProof.Rows
namespace Mine
/-- the pieces that a document's text is made of, between its quotes -/
inductive Tk where
  | lit (c : Nat)
  | esc (k c : Nat)
  | hex (a b c d : Nat)
def Tk.text : Tk → List Nat
  | .lit c => [c]
  | .esc k _ => [92, k]
  | .hex a b c d => [92, 117, hexD a, hexD b, hexD c, hexD d]
def escP : List (Nat × Nat) := [(34, 34), (92, 92), (47, 47), (98, 8), (102, 12), (110, 10), (114, 13), (116, 9)]
def Tk.Ok : Tk → Prop
  | .lit c => stops c = false
  | .esc k c => (k, c) ∈ escP
  | .hex a b c d => a < 16 ∧ b < 16 ∧ c < 16 ∧ d < 16
def hexV (a b c d : Nat) : Nat := a * 4096 + b * 256 + c * 16 + d
def hiN (n : Nat) : Bool := decide (55296 ≤ n ∧ n < 56320)
def loN (n : Nat) : Bool := decide (56320 ≤ n ∧ n < 57344)
def flatT (ts : List Tk) : List Nat := ts.flatMap Tk.text
/-- what the reader makes of the pieces -/
def scanT (big : Bool) : List Tk → List Nat
  | [] => []
  | .lit c :: r => c :: scanT big r
  | .esc _ c :: r => c :: scanT big r
  | .hex a b c d :: .hex a' b' c' d' :: r =>
    if (big && hiN (hexV a b c d) && loN (hexV a' b' c' d')) = true then (65536 + (hexV a b c d - 55296) * 1024 + (hexV a' b' c' d' - 56320)) :: scanT big r
    else hexV a b c d :: scanT big (.hex a' b' c' d' :: r)
  | .hex a b c d :: r => hexV a b c d :: scanT big r
def lits : List Nat → List Tk := List.map .lit
theorem scan_lits (big : Bool) : ∀ (l : List Nat) (r : List Tk), scanT big (lits l ++ r) = l ++ scanT big r
  | [], _ => rfl
  | c :: l, r => by
    show c :: scanT big (lits l ++ r) = _
    rw [scan_lits big l r]; rfl
theorem flat_lits : ∀ l : List Nat, flatT (lits l) = l
  | [] => rfl
  | c :: l => by
    show c :: flatT (lits l) = _
    rw [flat_lits l]
theorem flatT_append (a b : List Tk) : flatT (a ++ b) = flatT a ++ flatT b := by unfold flatT; rw [List.flatMap_append]
/-- ordinary signs first, then nothing or a piece of another kind -/
theorem split_lits : ∀ ts : List Tk, (∀ t ∈ ts, t.Ok) → ∃ l r, ts = lits l ++ r ∧ (∀ c ∈ l, stops c = false) ∧ (r = [] ∨ (∃ k c r', r = .esc k c :: r') ∨ ∃ a b c d r', r = .hex a b c d :: r')
  | [], _ => ⟨[], [], rfl, (fun _ h => nomatch h), .inl rfl⟩
  | t :: r, h => by
    cases t with
    | esc k c => exact ⟨[], _, rfl, (fun _ h => nomatch h), .inr (.inl ⟨k, c, r, rfl⟩)⟩
    | hex a b c d => exact ⟨[], _, rfl, (fun _ h => nomatch h), .inr (.inr ⟨a, b, c, d, r, rfl⟩)⟩
    | lit c =>
      obtain ⟨l, r', e, h1, h2⟩ := split_lits r fun t ht => h t (List.mem_cons_of_mem _ ht)
      refine ⟨c :: l, r', by rw [e]; rfl, fun d hd => ?_, h2⟩
      rcases List.mem_cons.mp hd with rfl | hd
      · exact h (.lit d) List.mem_cons_self
      · exact h1 d hd
theorem esc_tab {k c : Nat} (h : (k, c) ∈ escP) : ∃ t, tabV backT k = some (.str ⟨#[c]⟩ t) := by
  simp only [escP, List.mem_cons, Prod.mk.injEq, List.not_mem_nil, or_false] at h
  rcases h with ⟨rfl, rfl⟩ | ⟨rfl, rfl⟩ | ⟨rfl, rfl⟩ | ⟨rfl, rfl⟩ | ⟨rfl, rfl⟩ | ⟨rfl, rfl⟩ | ⟨rfl, rfl⟩ | ⟨rfl, rfl⟩
  · exact ⟨513, by decide +kernel⟩
  · exact ⟨515, by decide +kernel⟩
  · exact ⟨517, by decide +kernel⟩
  · exact ⟨519, by decide +kernel⟩
  · exact ⟨521, by decide +kernel⟩
  · exact ⟨523, by decide +kernel⟩
  · exact ⟨525, by decide +kernel⟩
  · exact ⟨527, by decide +kernel⟩
theorem esc_ne {k c : Nat} (h : (k, c) ∈ escP) : k ≠ 117 := by
  simp only [escP, List.mem_cons, Prod.mk.injEq, List.not_mem_nil, or_false] at h
  omega
theorem flatT_cons (t : Tk) (r : List Tk) : (flatT (t :: r)).length = t.text.length + (flatT r).length := by
  unfold flatT; rw [List.flatMap_cons, List.length_append]
theorem scan_len (big : Bool) : ∀ ts : List Tk, (scanT big ts).length ≤ (flatT ts).length
  | [] => Nat.le_refl _
  | .lit c :: r => by
    have := scan_len big r
    rw [flatT_cons, scanT, List.length_cons]; simp only [Tk.text, List.length_cons, List.length_nil]; omega
  | .esc k c :: r => by
    have := scan_len big r
    rw [flatT_cons, scanT, List.length_cons]; simp only [Tk.text, List.length_cons, List.length_nil]; omega
  | .hex a b c d :: .hex a' b' c' d' :: r => by
    have h1 := scan_len big r
    have h2 := scan_len big (.hex a' b' c' d' :: r)
    rw [flatT_cons] at h2
    rw [flatT_cons, flatT_cons, scanT]
    simp only [Tk.text, List.length_cons, List.length_nil] at h2 ⊢
    split <;> simp only [List.length_cons] <;> omega
  | [.hex a b c d] => by
    rw [flatT_cons]; simp only [scanT, Tk.text, List.length_cons, List.length_nil]; omega
  | .hex a b c d :: .lit e :: r => by
    have h2 := scan_len big (.lit e :: r)
    rw [flatT_cons]; simp only [scanT, Tk.text, List.length_cons, List.length_nil] at h2 ⊢; omega
  | .hex a b c d :: .esc e f :: r => by
    have h2 := scan_len big (.esc e f :: r)
    rw [flatT_cons]; simp only [scanT, Tk.text, List.length_cons, List.length_nil] at h2 ⊢; omega
end Mine
end
-- part ReAppend
section
open PySem PySem.Spec PySem.Calls PySem.W PyProof.Rows PySem.Builtin
namespace Mine
theorem slot_mdget : Slot "method_descriptor" "__get__" "method_descriptor.__get__" :=
  .of (owner := "method_descriptor") (n := "__get__") (by rw [typeLookup_type, builtinLookup_eq_fast]; kernel_rfl) (by decide +kernel) (by decide +kernel) (by decide +kernel)
    (by first | exact .inl (by decide +kernel) | exact .inr (by decide +kernel)) (by rw [isSubtype_type]; kernel_rfl)
theorem entry_mdget : entryFor table "method_descriptor.__get__" = some Builtin.«method_descriptor.__get__» := entryFor_of_tree (by kernel_rfl)
theorem args_mdget (a b c : Value) : argsOk "method_descriptor.__get__" ⟨[a, b, c], []⟩ := by unfold argsOk; kernel_rfl
theorem noset_md : typeLookup (.type "method_descriptor") "__set__" = pure none := by rw [typeLookup_type, builtinLookup_eq_fast]; kernel_rfl
theorem nodel_md : typeLookup (.type "method_descriptor") "__delete__" = pure none := by rw [typeLookup_type, builtinLookup_eq_fast]; kernel_rfl
theorem sub_ll : isSubtype (.type "list") (.type "list") = pure true := by rw [isSubtype_type]; kernel_rfl
theorem told_append : Manifest.toldItsClass.contains "list.append" = false := by decide +kernel
theorem owner_append : (kfb_private% "ownerAndName") "list.append" = ("list", "append") := by first | decide +kernel | kernel_rfl
set_option maxRecDepth 100000
theorem run_mdget {M : Model} {A : Around} {E : Value → Shared → Prop} {s : Shared} {l : Addr} {P : Fin → Shared → Prop} (hT : s.TypeIs (.ref l) "list") (h : P (.done (.ret (.ref s.heap.objs.size))) { s with heap := s.heap.push (bmObj "list.append" (.ref l)) }) :
    wpAny M A (Builtin.«method_descriptor.__get__» ⟨[.builtin "list.append", .ref l, .type "list"], []⟩) P E s := by
  unfold Builtin.«method_descriptor.__get__»
  refine wpAny_bind (wpAny_of_eq (a := (.builtin "list.append", some (.ref l), some (.type "list"))) (by first | rfl | kernel_rfl) ?_)
  dsimp only
  rw [told_append]
  rw [if_neg Bool.false_ne_true]
  show wpAny M A ((kfb_private% "checkInstance") (.builtin "list.append") (.ref l) >>= fun _ => newFields "builtin_function_or_method" [.builtin "list.append", .ref l] >>= fun v => ret v) P E s
  refine wpAny_bind ?_
  have hs := sub_ll
  show wpAny M A ((kfb_private% "nameAndClass") (.builtin "list.append") >>= _) _ E s
  refine wpAny_bind (wpAny_of_eq (a := (PySem.Str.ofString "append", .type "list")) (by first | rfl | kernel_rfl) ?_)
  dsimp only
  refine wpAny_bind (wpAny_isInstance hT sub_ll ?_)
  rw [if_neg (by decide)]
  refine wpAny_pure ?_
  exact wpAny_bind (wpAny_newObj_type (wpAny_pure h))
theorem meets_ga_append (a : Addr) (xs : Array Value) (k : Nat) (sl : Array (Option Value)) (u : Tok) :
    Meets (Builtin.«object.__getattribute__» ⟨[.ref a, .str (PySem.Str.ofString "append") u], []⟩) (fun A R s => s.heap.get? a = some { cls := .type "list", dict := none, data := .seq xs k, slots := sl } ∧ R (.ok (.ret (.ref s.heap.objs.size))) { s with heap := s.heap.push (bmObj "list.append" (.ref a)) }) :=
  Meets.of_wp fun prog w A R s hs => by
    obtain ⟨hp, g, d, tk, os⟩ := s
    obtain ⟨hx, hs⟩ := hs
    have hT : (⟨hp, g, d, tk, os⟩ : Shared).TypeIs (.ref a) "list" := ⟨_, hx, rfl⟩
    have f1 := F.slot_list_append.lookup
    have f2 := F.type_list_append
    have f3 := slot_mdget.lookup
    have f4 := noset_md
    have f5 := nodel_md
    have f6 : (["__module__", "__name__", "__qualname__", "__doc__", "__annotations__"] : List PySem.Str).contains (PySem.Str.ofString "append") = false := by decide +kernel
    unfold Builtin.«object.__getattribute__»
    repeat (any_goals (first | assumption | ((with_reducible show wpAny _ _ (call (Value.builtin "method_descriptor.__get__") _ _) _ _ _); refine wpAny_call_entry slot_mdget F.type_list_append entry_mdget (run_mdget hT ⟨_, rfl, ?_⟩) (args_mdget _ _ _)) | wp_step))
    all_goals exact ⟨_, rfl, hs⟩
end Mine
end
-- part ReBm
section
open PySem PySem.Spec PySem.Calls PySem.W PyProof.Rows PySem.Builtin
namespace Mine
set_option maxRecDepth 100000
theorem getAttr_append {prog : Program} {w : World} {A : Around} {E : Value → Shared → Prop} {s : Shared} {a : Addr} {xs : Array Value} {k : Nat} {Q : Value → Shared → Prop}
    (hx : s.heap.get? a = some (listOf xs k))
    (h : ∀ tk, Q (.ref s.heap.objs.size) { s with heap := s.heap.push (bmObj "list.append" (.ref a)), toks := tk }) :
    wpAny (model prog w) A (getAttr (.ref a) (PySem.Str.ofString "append") true) Q E s := by
  obtain ⟨hp, g, d, tk, os⟩ := s
  have hT : ∀ tk', (⟨hp, g, d, tk', os⟩ : Shared).TypeIs (.ref a) "list" := fun _ => ⟨_, hx, rfl⟩
  have f3 := F.slot_list_getattribute.lookup
  have f4 := F.slot_list_getattribute.bind (.ref a)
  unfold getAttr getAttrBy
  repeat (any_goals (first | assumption | exact hT _ | ((with_reducible show wpAny _ _ (call (Value.builtin "list.__getattribute__") _ _) _ _ _); refine call_meets F.slot_list_getattribute (hT _) am_entry_list_getattribute (F.args_list_getattribute_2 _ _) (meets_ga_append a xs k #[] _) ⟨hx, ?_⟩) | wp_step))
  show wpAny (model prog w) A (handedOut (.ref hp.objs.size)) Q E _
  unfold handedOut
  repeat (any_goals (first | assumption | exact h _ | wp_step))
theorem sig_append : Manifest.signature? "list.append" = some ⟨.oneArg, "list.append", "append", .self, [⟨"object", .posOnly, true⟩]⟩ := by
  rw [signature?_of (id := "list.append") (n := ['d', 'n', 'e', 'p', 'p', 'a']) (o := ['t', 's', 'i', 'l']) (by kernel_rfl) F.owner_list]; kernel_rfl
theorem kind_append : builtinKind "list.append" = some .method := by decide +kernel
theorem nova_append : Manifest.varargsMethods.contains "list.append" = false := by decide +kernel
theorem nomod_list : isSubtype (.type "list") (.type "module") = pure false := by rw [isSubtype_type]; kernel_rfl
theorem bname_append : (s!"{Bind.lastOf "list"}.{Bind.lastOf "list.append"}" : String) = "list.append" := by decide +kernel
theorem chk_append (a b : Value) : Bind.checkArgs "list.append" { (⟨.oneArg, "list.append", "append", .self, [⟨"object", .posOnly, true⟩]⟩ : Manifest.Signature) with full := s!"{Bind.lastOf "list"}.{Bind.lastOf "list.append"}" } ⟨[a, b], []⟩ = pure () := by
  rw [bname_append]
  have h := F.args_list_append_2 a b
  unfold argsOk at h
  rw [sig_append] at h
  exact h
section
variable {prog : Program} {w : World} {A : Around} {E : Value → Shared → Prop} {s : Shared} {h₀ : Heap} {L : Addr} {m : PySem.Str → Option Value} {news : List (Addr × Obj)}
theorem isType_list {MM : Model} {a : Addr} {xs : Array Value} {k : Nat} {R : Bool → Shared → Prop} (ho : s.heap.get? a = some (listOf xs k)) (h : R false s) : wpAny MM A (isType (.ref a)) R E s := by
  simp only [isType, loadHead]
  refine wpAny_bind (wpAny_loadPart ho ?_)
  exact wpAny_pure h
theorem check_append {MM : Model} {a : Addr} {xs : Array Value} {k : Nat} {b : Value} {Q : Unit → Shared → Prop} (ho : s.heap.get? a = some (listOf xs k)) (h : Q () s) : wpAny MM A (checkBoundCall "list.append" ⟨[.ref a, b], []⟩) Q E s := by
  have h1 : s.TypeIs (.ref a) "list" := ⟨_, ho, rfl⟩
  have h2 := fun (R : Bool → Shared → Prop) (hR : R false s) => isType_list (MM := MM) (A := A) (E := E) ho hR
  have h3 := chk_append (.ref a) b
  have h4 := @checkBound A E s MM "list" "list.append" _ (.ref a) [b] Q sig_append kind_append nova_append
  exact h4 h1 nomod_list h2 h3 h
theorem call_bm_append {p l : Addr} {its : Array Value} {n : Nat} {x : Value} {g : Obj → List (Addr × Obj)} {Q : Value → Shared → Prop} (Fx : Fr h₀ L s.heap m) (N : News h₀ L s.heap news) (hb : (p, bmObj "list.append" (.ref l)) ∈ news) (U : UpdF l (listOf its n) news g)
    (h : ∀ h', Fr h₀ L h' m → News h₀ L h' (g (listOf (its.push x) (n + 1))) → Q .none { s with heap := h' }) (hsz : its.size ≤ 100000) : wpAny (model prog w) A (call (.ref p) [x]) Q E s := by
  obtain ⟨pre, post, rfl, hg, a, b⟩ := U.split
  have z := N (l, listOf its n) (List.mem_append.mpr (.inr (.head _)))
  have zb := (N _ hb).1
  have hc := fun (A' : Around) (E' : Value → Shared → Prop) (Q : Unit → Shared → Prop) (hQ : Q () s) => check_append (MM := model prog w) (A := A') (E := E') (b := x) z.1 hQ
  refine wpAny_call (bound_code zb (F.slot_list_append.plain) hc ?_)
  refine codeAny_meets F.slot_list_append.plain F.entry_list_append (list_append l its n x (by rw [sizeLine_eq]; omega)) ⟨z.1, ?_⟩
  rw [hg] at h
  refine h _ (Fx.change (Heap.SameBut.update ..) z.2.1 z.2.2) (news_set N a b (Heap.SameBut.update ..) ?_)
  rw [Heap.get?_update_self _ z.1 (by rw [mapSeq_push]; rfl), mapSeq_push]
end
end Mine
end
-- part ReJoin
section
open PySem PySem.Spec PySem.Calls PySem.W PyProof.Rows PySem.Builtin PySem.Builtin.Str
namespace Mine
set_option maxRecDepth 100000
theorem sig_join : Manifest.signature? "str.join" = some ⟨.oneArg, "str.join", "join", .self, [⟨"iterable", .posOnly, true⟩]⟩ := by
  rw [signature?_of (id := "str.join") (n := ['n', 'i', 'o', 'j']) (o := ['r', 't', 's']) (by kernel_rfl) F.owner_str]; kernel_rfl
theorem kind_join : builtinKind "str.join" = some .method := by decide +kernel
theorem nova_join : Manifest.varargsMethods.contains "str.join" = false := by decide +kernel
theorem nomod_str : isSubtype (.type "str") (.type "module") = pure false := by rw [isSubtype_type]; kernel_rfl
theorem bname_join : (s!"{Bind.lastOf "str"}.{Bind.lastOf "str.join"}" : String) = "str.join" := by decide +kernel
theorem chk_join (a b : Value) : Bind.checkArgs "str.join" { (⟨.oneArg, "str.join", "join", .self, [⟨"iterable", .posOnly, true⟩]⟩ : Manifest.Signature) with full := s!"{Bind.lastOf "str"}.{Bind.lastOf "str.join"}" } ⟨[a, b], []⟩ = pure () := by
  rw [bname_join]
  have h := F.args_str_join_2 a b
  unfold argsOk at h
  rw [sig_join] at h
  exact h
section
variable {prog : Program} {w : World} {A : Around} {E : Value → Shared → Prop} {s : Shared}
theorem check_join {MM : Model} {x : PySem.Str} {t : Tok} {b : Value} {Q : Unit → Shared → Prop} (h : Q () s) : wpAny MM A (checkBoundCall "str.join" ⟨[.str x t, b], []⟩) Q E s := by
  have h1 : s.TypeIs (.str x t) "str" := typeIs_str s x t
  have h2 := fun (R : Bool → Shared → Prop) (hR : R false s) => (show wpAny MM A (isType (.str x t)) R E s from wpAny_pure hR)
  have h3 := chk_join (.str x t) b
  have h4 := @checkBound A E s MM "str" "str.join" _ (.str x t) [b] Q sig_join kind_join nova_join
  exact h4 h1 nomod_str h2 h3 h
theorem call_bm_join {p l : Addr} {x : PySem.Str} {t : Tok} {items : Array Value} {ys : List PySem.Str} {Q : Value → Shared → Prop} (hb : BmAt p "str.join" (.str x t) s.heap) (hl : s.heap.IsList l items) (hi : StrsAre items.toList ys) (hok : (ys.map (·.length)).sum + ys.length * x.length ≤ 16777216)
    (h : ∀ t' k, Q (.str (Txt.join x ys) t') { s with toks := k }) : wpAny (model prog w) A (call (.ref p) [.ref l]) Q E s := by
  have hc := fun (A' : Around) (E' : Value → Shared → Prop) (Q : Unit → Shared → Prop) (hQ : Q () s) => check_join (MM := model prog w) (A := A') (E := E') (x := x) (t := t) (b := .ref l) hQ
  refine wpAny_call (bound_code hb F.slot_str_join.plain hc ?_)
  obtain ⟨vs, hv, ht⟩ := strsAre_values hi
  have e : items = (strValues vs).toArray := by rw [← hv]
  subst e
  subst ht
  have hok' := joinOk_of hok
  have hok2 := hok'
  unfold JoinOk at hok'
  rw [Bool.not_eq_true'] at hok'
  exact codeAny_meets F.slot_str_join.plain F.entry_str_join (meets_str_join_list x t l vs hok') ⟨hl, post_join vs ⟨joinFit_length hok', h⟩⟩
end
end Mine
end
-- part FScanL
section
open PySem PySem.Spec PySem.Calls PySem.W PyProof.Rows PySem.Builtin.Re
namespace Mine
section
variable {prog : Program} {w : World} {A : Around} {E : Value → Shared → Prop} {s : Shared} {h₀ : Heap} {L : Addr} {m : Str → Option Value} {news : List (Addr × Obj)}
theorem getAttr_append_N {l : Addr} {xs : Array Value} {k : Nat} {Q : Value → Shared → Prop} (Fx : Fr h₀ L s.heap m) (N : News h₀ L s.heap news) (hm : (l, listOf xs k) ∈ news)
    (h : ∀ p h' tk, Fr h₀ L h' m → News h₀ L h' ((p, bmObj "list.append" (.ref l)) :: news) → (∀ q ∈ news, q.1 < p) → Q (.ref p) { s with heap := h', toks := tk }) :
    wpAny (model prog w) A (getAttr (.ref l) (PySem.Str.ofString "append") true) Q E s :=
  getAttr_append (N _ hm).1 fun tk => h _ _ tk (Fx.push _) (News.push Fx N _) fun q hq => Heap.lt_size (N q hq).1
end
theorem drop_get {x : Str} {q : Nat} {M : List Nat} (h : x.cps.toList.drop q = M) (j : Nat) : x.cps.getD (q + j) 0 = M.getD j 0 := by
  rw [getD_list, ← h]
  simp [List.getD_eq_getElem?_getD, List.getElem?_drop]
theorem run_ok {x : Str} {q : Nat} {l r : List Nat} (h : x.cps.toList.drop q = l ++ r) (hl : ∀ c ∈ l, stops c = false) : ∀ j, j < l.length → stops (x.cps.getD (q + j) 0) = false := by
  intro j hj
  rw [drop_get h j, List.getD_eq_getElem?_getD, List.getElem?_append_left hj, List.getElem?_eq_getElem hj]
  exact hl _ (List.getElem_mem hj)
theorem run_end {x : Str} {q c : Nat} {l r : List Nat} (h : x.cps.toList.drop q = l ++ c :: r) : q + l.length < x.cps.size ∧ x.cps.getD (q + l.length) 0 = c := by
  refine ⟨?_, ?_⟩
  · have := congrArg List.length h
    rw [List.length_drop, Array.length_toList, List.length_append, List.length_cons] at this
    omega
  · rw [drop_get h l.length, List.getD_eq_getElem?_getD, List.getElem?_append_right (Nat.le_refl _), Nat.sub_self]; rfl
theorem extract_one' {x : Str} {i c : Nat} (hi : i < x.cps.size) (hc : x.cps.getD i 0 = c) : x.cps.extract i (i + 1) = #[c] := by
  refine Array.toList_inj.mp ?_
  rw [extract_list, drop_here hi, hc, show i + 1 - i = 1 by omega]
  rfl
theorem ext_one {x : Str} {i c : Nat} (hi : i < x.cps.size) (hc : x.cps.getD i 0 = c) : (⟨x.cps.extract i (i + 1)⟩ : Str) = ⟨#[c]⟩ := congrArg _ (extract_one' hi hc)
theorem ext_many {x : Str} {q : Nat} {l r : List Nat} (h : x.cps.toList.drop q = l ++ r) : (⟨x.cps.extract q (q + l.length)⟩ : Str) = ⟨l.toArray⟩ := by
  refine PySem.Str.ext' (Array.toList_inj.mp ?_)
  rw [extract_list, h, show q + l.length - q = l.length by omega]
  simp
section
variable {prog : Program} {w : World} {A : Around} {E : Value → Shared → Prop} {s : Shared} {h₀ : Heap} {L : Addr} {m : Str → Option Value} {news : List (Addr × Obj)}
theorem news_match {h' : Heap} {b : Addr} {x : Str} {Ls : List Int} {P : Prop} (Fx : Fr h₀ L s.heap m) (N : News h₀ L s.heap news) (st : s.heap.StaysIn h') (hm : MatchAt h' b x Ls) (hf : FreshM s.heap h' b)
    (k : ∀ tk pat f2 f3 f4 b2, Fr h₀ L h' m → News h₀ L h' ((b, matchObj x tk pat f2 f3 f4 b2) :: (b2, tupObj (Ls.map rawInt)) :: news) → (∀ q ∈ news, q.1 < b2) → b2 < b → P) : P := by
  obtain ⟨tk, pat, f2, f3, f4, b2, e1, e2⟩ := hm
  obtain ⟨f1, f5⟩ := hf
  obtain ⟨f6, f7⟩ := f5 _ _ b2 e1 rfl rfl
  have N1 := news_more Fx N st e2 (get_fresh f6)
  refine k tk pat f2 f3 f4 b2 (fr_grow Fx st) (fun p hp => ?_) (fun q hq => Nat.lt_of_lt_of_le (Heap.lt_size (N q hq).1) f6) f7
  rcases List.mem_cons.mp hp with rfl | hp
  · exact news_more Fx N st e1 (get_fresh f1) _ List.mem_cons_self
  · exact N1 p hp
theorem matchAt_news {h : Heap} {b b2 : Addr} {x : Str} {tk : Tok} {pat f2 f3 f4 : Value} {Ls : List Int} (N : News h₀ L h news) (h1 : (b, matchObj x tk pat f2 f3 f4 b2) ∈ news) (h2 : (b2, tupObj (Ls.map rawInt)) ∈ news) : MatchAt h b x Ls :=
  ⟨tk, pat, f2, f3, f4, b2, (N _ h1).1, (N _ h2).1⟩
theorem match_N {K : Frag} {x : Str} {t u : Tok} {i n : Nat} {pv f1 : Value} {Q : Value → Shared → Prop} (Fx : Fr h₀ L s.heap m) (N : News h₀ L s.heap news) (X : K.In h₀) (h1 : K.lookup 114 = some (bmObj "re.Pattern.match" (.ref 98))) (h2 : K.lookup 98 = some (patObj pv f1 2 97)) (h3 : K.lookup 97 = some (tupObj (lS.map rawInt))) (hx : x.cps.size < 1000000)
    (hn : i + n < x.cps.size) (h4 : ∀ j, j < n → stops (x.cps.getD (i + j) 0) = false) (h5 : stops (x.cps.getD (i + n) 0) = true)
    (h : ∀ b h' tk pat f2 f3 f4 b2, Fr h₀ L h' m → News h₀ L h' ((b, matchObj x tk pat f2 f3 f4 b2) :: (b2, tupObj (List.map rawInt [i, (i + n + 1 : Nat), i, (i + n : Nat), (i + n : Nat), (i + n + 1 : Nat)])) :: news) → (∀ q ∈ news, q.1 < b2) → b2 < b → Q (.ref b) { s with heap := h' }) :
    wpAny (model prog w) A (call (.ref 114) [.str x t, .int (i : Int) u]) Q E s :=
  have XS := X.keeps Fx.keep
  call_match (bmK XS h1) ⟨pv, f1, 97, XS _ _ h2, XS _ _ h3⟩ hx hn h4 h5 fun h' b st hm hf _ => news_match Fx N st hm hf fun tk pat f2 f3 f4 b2 F' N' q1 q2 => h b h' tk pat f2 f3 f4 b2 F' N' q1 q2
theorem groups_N {a : Addr} {x y z : Str} {i n : Nat} {Q : Value → Shared → Prop} (Fx : Fr h₀ L s.heap m) (N : News h₀ L s.heap news) (hm : MatchAt s.heap a x [i, (i + n + 1 : Nat), i, (i + n : Nat), (i + n : Nat), (i + n + 1 : Nat)]) (hz : x.cps.size ≤ 1000000)
    (hy : (⟨x.cps.extract i (i + n)⟩ : Str) = y) (hw : (⟨x.cps.extract (i + n) (i + n + 1)⟩ : Str) = z)
    (h : ∀ D h' t1 t2 tk, Fr h₀ L h' m → News h₀ L h' ((D, { cls := .type "tuple", data := .seq #[.str y t1, .str z t2] }) :: news) → (∀ q ∈ news, q.1 < D) → Q (.ref D) { s with heap := h', toks := tk }) : wpAny (model prog w) A (call (.builtin "re.Match.groups") [.ref a]) Q E s := by
  subst hy hw
  exact groups_of hm hz fun t1 t2 tk => h _ _ t1 t2 tk (Fx.push _) (News.push Fx N _) fun q hq => Heap.lt_size (N q hq).1
theorem getEnd {mm : Addr} {x : Str} {Ls : List Int} {pl : Sem Bool} {Q : Value × List Value → Shared → Prop} (hm : MatchAt s.heap mm x Ls) (h : Q (.builtin "re.Match.end", [.ref mm]) s) :
    wpAny (model prog w) A (getMethod (.ref mm) (PySem.Str.ofString "end") pl) Q E s := by
  obtain ⟨tk, pat, f2, f3, f4, b, e1, e2⟩ := hm
  have e1' := e1
  exact getMethod_builtin ⟨_, e1', rfl⟩ pa_match slot_end type_end (fun a e => by cases e; exact ⟨_, e1', rfl⟩) h
theorem getGroups {mm : Addr} {x : Str} {Ls : List Int} {pl : Sem Bool} {Q : Value × List Value → Shared → Prop} (hm : MatchAt s.heap mm x Ls) (h : Q (.builtin "re.Match.groups", [.ref mm]) s) :
    wpAny (model prog w) A (getMethod (.ref mm) (PySem.Str.ofString "groups") pl) Q E s := by
  obtain ⟨tk, pat, f2, f3, f4, b, e1, e2⟩ := hm
  have e1' := e1
  exact getMethod_builtin ⟨_, e1', rfl⟩ pa_match slot_groups type_groups (fun a e => by cases e; exact ⟨_, e1', rfl⟩) h
theorem end_N {a b2 : Addr} {x : Str} {tk : Tok} {pat f2 f3 f4 : Value} {i n : Nat} {Q : Value → Shared → Prop} (N : News h₀ L s.heap news) (h1 : (a, matchObj x tk pat f2 f3 f4 b2) ∈ news) (h2 : (b2, tupObj (List.map rawInt [i, (i + n + 1 : Nat), i, (i + n : Nat), (i + n : Nat), (i + n + 1 : Nat)])) ∈ news)
    (h : Q (.int ((i + n + 1 : Nat) : Int) s.toks) { s with toks := s.toks + 1 }) : wpAny (model prog w) A (call (.builtin "re.Match.end") [.ref a]) Q E s :=
  end_of (matchAt_news N h1 h2) rfl h
theorem strs_push {its : Array Value} {ys : List Str} (h : StrsAre its.toList ys) (y : Str) (t : Tok) : StrsAre (its.push (.str y t)).toList (ys ++ [y]) := by
  rw [Array.toList_push]; exact h.append' (.cons _ _ .nil)
theorem join_N {K : Frag} {l : Addr} {e9 : Str} {t9 : Tok} {its : Array Value} {k : Nat} {ys : List Str} {Q : Value → Shared → Prop} (Fx : Fr h₀ L s.heap m) (N : News h₀ L s.heap news) (X : K.In h₀) (h1 : K.lookup 115 = some (bmObj "str.join" (.str e9 t9))) (he : e9 = ⟨#[]⟩) (hm : (l, listOf its k) ∈ news) (hi : StrsAre its.toList ys) (hok : (flatS ys).length ≤ 100000)
    (h : ∀ t' k, Q (.str ⟨(flatS ys).toArray⟩ t') { s with toks := k }) : wpAny (model prog w) A (call (.ref 115) [.ref l]) Q E s :=
  by
  subst he
  exact call_bm_join (bmK (X.keeps Fx.keep) h1) ⟨_, (N _ hm).1, rfl, _, rfl⟩ hi (by rw [← flatS_len]; show _ + _ * 0 ≤ _; omega) fun t' k' => by rw [join_empty]; exact h t' k'
end
theorem scan_end {g h' : Heap} {L D : Addr} {news : List (Addr × Obj)} {y Y : Str} {z Z : Int} {t1 u1 : Tok} (N : News g L h' ((D, { cls := .type "tuple", data := .seq #[.str y t1, .int z u1] }) :: news)) (hy : y = Y) (hz : z = Z) :
    ∃ r t' u' n, Value.ref D = .ref r ∧ h'.get? r = some { cls := .type "tuple", data := .seq #[.str Y t', .int Z u'] n } ∧ g.get? r = none := by
  subst hy hz
  exact ⟨D, t1, u1, 0, rfl, (N _ List.mem_cons_self).1, (N _ List.mem_cons_self).2.2⟩
/-- a contract with room for a call inside -/
def ConB (w : World) (f : Addr) (vs : List Value) (pre : Heap → Prop) (post : Heap → Heap → Value → Prop) : Prop :=
  ∀ (p : Program) (loose : List Str) (mean : ExcName → Option Value) (mg mb : Str → Option Value) (dp un : Nat) (gd : Option (List Code)) (outer : List Env) (base : Heap) (s : Shared),
    Below (ar dp un gd outer) base outer s.heap → (hd.heap_39 w.params).In s.heap → Top p loose mean mg mb s.heap → pre s.heap → dp + 7 < recursionLimit → un + 50 < cLine →
    wpAny (model PySem.Challenge.rw_ff5031_01.row.prog w) (ar dp un gd outer) (call (.ref f) vs) (fun v s' => EndV s.heap post v s s') (fun _ _ => False) s
/-- the state of the reader's loop -/
abbrev SSt := (Array Value × Nat) × (Nat × Tok) × (List Tk × List Str)
def SInv (x : Str) (big : Bool) (all : List Tk) (c : SSt) : Prop :=
  x.cps.toList.drop c.2.1.1 = flatT c.2.2.1 ++ [34] ∧ c.2.1.1 ≤ x.cps.size ∧ flatS c.2.2.2 ++ scanT big c.2.2.1 = scanT big all ∧ StrsAre c.1.1.toList c.2.2.2 ∧ c.1.1.size ≤ 2 * c.2.1.1 ∧ ∀ t ∈ c.2.2.1, t.Ok

section
variable {prog : Program} {w : World} {A : Around} {E : Value → Shared → Prop} {s : Shared}
theorem sub_sign {value slice : Expr} {x : Str} {t u : Tok} {i c : Nat} {Q : Value → Shared → Prop} (hi : i < x.cps.size) (hz : x.cps.size ≤ 3000) (hc : x.cps.getD i 0 = c)
    (h : Q (.str ⟨#[c]⟩ s.toks) { s with toks := s.toks + 1 })
    (hs : subscripted slice false (.str x t) (.int (i : Int) u) = operate [.str x t, .int (i : Int) u] (getItem (.str x t) (.int (i : Int) u)) := by with_unfolding_all rfl)
    (ht : ∀ r, letTemporaryGo value (.str x t) r = pure () := by intro _; with_unfolding_all rfl) :
    wpAny (model prog w) A (subscriptTail value slice (.str x t) (.int (i : Int) u)) Q E s := by
  have e0 : x.length = x.cps.size := rfl
  refine item_str (fitsSsize_of (N := 9223372036854775808) (by omega) (by omega) (Int.le_refl _)) (by omega) (by omega) (fun _ => ?_) hs ht
  rw [item_at (n := i) (by omega) (by omega) (by omega), hc]
  exact h
end
theorem scanT_esc (big : Bool) (k c : Nat) (r : List Tk) : scanT big (.esc k c :: r) = c :: scanT big r := by rw [scanT]
theorem drop_add {x : Str} {q : Nat} {a b : List Nat} (h : x.cps.toList.drop q = a ++ b) : x.cps.toList.drop (q + a.length) = b := by
  rw [← List.drop_drop, h, List.drop_left]
theorem flat_snoc2 (ys : List Str) (l : List Nat) (c : Nat) : flatS (ys ++ [⟨l.toArray⟩] ++ [⟨#[c]⟩]) = flatS ys ++ (l ++ [c]) := by
  rw [flatS_snoc, flatS_snoc, List.append_assoc]
theorem flat_snoc1 (ys : List Str) (c : Nat) : flatS (ys ++ [⟨#[c]⟩]) = flatS ys ++ [c] := by rw [flatS_snoc]
theorem len_zero {l : List Nat} (h : ((⟨l.toArray⟩ : Str).length : Int) = 0) : l = [] := by
  have h2 : (⟨l.toArray⟩ : Str).length = l.length := rfl
  exact List.length_eq_zero_iff.mp (by omega)
/-- one turn: ordinary signs, then one piece of the given text -/
theorem inv_step {x : Str} {big : Bool} {all : List Tk} {its its' : Array Value} {nn' q q' : Nat} {t1' : Tok} {l : List Nat} {r r' : List Tk} {ys ys' : List Str} {c : Nat} {pc : List Nat}
    (h1 : x.cps.toList.drop q = (l ++ pc) ++ (flatT r' ++ [34])) (h3 : flatS ys ++ scanT big (lits l ++ r) = scanT big all) (h5 : its.size ≤ 2 * q) (h6 : ∀ t ∈ lits l ++ r, t.Ok)
    (hq : q' = q + (l.length + pc.length)) (hpc : 1 ≤ pc.length) (hr : ∃ pr, r = pr ++ r') (hs : scanT big r = c :: scanT big r')
    (hy : flatS ys' = flatS ys ++ (l ++ [c])) (hi : StrsAre its'.toList ys') (hz : its'.size ≤ its.size + 2) : SInv x big all ((its', nn'), (q', t1'), (r', ys')) := by
  have hd := drop_add h1
  rw [List.length_append, ← hq] at hd
  refine ⟨hd, ?_, ?_, hi, ?_, ?_⟩
  · show q' ≤ _
    have := congrArg List.length hd
    rw [List.length_drop, Array.length_toList, List.length_append, List.length_cons] at this
    omega
  · show flatS ys' ++ scanT big r' = _
    rw [← h3, scan_lits, hs, hy]
    simp
  · show its'.size ≤ 2 * q'
    omega
  · intro t ht
    obtain ⟨pr, rfl⟩ := hr
    exact h6 t (by simp [ht])
theorem int_some {a b : Int} {t : Tok} {o : Option Value} (h : o = some (.int a t)) (e : a = b) : o = some (.int b t) := by rw [h, e]
theorem two_mem {α : Type} {a b : α} {N : List α} (h1 : a ∈ N) (h2 : b ∈ N) : ∀ p ∈ [a, b], p ∈ N := fun p hp => by
  rcases List.mem_cons.mp hp with rfl | hp
  · exact h1
  · rw [List.mem_singleton.mp hp]; exact h2
theorem ne_u {k : Nat} (h : k ≠ 117) : ((⟨#[k]⟩ : Str) != PySem.Str.ofString "u") = true := by
  rw [show PySem.Str.ofString "u" = ⟨#[117]⟩ from by decide +kernel]
  refine bne_iff_ne.mpr fun e => h ?_
  exact congrArg (fun s : Str => s.cps.getD 0 0) e
theorem mu_step {l : List Nat} {pr r' : List Tk} (h : 1 ≤ pr.length) : r'.length < (lits l ++ (pr ++ r')).length := by
  rw [List.length_append, List.length_append]; omega

def HexAt (x : Str) (z : Int) (n : Nat) : Prop := ∃ e a b c d : Nat, z = (e : Int) ∧ e + 4 ≤ x.cps.size ∧ x.cps.extract e (e + 4) = #[hexD a, hexD b, hexD c, hexD d] ∧ a < 16 ∧ b < 16 ∧ c < 16 ∧ d < 16 ∧ hexV a b c d = n
theorem hexAt_of {x : Str} {e a b c d : Nat} {R : List Nat} {z : Int} (h : x.cps.toList.drop e = hexD a :: hexD b :: hexD c :: hexD d :: R) (hz : z = (e : Int)) (ha : a < 16) (hb : b < 16) (hc : c < 16) (hd' : d < 16) : HexAt x z (hexV a b c d) := by
  refine ⟨e, a, b, c, d, hz, ?_, ?_, ha, hb, hc, hd', rfl⟩
  · have := congrArg List.length h
    simp only [List.length_drop, Array.length_toList, List.length_cons] at this
    omega
  · refine Array.toList_inj.mp ?_
    rw [extract_list, h, show e + 4 - e = 4 by omega]
    rfl
def AllNe : List (Addr × Obj) → Nat → Prop
  | [], _ => True
  | p :: r, D => @Ne Nat p.1 D ∧ AllNe r D
theorem allNe_of {D : Nat} : ∀ {l : List (Addr × Obj)}, (∀ q ∈ l, q.1 ≠ D) → AllNe l D
  | [], _ => trivial
  | p :: _, h => ⟨h p (.head _), allNe_of fun q hq => h q (.tail _ hq)⟩
theorem call_hex4 {w : World} {A : Around} {E : Value → Shared → Prop} {s : Shared} {h₀ : Heap} {L : Addr} {m : Str → Option Value} {news : List (Addr × Obj)} {p : Program} {loose : List Str} {mean : ExcName → Option Value} {mg mb : Str → Option Value} {dp un : Nat} {gd : Option (List Code)} {outer : List Env} {base : Heap} {x : Str} {t u : Tok} {z : Int} {n : Nat}
    {nm : Str} {sc : Scope} {f : Addr} {cd : Value} {Q : Value → Shared → Prop} (Fx : Fr h₀ L s.heap m) (N : News h₀ L s.heap news) (X : (hd.heap_39 w.params).In h₀) (T : Top p loose mean mg mb h₀) (B : Below (ar dp un gd outer) base outer h₀) (hx : x.cps.size ≤ 3000) (H : HexAt x z n)
    (hA : A = (ar dp un gd outer).deeper (envOf nm sc L f cd)) (hk : sc.kind = .function) (h1 : dp + 6 < recursionLimit) (h2 : un + 44 < cLine)
    (k : ∀ D h' tk u1 u2 j, Fr h₀ L h' m → News h₀ L h' ((D, { cls := .type "tuple", data := .seq #[.int (n : Int) u1, .int (z + 4) u2] j }) :: news) → (∀ q ∈ news, q.1 ≠ D) → Q (.ref D) { s with heap := h', toks := tk }) :
    wpAny (model PySem.Challenge.rw_ff5031_01.row.prog w) A (call (.ref 113) [.str x t, .int z u]) Q E s := by
  obtain ⟨e, a, b, c, d, rfl, he, hxe, ha, hb, hc, hd', rfl⟩ := H
  have B' := B.push (name := nm) (a := f) (cd := cd) Fx hk
  subst hA
  refine wpAny_mono (hex4_ok w x t u e a b c d p loose mean mg mb (dp + 1) (un + 3) gd _ base s B' (X.keeps Fx.keep) (T.keeps Fx.keep) ⟨hx, he, hxe, ha, hb, hc, hd'⟩ (by omega) (by omega)) ?_ fun _ _ q => q.elim
  rintro v s' ⟨h', tk', rfl, st, r, u1, u2, j, rfl, hr, hf⟩
  refine k r h' tk' u1 u2 j (fr_grow Fx st) (news_more Fx N st hr hf) fun q hq e' => ?_
  have := (N q hq).1
  rw [e', hf] at this
  cases this

theorem slice_beyond {x : Str} {i j : Int} (h : (x.length : Int) ≤ j) : Txt.slice x (some i) (some j) = Txt.slice x (some i) (some (x.length : Int)) := by
  show StrLaws.sliceText x (some i) (some j) = StrLaws.sliceText x (some i) (some (x.length : Int))
  unfold StrLaws.sliceText
  have e0 : Builtin.Str.strSliceIndices (some i) (some j) 1 x.length = Builtin.Str.strSliceIndices (some i) (some (x.length : Int)) 1 x.length := by
    have a1 : ¬ j < 0 := by omega
    have a2 : ¬ ((x.length : Int) < 0) := by omega
    have e1 : max (0 : Int) (min j (x.length : Int)) = x.length := by omega
    simp [Builtin.Str.strSliceIndices, a1, a2, e1]
  rw [e0]
theorem slice_two {x : Str} {e : Nat} {M : List Nat} {z : Int} (h : x.cps.toList.drop e = M) (he : e ≤ x.cps.size) (hz : z = (e : Int)) : Txt.slice x (some z) (some (z + 2)) = ⟨(M.take 2).toArray⟩ := by
  subst hz
  have hx : x.length = x.cps.size := rfl
  by_cases hb : e + 2 ≤ x.cps.size
  · have e1 : ((e : Int) + 2) = ((e + 2 : Nat) : Int) := by omega
    rw [e1, slice_ex (by omega) hb]
    refine PySem.Str.ext' (Array.toList_inj.mp ?_)
    rw [extract_list, h, show e + 2 - e = 2 by omega]
  · rw [slice_beyond (by omega)]
    show Txt.slice x (some (e : Int)) (some ((x.cps.size : Nat) : Int)) = _
    rw [slice_ex he (Nat.le_refl _)]
    refine PySem.Str.ext' (Array.toList_inj.mp ?_)
    rw [extract_list, h, List.take_of_length_le, List.take_of_length_le]
    · rw [← h, List.length_drop, Array.length_toList]; omega
    · rw [← h, List.length_drop, Array.length_toList]; omega
theorem bs_u : PySem.Str.ofString "\\u" = ⟨#[92, 117]⟩ := by decide +kernel
theorem slice_u {x : Str} {e : Nat} {M : List Nat} {z : Int} (h : x.cps.toList.drop e = 92 :: 117 :: M) (he : e ≤ x.cps.size) (hz : z = (e : Int)) : (Txt.slice x (some z) (some (z + 2)) == PySem.Str.ofString "\\u") = true := by
  rw [slice_two h he hz, bs_u]; exact beq_self_eq_true _
theorem slice_no {x : Str} {e : Nat} {M : List Nat} {z : Int} (h : x.cps.toList.drop e = M) (he : e ≤ x.cps.size) (hz : z = (e : Int)) (hn : M.take 2 ≠ [92, 117]) : (Txt.slice x (some z) (some (z + 2)) == PySem.Str.ofString "\\u") = false := by
  rw [slice_two h he hz, bs_u]
  refine beq_eq_false_iff_ne.mpr fun e' => hn ?_
  have := congrArg (fun s : Str => s.cps.toList) e'
  exact this
theorem and_top {n : Nat} (h : n < 65536) : Builtin.bitAnd (n : Int) 64512 = ((n - n % 1024 : Nat) : Int) := by
  rw [bitAnd_pp (by omega) (by omega)]
  show (((n &&& 64512 : Nat)) : Int) = _
  have h1 : n &&& 65535 = n := by rw [show (65535 : Nat) = 2 ^ 16 - 1 from rfl, Nat.and_two_pow_sub_one_eq_mod]; omega
  have h2 : n &&& 1023 = n % 1024 := by rw [show (1023 : Nat) = 2 ^ 10 - 1 from rfl, Nat.and_two_pow_sub_one_eq_mod]
  have h3 : (n &&& 64512) ||| (n &&& 1023) = n := by rw [← Nat.and_or_distrib_left]; exact h1
  have h4 : (n &&& 64512) &&& (n &&& 1023) = 0 := by
    rw [Nat.and_assoc, Nat.and_comm n 1023, ← Nat.and_assoc 64512 1023 n, show (64512 &&& 1023 : Nat) = 0 from rfl, Nat.zero_and, Nat.and_zero]
  have h5 := nat_or_add_and (n &&& 64512) (n &&& 1023)
  rw [h3, h4, h2] at h5
  omega
theorem hi_of {n : Nat} (h : n < 65536) (e : Builtin.bitAnd (n : Int) 64512 = 55296) : 55296 ≤ n ∧ n < 56320 := by rw [and_top h] at e; omega
theorem lo_of {n : Nat} (h : n < 65536) (e : Builtin.bitAnd (n : Int) 64512 = 56320) : 56320 ≤ n ∧ n < 57344 := by rw [and_top h] at e; omega
theorem hi_not {n : Nat} (h : n < 65536) (e : Builtin.bitAnd (n : Int) 64512 ≠ 55296) : hiN n = false := by
  rw [and_top h] at e
  exact decide_eq_false (by omega)
theorem lo_not {n : Nat} (h : n < 65536) (e : Builtin.bitAnd (n : Int) 64512 ≠ 56320) : loN n = false := by
  rw [and_top h] at e
  exact decide_eq_false (by omega)
theorem hex_lt {a b c d : Nat} (ha : a < 16) (hb : b < 16) (hc : c < 16) (hd' : d < 16) : hexV a b c d < 65536 := by unfold hexV; omega
theorem or_pair {prog : Program} {w : World} {A : Around} {E : Value → Shared → Prop} {s : Shared} {n n2 : Nat} {t u : Tok} {Q : Value → Shared → Prop} (b1 : n < 65536) (b2 : n2 < 65536) (e1 : Builtin.bitAnd (n : Int) 64512 = 55296) (e2 : Builtin.bitAnd (n2 : Int) 64512 = 56320)
    (h : 55296 ≤ n → n < 56320 → 56320 ≤ n2 → n2 < 57344 → Q (.int ((((n - 55296) * 1024 + (n2 - 56320) : Nat)) : Int) s.toks) { s with toks := s.toks + 1 }) :
    wpAny (model prog w) A (binaryOp .BitOr (.int (((n : Int) - 55296) * 2 ^ Int.toNat 10) t) (.int ((n2 : Int) - 56320) u)) Q E s := by
  have h1 := hi_of b1 e1
  have h2 := lo_of b2 e2
  refine or_int ?_
  rw [show (((n : Int) - 55296) * 2 ^ Int.toNat 10) = ((1024 * (n - 55296) : Nat) : Int) by rw [show (2 ^ Int.toNat 10 : Int) = 1024 from rfl]; omega, or_hi (n - 55296) (by omega) (by omega),
    show ((1024 * (n - 55296) : Nat) : Int) + ((n2 : Int) - 56320) = ((((n - 55296) * 1024 + (n2 - 56320) : Nat)) : Int) by omega]
  exact h h1.1 h1.2 h2.1 h2.2
theorem scanT_one {big : Bool} {a b c d n : Nat} {r : List Tk} (hn : hexV a b c d = n) (h : ∀ a' b' c' d' r', r = .hex a' b' c' d' :: r' → (big && hiN n && loN (hexV a' b' c' d')) = false) : scanT big (.hex a b c d :: r) = n :: scanT big r := by
  subst hn
  cases r with
  | nil => simp [scanT]
  | cons t r' =>
    cases t with
    | lit e => simp [scanT]
    | esc e f => simp [scanT]
    | hex a' b' c' d' =>
      rw [scanT, if_neg]
      rw [h _ _ _ _ _ rfl]; exact Bool.false_ne_true
theorem scanT_two {a b c d n a' b' c' d' n' : Nat} {r : List Tk} (hn : hexV a b c d = n) (hn' : hexV a' b' c' d' = n') (h1 : 55296 ≤ n) (h2 : n < 56320) (h3 : 56320 ≤ n') (h4 : n' < 57344) :
    scanT true (.hex a b c d :: .hex a' b' c' d' :: r) = (65536 + (((n - 55296) * 1024 + (n' - 56320) : Nat) : Int)).toNat :: scanT true r := by
  rw [show (65536 + (((n - 55296) * 1024 + (n' - 56320) : Nat) : Int)).toNat = 65536 + (n - 55296) * 1024 + (n' - 56320) by omega]
  subst hn hn'
  rw [scanT, if_pos]
  have e1 : hiN (hexV a b c d) = true := decide_eq_true ⟨h1, h2⟩
  have e2 : loN (hexV a' b' c' d') = true := decide_eq_true ⟨h3, h4⟩
  rw [e1, e2]; rfl
/-- what stands behind four figures: four more, or something else -/
theorem next_kind (r : List Tk) (h : ∀ t ∈ r, t.Ok) : (∃ a b c d r', r = .hex a b c d :: r') ∨ ((∀ a b c d r', r ≠ .hex a b c d :: r') ∧ (flatT r ++ [34]).take 2 ≠ [92, 117]) := by
  cases r with
  | nil => exact .inr ⟨(fun _ _ _ _ _ e => nomatch e), by simp [flatT]⟩
  | cons t r' =>
    cases t with
    | hex a b c d => exact .inl ⟨a, b, c, d, r', rfl⟩
    | lit c =>
      refine .inr ⟨(fun _ _ _ _ _ e => nomatch e), fun e => ?_⟩
      have hc : stops c = false := h (.lit c) List.mem_cons_self
      have h2 : c = 92 := by
        have := congrArg (fun l : List Nat => l.getD 0 0) e
        simpa [flatT, Tk.text] using this
      subst h2
      exact absurd hc (by decide)
    | esc k c =>
      refine .inr ⟨(fun _ _ _ _ _ e => nomatch e), fun e => esc_ne (h (.esc k c) List.mem_cons_self) ?_⟩
      have := congrArg (fun l : List Nat => l.getD 1 0) e
      simpa [flatT, Tk.text] using this
end Mine
end
-- part FScan
section
open PySem PySem.Spec PySem.Calls PySem.W PyProof.Rows PySem.Builtin.Re
namespace Mine
local macro_rules | `(tactic| walk_at "getAttr ref") => `(tactic| (k_here; k_dflt (refine' getAttr_append_N ?F ?N ?m ?_; (case F => k_asm); (case N => k_asm); (case m => k_mem)); intro p' h' tk' F' N' l1; (try k_lt l1)))
local macro_rules | `(tactic| walk_at "exec While Constant cons nil") => `(tactic| refine hold_of ?_)
local macro_rules | `(tactic| walk_at "callWith ref") => `(tactic| (k_here; k_dflt (refine' callWith_B (q := 115) (id := "str.join") ?k1 ?_; (case k1 => exact bmK (by k_in) (by assumption)))))
local macro_rules | `(tactic| walk_at "And") => `(tactic| ((with_reducible show BmAt 115 _ _ _ ∧ _); refine ⟨bmK (by k_in) (by assumption), ?_⟩; try dsimp only [List.nil_append, List.cons_append]))
local macro_rules | `(tactic| walk_at "callWith ref") => `(tactic| (k_here; k_dflt (refine' callWith_B (id := "list.append") ?k1 ?_; (case k1 => exact bmN (by k_asm) (by k_mem)))))
local macro_rules | `(tactic| walk_at "And") => `(tactic| ((with_reducible show BmAt _ "list.append" _ _ ∧ _); refine ⟨bmN (by k_asm) (by k_mem), ?_⟩; try dsimp only [List.nil_append, List.cons_append]))
local macro_rules | `(tactic| walk_at "BmAt") => `(tactic| k_dflt (exact bmN (by k_asm) (by k_mem)))
local macro_rules | `(tactic| walk_at "call ref") => `(tactic| (k_here; (with_reducible show wpAny _ _ (call (Value.ref _) [Value.str _ _]) _ _ _); k_dflt (refine' call_bm_append ?F ?N ?b ?U ?_ ?z; (case F => k_asm); (case N => k_asm); (case b => k_mem); (case U => k_updF); (case z => (try simp only [Array.size_push]); omega)); intro h' F' N'; (try dsimp only at N')))
local macro_rules | `(tactic| walk_at "call ref") => `(tactic| (k_here; (with_reducible show wpAny _ _ (call (Value.ref 115) _) _ _ _); k_dflt (refine' join_N ?F ?N ?X ?h1 ?e ?m ?i ?o ?_; (case F => k_asm); (case N => k_asm); (case X => k_asm); (case h1 => assumption); (case e => decide +kernel); (case m => k_mem); (case i => first | assumption | exact strs_push (by assumption) _ _ | exact strs_push (strs_push (by assumption) _ _) _ _); (case o => assumption)); intro t9' k9'))
local macro_rules | `(tactic| walk_at "callWith ref") => `(tactic| (k_here; k_dflt (refine' callWith_B (q := 114) (id := "re.Pattern.match") (self := .ref 98) ?k1 ?_; (case k1 => exact bmK (by k_in) (by k_is)))))
local macro_rules | `(tactic| walk_at "And") => `(tactic| ((with_reducible show BmAt 114 _ _ _ ∧ _); refine ⟨bmK (by k_in) (by k_is), ?_⟩; try dsimp only [List.nil_append, List.cons_append]))
local macro_rules | `(tactic| walk_at "call ref") => `(tactic| (k_here; (with_reducible show wpAny _ _ (call (Value.ref 114) _) _ _ _); k_dflt (refine' match_N ?F ?N ?X ?h1 ?h2 ?h3 ?x ?n ?h4 ?h5 ?_; (case F => k_asm); (case N => k_asm); (case X => k_asm); (case h1 => k_is); (case h2 => k_is); (case h3 => k_is); (case h4 => assumption); (case h5 => assumption); (case x => omega); (case n => assumption)); intro mM' hM' tk' pat' f2' f3' f4' b2' FM' NM' l1 l2; (try k_lt l1); (try k_lt2 l2)))
local macro_rules | `(tactic| walk_at "getMethod ref") => `(tactic| (k_here; k_dflt (first | (refine' getEnd ?hm ?_; (case hm => exact matchAt_news (by k_asm) (by k_mem) (by k_mem))) | (refine' getGroups ?hm ?_; (case hm => exact matchAt_news (by k_asm) (by k_mem) (by k_mem))))))
local macro_rules | `(tactic| walk_at "call builtin:re.Match.end") => `(tactic| (k_here; k_dflt (refine' end_N ?N ?a ?b ?_; (case N => k_asm); (case a => k_mem); (case b => k_mem))))
local macro_rules | `(tactic| walk_at "call builtin:re.Match.groups") => `(tactic| (k_here; (refine' groups_N ?F ?N ?m ?z ?y ?w ?_; (case m => exact matchAt_news (by k_asm) (by k_mem) (by k_mem)); (case F => k_asm); (case N => k_asm); (case z => omega); (case y => assumption); (case w => assumption)); intro D' h' t1' t2' tk' F' N' l1; (try k_lt l1)))
local macro_rules | `(tactic| walk_at "subscriptTail") => `(tactic| (k_here; (with_reducible show wpAny _ _ (subscriptTail _ _ (Value.ref 99) (Value.str _ _)) _ _ _); (refine' topItem_K ?F ?X ?l ?k ?e ?_; (case F => k_asm); (case X => k_asm); (case e => assumption); (case l => k_is); (case k => k_keys))))
local macro_rules | `(tactic| walk_at "subscriptTail Name Name str int") => `(tactic| (k_here; (with_reducible show wpAny _ _ (subscriptTail _ _ (Value.str _ _) (Value.int _ _)) _ _ _); (refine' sub_sign ?hi ?hz ?hc ?_; (case hi => assumption); (case hz => assumption); (case hc => assumption))))
local macro_rules | `(tactic| walk_at "call ref") => `(tactic| (k_here; (with_reducible show wpAny _ _ (call (Value.ref 113) _) _ _ _); k_dflt (refine' call_hex4 ?F ?N ?X ?T ?B ?hx ?H rfl ?hk ?h1 ?h2 ?_; (case F => k_asm); (case N => k_asm); (case X => k_asm); (case T => k_asm); (case B => k_asm); (case hx => assumption); (case H => assumption); (case hk => rfl); (case h1 => omega); (case h2 => omega)); intro D9' h9' tk9' u1' u2' j9' F' N' l1; (replace l1 := allNe_of l1); (simp only [AllNe, and_true] at l1)))
local macro_rules | `(tactic| walk_at "binaryOp BitOr int int") => `(tactic| (k_here; (refine' or_pair ?b1 ?b2 ?e1 ?e2 ?_; (case b1 => assumption); (case b2 => assumption); (case e1 => assumption); (case e2 => assumption)); intro _ _ _ _))
set_option maxRecDepth 100000 in
set_option maxHeartbeats 4000000 in
theorem scan_ok (w : World) (x : Str) (t u : Tok) (all : List Tk) : ConB w 123 [.str x t, .int 1 u] (fun _ => x.cps.size ≤ 3000 ∧ x.cps.toList = 34 :: (flatT all ++ [34]) ∧ ∀ t ∈ all, t.Ok)
    (fun g h v => ∃ r t' u' n, v = .ref r ∧ h.get? r = some { cls := .type "tuple", data := .seq #[.str ⟨(scanT true all).toArray⟩ t', .int (x.cps.size : Int) u'] n } ∧ g.get? r = none) := by
  unfold ConB; k_with_none; w_top off; k_fill
  intro p loose mean mg mb dp un gd outer base s B X T hpre hdp hun
  obtain ⟨hz, hx, hok⟩ := hpre
  have h115 := show (hd.heap_39 w.params).lookup 115 = some _ from by k_is
  k_dflt (refine' enter ?B ?X ?T ?o ?cd ?room ?bind ?loc ?_ ?c1 ?c2 ?c3 ?c4; (case B => k_asm); (case X => k_asm); (case T => k_asm); (case o => k_is); (case cd => k_is); (case room => (dsimp only [ar]; simp only [recursionLimit] at *; omega)); (case bind => exact binds_K (by k_asm) rfl (by k_is) rfl rfl rfl); (case c4 => decide); (case loc => exact locs rfl); (case c1 => exact rfl); (case c2 => exact rfl); (case c3 => exact rfl))
  intro L' h₁ tk F N
  try dsimp only
  try k_fold
  k_steps
  refine Hold.mk ?_
  rename Fr _ _ _ _ => F1
  rename News _ _ _ _ => N1
  rename_i l9 h91 l91 h92 p9 h93 tk92 l92 h94 h95
  refine ksw_while (σ := SSt) (fun c => [(p9, bmObj "list.append" (.ref l9)), (l9, listOf c.1.1 c.1.2)]) (fun c => [(PySem.Str.ofString "end", .int (c.2.1.1 : Int) c.2.1.2)]) (fun _ => True) [PySem.Str.ofString "chunk", PySem.Str.ofString "prev_end", PySem.Str.ofString "content", PySem.Str.ofString "terminator", PySem.Str.ofString "esc", PySem.Str.ofString "char", PySem.Str.ofString "uni", PySem.Str.ofString "uni2", PySem.Str.ofString "end2"]
    (SInv x true all) (fun c => c.2.2.1.length) ((#[], 0), (1, _), (all, [])) F1 N1 trivial (by intro p hp; simp only [List.mem_cons, List.not_mem_nil, or_false] at hp; subst hp; rfl) ⟨?_, ?_, rfl, .nil, Nat.zero_le _, hok⟩ ?_ PassesOwn.never
  · rw [hx]; rfl
  · have := congrArg List.length hx
    rw [Array.length_toList, List.length_cons] at this
    show 1 ≤ _
    omega
  rintro ⟨⟨its, nn⟩, ⟨q, t1⟩, ts, ys⟩ u9 h tk' _ ⟨hd1, hd2, hd3, hd4, hd5, hd6⟩ F2 N2
  dsimp only at hd1 hd2 hd3 hd4 hd5 hd6
  clear F1 N1
  obtain ⟨l, r, rfl, hl, hr⟩ := split_lits ts hd6
  rw [flatT_append, flat_lits] at hd1
  dsimp only at F2 N2
  have hgl : ∀ j, j < l.length → stops (x.cps.getD (q + j) 0) = false := run_ok (r := flatT r ++ [34]) (by rw [hd1, List.append_assoc]) hl
  have hy : (⟨x.cps.extract q (q + l.length)⟩ : Str) = ⟨l.toArray⟩ := ext_many (r := flatT r ++ [34]) (by rw [hd1]; simp)
  have hsl : (scanT true all).length ≤ 3000 := by
    have h1 := scan_len true all
    have h2 := congrArg List.length hx
    rw [Array.length_toList, List.length_cons, List.length_append] at h2
    omega
  have ho1 : (flatS ys).length ≤ 100000 := by
    have := congrArg List.length hd3
    rw [List.length_append] at this
    omega
  have ho2 : (flatS (ys ++ [⟨l.toArray⟩])).length ≤ 100000 := by
    have := congrArg List.length hd3
    rw [scan_lits, List.length_append, List.length_append] at this
    rw [flatS_snoc, List.length_append]
    show _ + l.length ≤ _
    omega
  rcases hr with rfl | ⟨k, c, r', rfl⟩ | ⟨a, b, c, d, r', rfl⟩
  · obtain ⟨hq1, hst⟩ := run_end (l := l) (c := 34) (r := []) (by rw [hd1]; simp [flatT])
    have hw : (⟨x.cps.extract (q + l.length) (q + l.length + 1)⟩ : Str) = ⟨#[34]⟩ := ext_one hq1 hst
    have hs5 : stops (x.cps.getD (q + l.length) 0) = true := by rw [hst]; decide
    have hend : q + l.length + 1 = x.cps.size := by
      have := congrArg List.length hd1
      rw [List.length_drop, Array.length_toList, List.length_append, List.length_append] at this
      simp only [flatT, List.flatMap_nil, List.length_nil, List.length_cons] at this
      omega
    have hres : flatS ys ++ l = scanT true all := by rw [← hd3, scan_lits]; simp [scanT]
    (try dsimp only)
    (try k_fold)
    k_steps
    all_goals (try dsimp only)
    all_goals (try k_unfold)
    all_goals (try dsimp only)
    all_goals (rename Fr _ _ _ _ => F9; rename News _ _ _ _ => N9)
    · exact endV_of F9 rfl (scan_end N9 (by rw [flatS_snoc, ← hres]) (by rw [← hend]))
    · have hl0 : l = [] := by
        have : ((⟨l.toArray⟩ : Str).length : Int) = 0 := by assumption
        have h2 : (⟨l.toArray⟩ : Str).length = l.length := rfl
        exact List.length_eq_zero_iff.mp (by omega)
      exact endV_of F9 rfl (scan_end N9 (by rw [← hres, hl0, List.append_nil]) (by rw [← hend]))
  · have hd1' : x.cps.toList.drop q = l ++ 92 :: (k :: (flatT r' ++ [34])) := by rw [hd1]; simp [flatT, Tk.text]
    obtain ⟨hq1, hst⟩ := run_end hd1'
    have hw : (⟨x.cps.extract (q + l.length) (q + l.length + 1)⟩ : Str) = ⟨#[92]⟩ := ext_one hq1 hst
    have hs5 : stops (x.cps.getD (q + l.length) 0) = true := by rw [hst]; decide
    have hq2 : q + l.length + 1 < x.cps.size := by
      have := congrArg List.length hd1'
      simp only [List.length_drop, Array.length_toList, List.length_append, List.length_cons, List.length_nil] at this
      omega
    have hg2 : x.cps.getD (q + l.length + 1) 0 = k := by
      rw [Nat.add_assoc, drop_get hd1' (l.length + 1), List.getD_eq_getElem?_getD, List.getElem?_append_right (by omega), show l.length + 1 - l.length = 1 by omega]; rfl
    have hkc : (k, c) ∈ escP := hd6 (.esc k c) (by simp)
    obtain ⟨t9, htab⟩ := esc_tab hkc
    have hnk : k ≠ 117 := esc_ne hkc
    have hbk : nsIn (hd.heap_39 w.params) 99 ⟨#[k]⟩ = some (some (.str ⟨#[c]⟩ t9)) := by rw [back_in, htab]
    clear hst
    (try dsimp only)
    (try k_fold)
    k_steps
    all_goals (try dsimp only)
    all_goals (try k_unfold)
    all_goals (try dsimp only)
    all_goals first | (exact absurd (ne_u hnk) (ne_true_of_eq_false (by assumption))) | (rename Fr _ _ _ _ => F9; rename News _ _ _ _ => N9)
    all_goals first
      | (refine ksw_end (((its.push (.str ⟨l.toArray⟩ _)).push (.str ⟨#[c]⟩ _), _), (q + l.length + 1 + 1, _), r', ys ++ [⟨l.toArray⟩] ++ [⟨#[c]⟩]) F9 N9 (two_mem (by first | exact .head _ | exact .tail _ (.head _) | exact .tail _ (.tail _ (.head _)) | exact .tail _ (.tail _ (.tail _ (.head _))) | exact .tail _ (.tail _ (.tail _ (.tail _ (.head _)))) | exact .tail _ (.tail _ (.tail _ (.tail _ (.tail _ (.head _))))) | exact .tail _ (.tail _ (.tail _ (.tail _ (.tail _ (.tail _ (.head _)))))) | exact .tail _ (.tail _ (.tail _ (.tail _ (.tail _ (.tail _ (.tail _ (.head _)))))))) (by first | exact .head _ | exact .tail _ (.head _) | exact .tail _ (.tail _ (.head _)) | exact .tail _ (.tail _ (.tail _ (.head _))) | exact .tail _ (.tail _ (.tail _ (.tail _ (.head _)))) | exact .tail _ (.tail _ (.tail _ (.tail _ (.tail _ (.head _))))) | exact .tail _ (.tail _ (.tail _ (.tail _ (.tail _ (.tail _ (.head _)))))) | exact .tail _ (.tail _ (.tail _ (.tail _ (.tail _ (.tail _ (.tail _ (.head _))))))))) trivial (by intro p hp; rw [List.mem_singleton.mp hp]; rfl) (by intro z h2 h3; (simp only [List.forall_mem_cons, List.not_mem_nil, false_implies, implies_true, and_true, ne_eq] at h2); (simp only [List.contains_cons, List.contains_nil, Bool.or_false, Bool.or_eq_false_iff, beq_eq_false_iff_ne, ne_eq] at h3); simp [kstB, h2, h3]; done) (inv_step (pc := [92, k]) (by rw [hd1']; simp) hd3 hd5 hd6 (by simp only [List.length_cons, List.length_nil]; omega) (by simp only [List.length_cons, List.length_nil]; omega) ⟨[.esc k c], rfl⟩ (scanT_esc _ _ _ _) (flat_snoc2 ys l _) (strs_push (strs_push hd4 _ _) _ _) (by simp only [Array.size_push]; omega)) (mu_step (pr := [.esc k c]) (by simp only [List.length_cons, List.length_nil]; omega)))
      | (refine ksw_end ((its.push (.str ⟨#[c]⟩ _), _), (q + l.length + 1 + 1, _), r', ys ++ [⟨#[c]⟩]) F9 N9 (two_mem (by first | exact .head _ | exact .tail _ (.head _) | exact .tail _ (.tail _ (.head _)) | exact .tail _ (.tail _ (.tail _ (.head _))) | exact .tail _ (.tail _ (.tail _ (.tail _ (.head _)))) | exact .tail _ (.tail _ (.tail _ (.tail _ (.tail _ (.head _))))) | exact .tail _ (.tail _ (.tail _ (.tail _ (.tail _ (.tail _ (.head _)))))) | exact .tail _ (.tail _ (.tail _ (.tail _ (.tail _ (.tail _ (.tail _ (.head _)))))))) (by first | exact .head _ | exact .tail _ (.head _) | exact .tail _ (.tail _ (.head _)) | exact .tail _ (.tail _ (.tail _ (.head _))) | exact .tail _ (.tail _ (.tail _ (.tail _ (.head _)))) | exact .tail _ (.tail _ (.tail _ (.tail _ (.tail _ (.head _))))) | exact .tail _ (.tail _ (.tail _ (.tail _ (.tail _ (.tail _ (.head _)))))) | exact .tail _ (.tail _ (.tail _ (.tail _ (.tail _ (.tail _ (.tail _ (.head _))))))))) trivial (by intro p hp; rw [List.mem_singleton.mp hp]; rfl) (by intro z h2 h3; (simp only [List.forall_mem_cons, List.not_mem_nil, false_implies, implies_true, and_true, ne_eq] at h2); (simp only [List.contains_cons, List.contains_nil, Bool.or_false, Bool.or_eq_false_iff, beq_eq_false_iff_ne, ne_eq] at h3); simp [kstB, h2, h3]; done) (inv_step (pc := [92, k]) (by rw [hd1']; simp) hd3 hd5 hd6 (by simp only [List.length_cons, List.length_nil]; omega) (by simp only [List.length_cons, List.length_nil]; omega) ⟨[.esc k c], rfl⟩ (scanT_esc _ _ _ _) (by rw [flat_snoc1, len_zero (l := l) (by assumption)]; rfl) (strs_push hd4 _ _) (by simp only [Array.size_push]; omega)) (mu_step (pr := [.esc k c]) (by simp only [List.length_cons, List.length_nil]; omega)))
  · have hd1' : x.cps.toList.drop q = l ++ 92 :: (117 :: hexD a :: hexD b :: hexD c :: hexD d :: (flatT r' ++ [34])) := by rw [hd1]; simp [flatT, Tk.text]
    obtain ⟨hq1, hst⟩ := run_end hd1'
    have hw : (⟨x.cps.extract (q + l.length) (q + l.length + 1)⟩ : Str) = ⟨#[92]⟩ := ext_one hq1 hst
    have hs5 : stops (x.cps.getD (q + l.length) 0) = true := by rw [hst]; decide
    have hq2 : q + l.length + 1 < x.cps.size := by
      have := congrArg List.length hd1'
      simp only [List.length_drop, Array.length_toList, List.length_append, List.length_cons, List.length_nil] at this
      omega
    have hg2 : x.cps.getD (q + l.length + 1) 0 = 117 := by
      rw [Nat.add_assoc, drop_get hd1' (l.length + 1), List.getD_eq_getElem?_getD, List.getElem?_append_right (by omega), show l.length + 1 - l.length = 1 by omega]; rfl
    obtain ⟨ha, hb, hc, hd'⟩ : a < 16 ∧ b < 16 ∧ c < 16 ∧ d < 16 := hd6 (.hex a b c d) (by simp)
    have hd7 : x.cps.toList.drop (q + (l ++ [92, 117]).length) = hexD a :: hexD b :: hexD c :: hexD d :: (flatT r' ++ [34]) := drop_add (by rw [hd1']; simp)
    rw [List.length_append, List.length_cons, List.length_cons, List.length_nil] at hd7
    have hH : HexAt x (((q + l.length + 1 : Nat) : Int) + 1) (hexV a b c d) := hexAt_of hd7 (by omega) ha hb hc hd'
    obtain ⟨n, hn⟩ : ∃ n, hexV a b c d = n := ⟨_, rfl⟩
    rw [hn] at hH
    have hnl : n < 65536 := by rw [← hn]; exact hex_lt ha hb hc hd'
    have hd8 : x.cps.toList.drop (q + l.length + 6) = flatT r' ++ [34] := by
      have h8 : x.cps.toList.drop (q + (l ++ [92, 117, hexD a, hexD b, hexD c, hexD d]).length) = flatT r' ++ [34] := drop_add (by rw [hd1']; simp)
      rw [List.length_append, List.length_cons, List.length_cons, List.length_cons, List.length_cons, List.length_cons, List.length_cons, List.length_nil] at h8
      exact h8
    have hq8 : q + l.length + 6 ≤ x.cps.size := by
      have := congrArg List.length hd1'
      simp only [List.length_drop, Array.length_toList, List.length_append, List.length_cons, List.length_nil] at this
      omega
    have hok' : ∀ t ∈ r', t.Ok := fun t ht => hd6 t (by simp [ht])
    have hz12 : (((q + l.length + 1 : Nat) : Int) + 1 + 4 + 2 + 4) = ((q + l.length + 12 : Nat) : Int) := by omega
    have hz6 : (((q + l.length + 1 : Nat) : Int) + 1 + 4) = ((q + l.length + 6 : Nat) : Int) := by omega
    clear hst
    rcases next_kind r' hok' with ⟨a', b', c', d', r'', rfl⟩ | ⟨hnx, hnt⟩
    · obtain ⟨ha2, hb2, hc2, hd2'⟩ : a' < 16 ∧ b' < 16 ∧ c' < 16 ∧ d' < 16 := hok' (.hex a' b' c' d') List.mem_cons_self
      have hd9 : x.cps.toList.drop (q + l.length + 6) = 92 :: 117 :: (hexD a' :: hexD b' :: hexD c' :: hexD d' :: (flatT r'' ++ [34])) := by rw [hd8]; simp [flatT, Tk.text]
      have hsu := slice_u hd9 hq8 hz6
      have hdA : x.cps.toList.drop (q + l.length + 6 + 2) = hexD a' :: hexD b' :: hexD c' :: hexD d' :: (flatT r'' ++ [34]) := drop_add (a := [92, 117]) hd9
      have hH2 : HexAt x (((q + l.length + 1 : Nat) : Int) + 1 + 4 + 2) (hexV a' b' c' d') := hexAt_of hdA (by omega) ha2 hb2 hc2 hd2'
      obtain ⟨n', hn'⟩ : ∃ n', hexV a' b' c' d' = n' := ⟨_, rfl⟩
      rw [hn'] at hH2
      have hnl2 : n' < 65536 := by rw [← hn']; exact hex_lt ha2 hb2 hc2 hd2'
      clear hd7 hd9 hdA hd8
      (try dsimp only)
      (try k_fold)
      k_steps
      all_goals (try dsimp only)
      all_goals (try k_unfold)
      all_goals (try dsimp only)
      all_goals first | (exact absurd hsu (ne_true_of_eq_false (by assumption))) | (rename Fr _ _ _ _ => F9; rename News _ _ _ _ => N9)
      all_goals first
        | (have e9 : 56320 ≤ n' := (by assumption); first | (refine ksw_end (((its.push (.str ⟨l.toArray⟩ _)).push (.str ⟨#[(65536 + (((n - 55296) * 1024 + (n' - 56320) : Nat) : Int)).toNat]⟩ _), _), (q + l.length + 12, _), r'', ys ++ [⟨l.toArray⟩] ++ [⟨#[(65536 + (((n - 55296) * 1024 + (n' - 56320) : Nat) : Int)).toNat]⟩]) F9 N9 (two_mem (by first | exact .head _ | exact .tail _ (.head _) | exact .tail _ (.tail _ (.head _)) | exact .tail _ (.tail _ (.tail _ (.head _))) | exact .tail _ (.tail _ (.tail _ (.tail _ (.head _)))) | exact .tail _ (.tail _ (.tail _ (.tail _ (.tail _ (.head _))))) | exact .tail _ (.tail _ (.tail _ (.tail _ (.tail _ (.tail _ (.head _)))))) | exact .tail _ (.tail _ (.tail _ (.tail _ (.tail _ (.tail _ (.tail _ (.head _)))))))) (by first | exact .head _ | exact .tail _ (.head _) | exact .tail _ (.tail _ (.head _)) | exact .tail _ (.tail _ (.tail _ (.head _))) | exact .tail _ (.tail _ (.tail _ (.tail _ (.head _)))) | exact .tail _ (.tail _ (.tail _ (.tail _ (.tail _ (.head _))))) | exact .tail _ (.tail _ (.tail _ (.tail _ (.tail _ (.tail _ (.head _)))))) | exact .tail _ (.tail _ (.tail _ (.tail _ (.tail _ (.tail _ (.tail _ (.head _))))))))) trivial (by intro p hp; rw [List.mem_singleton.mp hp]; exact int_some rfl hz12) (by intro z h2 h3; (simp only [List.forall_mem_cons, List.not_mem_nil, false_implies, implies_true, and_true, ne_eq] at h2); (simp only [List.contains_cons, List.contains_nil, Bool.or_false, Bool.or_eq_false_iff, beq_eq_false_iff_ne, ne_eq] at h3); simp [kstB, h2, h3]; done) (inv_step (pc := [92, 117, hexD a, hexD b, hexD c, hexD d, 92, 117, hexD a', hexD b', hexD c', hexD d']) (by rw [hd1']; simp [flatT, Tk.text]) hd3 hd5 hd6 (by simp only [List.length_cons, List.length_nil]; omega) (by simp only [List.length_cons, List.length_nil]; omega) ⟨[.hex a b c d, .hex a' b' c' d'], rfl⟩ (scanT_two hn hn' (by assumption) (by assumption) (by assumption) (by assumption)) (flat_snoc2 ys l _) (strs_push (strs_push hd4 _ _) _ _) (by simp only [Array.size_push]; omega)) (mu_step (pr := [.hex a b c d, .hex a' b' c' d']) (by simp only [List.length_cons, List.length_nil]; omega))) | (refine ksw_end ((its.push (.str ⟨#[(65536 + (((n - 55296) * 1024 + (n' - 56320) : Nat) : Int)).toNat]⟩ _), _), (q + l.length + 12, _), r'', ys ++ [⟨#[(65536 + (((n - 55296) * 1024 + (n' - 56320) : Nat) : Int)).toNat]⟩]) F9 N9 (two_mem (by first | exact .head _ | exact .tail _ (.head _) | exact .tail _ (.tail _ (.head _)) | exact .tail _ (.tail _ (.tail _ (.head _))) | exact .tail _ (.tail _ (.tail _ (.tail _ (.head _)))) | exact .tail _ (.tail _ (.tail _ (.tail _ (.tail _ (.head _))))) | exact .tail _ (.tail _ (.tail _ (.tail _ (.tail _ (.tail _ (.head _)))))) | exact .tail _ (.tail _ (.tail _ (.tail _ (.tail _ (.tail _ (.tail _ (.head _)))))))) (by first | exact .head _ | exact .tail _ (.head _) | exact .tail _ (.tail _ (.head _)) | exact .tail _ (.tail _ (.tail _ (.head _))) | exact .tail _ (.tail _ (.tail _ (.tail _ (.head _)))) | exact .tail _ (.tail _ (.tail _ (.tail _ (.tail _ (.head _))))) | exact .tail _ (.tail _ (.tail _ (.tail _ (.tail _ (.tail _ (.head _)))))) | exact .tail _ (.tail _ (.tail _ (.tail _ (.tail _ (.tail _ (.tail _ (.head _))))))))) trivial (by intro p hp; rw [List.mem_singleton.mp hp]; exact int_some rfl hz12) (by intro z h2 h3; (simp only [List.forall_mem_cons, List.not_mem_nil, false_implies, implies_true, and_true, ne_eq] at h2); (simp only [List.contains_cons, List.contains_nil, Bool.or_false, Bool.or_eq_false_iff, beq_eq_false_iff_ne, ne_eq] at h3); simp [kstB, h2, h3]; done) (inv_step (pc := [92, 117, hexD a, hexD b, hexD c, hexD d, 92, 117, hexD a', hexD b', hexD c', hexD d']) (by rw [hd1']; simp [flatT, Tk.text]) hd3 hd5 hd6 (by simp only [List.length_cons, List.length_nil]; omega) (by simp only [List.length_cons, List.length_nil]; omega) ⟨[.hex a b c d, .hex a' b' c' d'], rfl⟩ (scanT_two hn hn' (by assumption) (by assumption) (by assumption) (by assumption)) (by rw [flat_snoc1, len_zero (l := l) (by assumption)]; rfl) (strs_push hd4 _ _) (by simp only [Array.size_push]; omega)) (mu_step (pr := [.hex a b c d, .hex a' b' c' d']) (by simp only [List.length_cons, List.length_nil]; omega))))
        | (have hS : ∀ a1 b1 c1 d1 r1, Tk.hex a' b' c' d' :: r'' = .hex a1 b1 c1 d1 :: r1 → (true && hiN n && loN (hexV a1 b1 c1 d1)) = false := (by intro a1 b1 c1 d1 r1 e; cases e; rw [hn']; first | rw [hi_not hnl (by assumption)]; rfl | rw [lo_not hnl2 (by assumption), Bool.and_false]); first | (refine ksw_end (((its.push (.str ⟨l.toArray⟩ _)).push (.str ⟨#[n]⟩ _), _), (q + l.length + 6, _), _, ys ++ [⟨l.toArray⟩] ++ [⟨#[n]⟩]) F9 N9 (two_mem (by first | exact .head _ | exact .tail _ (.head _) | exact .tail _ (.tail _ (.head _)) | exact .tail _ (.tail _ (.tail _ (.head _))) | exact .tail _ (.tail _ (.tail _ (.tail _ (.head _)))) | exact .tail _ (.tail _ (.tail _ (.tail _ (.tail _ (.head _))))) | exact .tail _ (.tail _ (.tail _ (.tail _ (.tail _ (.tail _ (.head _)))))) | exact .tail _ (.tail _ (.tail _ (.tail _ (.tail _ (.tail _ (.tail _ (.head _)))))))) (by first | exact .head _ | exact .tail _ (.head _) | exact .tail _ (.tail _ (.head _)) | exact .tail _ (.tail _ (.tail _ (.head _))) | exact .tail _ (.tail _ (.tail _ (.tail _ (.head _)))) | exact .tail _ (.tail _ (.tail _ (.tail _ (.tail _ (.head _))))) | exact .tail _ (.tail _ (.tail _ (.tail _ (.tail _ (.tail _ (.head _)))))) | exact .tail _ (.tail _ (.tail _ (.tail _ (.tail _ (.tail _ (.tail _ (.head _))))))))) trivial (by intro p hp; rw [List.mem_singleton.mp hp]; exact int_some rfl hz6) (by intro z h2 h3; (simp only [List.forall_mem_cons, List.not_mem_nil, false_implies, implies_true, and_true, ne_eq] at h2); (simp only [List.contains_cons, List.contains_nil, Bool.or_false, Bool.or_eq_false_iff, beq_eq_false_iff_ne, ne_eq] at h3); simp [kstB, h2, h3]; done) (inv_step (pc := [92, 117, hexD a, hexD b, hexD c, hexD d]) (by rw [hd1']; simp) hd3 hd5 hd6 (by simp only [List.length_cons, List.length_nil]; omega) (by simp only [List.length_cons, List.length_nil]; omega) ⟨[.hex a b c d], rfl⟩ (scanT_one hn hS) (flat_snoc2 ys l _) (strs_push (strs_push hd4 _ _) _ _) (by simp only [Array.size_push]; omega)) (mu_step (pr := [.hex a b c d]) (by simp only [List.length_cons, List.length_nil]; omega))) | (refine ksw_end ((its.push (.str ⟨#[n]⟩ _), _), (q + l.length + 6, _), _, ys ++ [⟨#[n]⟩]) F9 N9 (two_mem (by first | exact .head _ | exact .tail _ (.head _) | exact .tail _ (.tail _ (.head _)) | exact .tail _ (.tail _ (.tail _ (.head _))) | exact .tail _ (.tail _ (.tail _ (.tail _ (.head _)))) | exact .tail _ (.tail _ (.tail _ (.tail _ (.tail _ (.head _))))) | exact .tail _ (.tail _ (.tail _ (.tail _ (.tail _ (.tail _ (.head _)))))) | exact .tail _ (.tail _ (.tail _ (.tail _ (.tail _ (.tail _ (.tail _ (.head _)))))))) (by first | exact .head _ | exact .tail _ (.head _) | exact .tail _ (.tail _ (.head _)) | exact .tail _ (.tail _ (.tail _ (.head _))) | exact .tail _ (.tail _ (.tail _ (.tail _ (.head _)))) | exact .tail _ (.tail _ (.tail _ (.tail _ (.tail _ (.head _))))) | exact .tail _ (.tail _ (.tail _ (.tail _ (.tail _ (.tail _ (.head _)))))) | exact .tail _ (.tail _ (.tail _ (.tail _ (.tail _ (.tail _ (.tail _ (.head _))))))))) trivial (by intro p hp; rw [List.mem_singleton.mp hp]; exact int_some rfl hz6) (by intro z h2 h3; (simp only [List.forall_mem_cons, List.not_mem_nil, false_implies, implies_true, and_true, ne_eq] at h2); (simp only [List.contains_cons, List.contains_nil, Bool.or_false, Bool.or_eq_false_iff, beq_eq_false_iff_ne, ne_eq] at h3); simp [kstB, h2, h3]; done) (inv_step (pc := [92, 117, hexD a, hexD b, hexD c, hexD d]) (by rw [hd1']; simp) hd3 hd5 hd6 (by simp only [List.length_cons, List.length_nil]; omega) (by simp only [List.length_cons, List.length_nil]; omega) ⟨[.hex a b c d], rfl⟩ (scanT_one hn hS) (by rw [flat_snoc1, len_zero (l := l) (by assumption)]; rfl) (strs_push hd4 _ _) (by simp only [Array.size_push]; omega)) (mu_step (pr := [.hex a b c d]) (by simp only [List.length_cons, List.length_nil]; omega))))
    · have hsn := slice_no hd8 hq8 hz6 hnt
      have hS : ∀ a1 b1 c1 d1 r1, r' = .hex a1 b1 c1 d1 :: r1 → (true && hiN n && loN (hexV a1 b1 c1 d1)) = false := fun _ _ _ _ _ e => absurd e (hnx _ _ _ _ _)
      (try dsimp only)
      (try k_fold)
      k_steps
      all_goals (try dsimp only)
      all_goals (try k_unfold)
      all_goals (try dsimp only)
      all_goals first | (exact absurd (by assumption) (ne_true_of_eq_false hsn)) | (rename Fr _ _ _ _ => F9; rename News _ _ _ _ => N9)
      all_goals first
        | (refine ksw_end (((its.push (.str ⟨l.toArray⟩ _)).push (.str ⟨#[n]⟩ _), _), (q + l.length + 6, _), r', ys ++ [⟨l.toArray⟩] ++ [⟨#[n]⟩]) F9 N9 (two_mem (by first | exact .head _ | exact .tail _ (.head _) | exact .tail _ (.tail _ (.head _)) | exact .tail _ (.tail _ (.tail _ (.head _))) | exact .tail _ (.tail _ (.tail _ (.tail _ (.head _)))) | exact .tail _ (.tail _ (.tail _ (.tail _ (.tail _ (.head _))))) | exact .tail _ (.tail _ (.tail _ (.tail _ (.tail _ (.tail _ (.head _)))))) | exact .tail _ (.tail _ (.tail _ (.tail _ (.tail _ (.tail _ (.tail _ (.head _)))))))) (by first | exact .head _ | exact .tail _ (.head _) | exact .tail _ (.tail _ (.head _)) | exact .tail _ (.tail _ (.tail _ (.head _))) | exact .tail _ (.tail _ (.tail _ (.tail _ (.head _)))) | exact .tail _ (.tail _ (.tail _ (.tail _ (.tail _ (.head _))))) | exact .tail _ (.tail _ (.tail _ (.tail _ (.tail _ (.tail _ (.head _)))))) | exact .tail _ (.tail _ (.tail _ (.tail _ (.tail _ (.tail _ (.tail _ (.head _))))))))) trivial (by intro p hp; rw [List.mem_singleton.mp hp]; exact int_some rfl hz6) (by intro z h2 h3; (simp only [List.forall_mem_cons, List.not_mem_nil, false_implies, implies_true, and_true, ne_eq] at h2); (simp only [List.contains_cons, List.contains_nil, Bool.or_false, Bool.or_eq_false_iff, beq_eq_false_iff_ne, ne_eq] at h3); simp [kstB, h2, h3]; done) (inv_step (pc := [92, 117, hexD a, hexD b, hexD c, hexD d]) (by rw [hd1']; simp) hd3 hd5 hd6 (by simp only [List.length_cons, List.length_nil]; omega) (by simp only [List.length_cons, List.length_nil]; omega) ⟨[.hex a b c d], rfl⟩ (scanT_one hn hS) (flat_snoc2 ys l _) (strs_push (strs_push hd4 _ _) _ _) (by simp only [Array.size_push]; omega)) (mu_step (pr := [.hex a b c d]) (by simp only [List.length_cons, List.length_nil]; omega)))
        | (refine ksw_end ((its.push (.str ⟨#[n]⟩ _), _), (q + l.length + 6, _), r', ys ++ [⟨#[n]⟩]) F9 N9 (two_mem (by first | exact .head _ | exact .tail _ (.head _) | exact .tail _ (.tail _ (.head _)) | exact .tail _ (.tail _ (.tail _ (.head _))) | exact .tail _ (.tail _ (.tail _ (.tail _ (.head _)))) | exact .tail _ (.tail _ (.tail _ (.tail _ (.tail _ (.head _))))) | exact .tail _ (.tail _ (.tail _ (.tail _ (.tail _ (.tail _ (.head _)))))) | exact .tail _ (.tail _ (.tail _ (.tail _ (.tail _ (.tail _ (.tail _ (.head _)))))))) (by first | exact .head _ | exact .tail _ (.head _) | exact .tail _ (.tail _ (.head _)) | exact .tail _ (.tail _ (.tail _ (.head _))) | exact .tail _ (.tail _ (.tail _ (.tail _ (.head _)))) | exact .tail _ (.tail _ (.tail _ (.tail _ (.tail _ (.head _))))) | exact .tail _ (.tail _ (.tail _ (.tail _ (.tail _ (.tail _ (.head _)))))) | exact .tail _ (.tail _ (.tail _ (.tail _ (.tail _ (.tail _ (.tail _ (.head _))))))))) trivial (by intro p hp; rw [List.mem_singleton.mp hp]; exact int_some rfl hz6) (by intro z h2 h3; (simp only [List.forall_mem_cons, List.not_mem_nil, false_implies, implies_true, and_true, ne_eq] at h2); (simp only [List.contains_cons, List.contains_nil, Bool.or_false, Bool.or_eq_false_iff, beq_eq_false_iff_ne, ne_eq] at h3); simp [kstB, h2, h3]; done) (inv_step (pc := [92, 117, hexD a, hexD b, hexD c, hexD d]) (by rw [hd1']; simp) hd3 hd5 hd6 (by simp only [List.length_cons, List.length_nil]; omega) (by simp only [List.length_cons, List.length_nil]; omega) ⟨[.hex a b c d], rfl⟩ (scanT_one hn hS) (by rw [flat_snoc1, len_zero (l := l) (by assumption)]; rfl) (strs_push hd4 _ _) (by simp only [Array.size_push]; omega)) (mu_step (pr := [.hex a b c d]) (by simp only [List.length_cons, List.length_nil]; omega)))
end Mine
end
-- part FScan2
section
open PySem PySem.Spec PySem.Calls PySem.W PyProof.Rows PySem.Builtin.Re
namespace Mine
local macro_rules | `(tactic| walk_at "no such key") => `(tactic| fail "none")
local macro_rules | `(tactic| walk_at "getAttr ref") => `(tactic| (k_here; k_dflt (refine' getAttr_append_N ?F ?N ?m ?_; (case F => k_asm); (case N => k_asm); (case m => k_mem)); intro p' h' tk' F' N' l1; (try k_lt l1)))
local macro_rules | `(tactic| walk_at "exec While Constant cons nil") => `(tactic| refine hold_of ?_)
local macro_rules | `(tactic| walk_at "callWith ref") => `(tactic| (k_here; k_dflt (refine' callWith_B (q := 115) (id := "str.join") ?k1 ?_; (case k1 => exact bmK (by k_in) (by assumption)))))
local macro_rules | `(tactic| walk_at "And") => `(tactic| ((with_reducible show BmAt 115 _ _ _ ∧ _); refine ⟨bmK (by k_in) (by assumption), ?_⟩; try dsimp only [List.nil_append, List.cons_append]))
local macro_rules | `(tactic| walk_at "callWith ref") => `(tactic| (k_here; k_dflt (refine' callWith_B (id := "list.append") ?k1 ?_; (case k1 => exact bmN (by k_asm) (by k_mem)))))
local macro_rules | `(tactic| walk_at "And") => `(tactic| ((with_reducible show BmAt _ "list.append" _ _ ∧ _); refine ⟨bmN (by k_asm) (by k_mem), ?_⟩; try dsimp only [List.nil_append, List.cons_append]))
local macro_rules | `(tactic| walk_at "BmAt") => `(tactic| k_dflt (exact bmN (by k_asm) (by k_mem)))
local macro_rules | `(tactic| walk_at "call ref") => `(tactic| (k_here; (with_reducible show wpAny _ _ (call (Value.ref _) [Value.str _ _]) _ _ _); k_dflt (refine' call_bm_append ?F ?N ?b ?U ?_ ?z; (case F => k_asm); (case N => k_asm); (case b => k_mem); (case U => k_updF); (case z => (try simp only [Array.size_push]); omega)); intro h' F' N'; (try dsimp only at N')))
local macro_rules | `(tactic| walk_at "call ref") => `(tactic| (k_here; (with_reducible show wpAny _ _ (call (Value.ref 115) _) _ _ _); k_dflt (refine' join_N ?F ?N ?X ?h1 ?e ?m ?i ?o ?_; (case F => k_asm); (case N => k_asm); (case X => k_asm); (case h1 => assumption); (case e => decide +kernel); (case m => k_mem); (case i => first | assumption | exact strs_push (by assumption) _ _ | exact strs_push (strs_push (by assumption) _ _) _ _); (case o => assumption)); intro t9' k9'))
local macro_rules | `(tactic| walk_at "callWith ref") => `(tactic| (k_here; k_dflt (refine' callWith_B (q := 114) (id := "re.Pattern.match") (self := .ref 98) ?k1 ?_; (case k1 => exact bmK (by k_in) (by k_is)))))
local macro_rules | `(tactic| walk_at "And") => `(tactic| ((with_reducible show BmAt 114 _ _ _ ∧ _); refine ⟨bmK (by k_in) (by k_is), ?_⟩; try dsimp only [List.nil_append, List.cons_append]))
local macro_rules | `(tactic| walk_at "call ref") => `(tactic| (k_here; (with_reducible show wpAny _ _ (call (Value.ref 114) _) _ _ _); k_dflt (refine' match_N ?F ?N ?X ?h1 ?h2 ?h3 ?x ?n ?h4 ?h5 ?_; (case F => k_asm); (case N => k_asm); (case X => k_asm); (case h1 => k_is); (case h2 => k_is); (case h3 => k_is); (case h4 => assumption); (case h5 => assumption); (case x => omega); (case n => assumption)); intro mM' hM' tk' pat' f2' f3' f4' b2' FM' NM' l1 l2; (try k_lt l1); (try k_lt2 l2)))
local macro_rules | `(tactic| walk_at "getMethod ref") => `(tactic| (k_here; k_dflt (first | (refine' getEnd ?hm ?_; (case hm => exact matchAt_news (by k_asm) (by k_mem) (by k_mem))) | (refine' getGroups ?hm ?_; (case hm => exact matchAt_news (by k_asm) (by k_mem) (by k_mem))))))
local macro_rules | `(tactic| walk_at "call builtin:re.Match.end") => `(tactic| (k_here; k_dflt (refine' end_N ?N ?a ?b ?_; (case N => k_asm); (case a => k_mem); (case b => k_mem))))
local macro_rules | `(tactic| walk_at "call builtin:re.Match.groups") => `(tactic| (k_here; (refine' groups_N ?F ?N ?m ?z ?y ?w ?_; (case m => exact matchAt_news (by k_asm) (by k_mem) (by k_mem)); (case F => k_asm); (case N => k_asm); (case z => omega); (case y => assumption); (case w => assumption)); intro D' h' t1' t2' tk' F' N' l1; (try k_lt l1)))
local macro_rules | `(tactic| walk_at "subscriptTail") => `(tactic| (k_here; (with_reducible show wpAny _ _ (subscriptTail _ _ (Value.ref 99) (Value.str _ _)) _ _ _); (refine' topItem_K ?F ?X ?l ?k ?e ?_; (case F => k_asm); (case X => k_asm); (case e => assumption); (case l => k_is); (case k => k_keys))))
local macro_rules | `(tactic| walk_at "subscriptTail Name Name str int") => `(tactic| (k_here; (with_reducible show wpAny _ _ (subscriptTail _ _ (Value.str _ _) (Value.int _ _)) _ _ _); (refine' sub_sign ?hi ?hz ?hc ?_; (case hi => assumption); (case hz => assumption); (case hc => assumption))))
local macro_rules | `(tactic| walk_at "call ref") => `(tactic| (k_here; (with_reducible show wpAny _ _ (call (Value.ref 113) _) _ _ _); k_dflt (refine' call_hex4 ?F ?N ?X ?T ?B ?hx ?H rfl ?hk ?h1 ?h2 ?_; (case F => k_asm); (case N => k_asm); (case X => k_asm); (case T => k_asm); (case B => k_asm); (case hx => assumption); (case H => assumption); (case hk => rfl); (case h1 => omega); (case h2 => omega)); intro D9' h9' tk9' u1' u2' j9' F' N' l1; (replace l1 := allNe_of l1); (simp only [AllNe, and_true] at l1)))
local macro_rules | `(tactic| walk_at "binaryOp BitOr int int") => `(tactic| (k_here; (refine' or_pair ?b1 ?b2 ?e1 ?e2 ?_; (case b1 => assumption); (case b2 => assumption); (case e1 => assumption); (case e2 => assumption)); intro _ _ _ _))
set_option maxRecDepth 100000 in
set_option maxHeartbeats 4000000 in
theorem scan_near (w : World) (x : Str) (t u u2 : Tok) (all : List Tk) : ConB w 123 [.str x t, .int 1 u, .bool true, .int 65535 u2] (fun _ => x.cps.size ≤ 3000 ∧ x.cps.toList = 34 :: (flatT all ++ [34]) ∧ ∀ t ∈ all, t.Ok)
    (fun g h v => ∃ r t' u' n, v = .ref r ∧ h.get? r = some { cls := .type "tuple", data := .seq #[.str ⟨(scanT false all).toArray⟩ t', .int (x.cps.size : Int) u'] n } ∧ g.get? r = none) := by
  unfold ConB; k_with_none; w_top off; k_fill
  intro p loose mean mg mb dp un gd outer base s B X T hpre hdp hun
  obtain ⟨hz, hx, hok⟩ := hpre
  have h115 := show (hd.heap_39 w.params).lookup 115 = some _ from by k_is
  k_dflt (refine' enter ?B ?X ?T ?o ?cd ?room ?bind ?loc ?_ ?c1 ?c2 ?c3 ?c4; (case B => k_asm); (case X => k_asm); (case T => k_asm); (case o => k_is); (case cd => k_is); (case room => (dsimp only [ar]; simp only [recursionLimit] at *; omega)); (case bind => exact binds_K (by k_asm) rfl (by k_is) rfl rfl rfl); (case c4 => decide); (case loc => exact locs rfl); (case c1 => exact rfl); (case c2 => exact rfl); (case c3 => exact rfl))
  intro L' h₁ tk F N
  try dsimp only
  try k_fold
  k_steps
  refine Hold.mk ?_
  rename Fr _ _ _ _ => F1
  rename News _ _ _ _ => N1
  rename_i l9 h91 l91 h92 p9 h93 tk92 l92 h94 h95
  refine ksw_while (σ := SSt) (fun c => [(p9, bmObj "list.append" (.ref l9)), (l9, listOf c.1.1 c.1.2)]) (fun c => [(PySem.Str.ofString "end", .int (c.2.1.1 : Int) c.2.1.2)]) (fun _ => True) [PySem.Str.ofString "chunk", PySem.Str.ofString "prev_end", PySem.Str.ofString "content", PySem.Str.ofString "terminator", PySem.Str.ofString "esc", PySem.Str.ofString "char", PySem.Str.ofString "uni", PySem.Str.ofString "uni2", PySem.Str.ofString "end2"]
    (SInv x false all) (fun c => c.2.2.1.length) ((#[], 0), (1, _), (all, [])) F1 N1 trivial (by intro p hp; simp only [List.mem_cons, List.not_mem_nil, or_false] at hp; subst hp; rfl) ⟨?_, ?_, rfl, .nil, Nat.zero_le _, hok⟩ ?_ PassesOwn.never
  · rw [hx]; rfl
  · have := congrArg List.length hx
    rw [Array.length_toList, List.length_cons] at this
    show 1 ≤ _
    omega
  rintro ⟨⟨its, nn⟩, ⟨q, t1⟩, ts, ys⟩ u9 h tk' _ ⟨hd1, hd2, hd3, hd4, hd5, hd6⟩ F2 N2
  dsimp only at hd1 hd2 hd3 hd4 hd5 hd6
  clear F1 N1
  obtain ⟨l, r, rfl, hl, hr⟩ := split_lits ts hd6
  rw [flatT_append, flat_lits] at hd1
  dsimp only at F2 N2
  have hgl : ∀ j, j < l.length → stops (x.cps.getD (q + j) 0) = false := run_ok (r := flatT r ++ [34]) (by rw [hd1, List.append_assoc]) hl
  have hy : (⟨x.cps.extract q (q + l.length)⟩ : Str) = ⟨l.toArray⟩ := ext_many (r := flatT r ++ [34]) (by rw [hd1]; simp)
  have hsl : (scanT false all).length ≤ 3000 := by
    have h1 := scan_len false all
    have h2 := congrArg List.length hx
    rw [Array.length_toList, List.length_cons, List.length_append] at h2
    omega
  have ho1 : (flatS ys).length ≤ 100000 := by
    have := congrArg List.length hd3
    rw [List.length_append] at this
    omega
  have ho2 : (flatS (ys ++ [⟨l.toArray⟩])).length ≤ 100000 := by
    have := congrArg List.length hd3
    rw [scan_lits, List.length_append, List.length_append] at this
    rw [flatS_snoc, List.length_append]
    show _ + l.length ≤ _
    omega
  rcases hr with rfl | ⟨k, c, r', rfl⟩ | ⟨a, b, c, d, r', rfl⟩
  · obtain ⟨hq1, hst⟩ := run_end (l := l) (c := 34) (r := []) (by rw [hd1]; simp [flatT])
    have hw : (⟨x.cps.extract (q + l.length) (q + l.length + 1)⟩ : Str) = ⟨#[34]⟩ := ext_one hq1 hst
    have hs5 : stops (x.cps.getD (q + l.length) 0) = true := by rw [hst]; decide
    have hend : q + l.length + 1 = x.cps.size := by
      have := congrArg List.length hd1
      rw [List.length_drop, Array.length_toList, List.length_append, List.length_append] at this
      simp only [flatT, List.flatMap_nil, List.length_nil, List.length_cons] at this
      omega
    have hres : flatS ys ++ l = scanT false all := by rw [← hd3, scan_lits]; simp [scanT]
    (try dsimp only)
    (try k_fold)
    k_steps
    all_goals (try dsimp only)
    all_goals (try k_unfold)
    all_goals (try dsimp only)
    all_goals (rename Fr _ _ _ _ => F9; rename News _ _ _ _ => N9)
    · exact endV_of F9 rfl (scan_end N9 (by rw [flatS_snoc, ← hres]) (by rw [← hend]))
    · have hl0 : l = [] := by
        have : ((⟨l.toArray⟩ : Str).length : Int) = 0 := by assumption
        have h2 : (⟨l.toArray⟩ : Str).length = l.length := rfl
        exact List.length_eq_zero_iff.mp (by omega)
      exact endV_of F9 rfl (scan_end N9 (by rw [← hres, hl0, List.append_nil]) (by rw [← hend]))
  · have hd1' : x.cps.toList.drop q = l ++ 92 :: (k :: (flatT r' ++ [34])) := by rw [hd1]; simp [flatT, Tk.text]
    obtain ⟨hq1, hst⟩ := run_end hd1'
    have hw : (⟨x.cps.extract (q + l.length) (q + l.length + 1)⟩ : Str) = ⟨#[92]⟩ := ext_one hq1 hst
    have hs5 : stops (x.cps.getD (q + l.length) 0) = true := by rw [hst]; decide
    have hq2 : q + l.length + 1 < x.cps.size := by
      have := congrArg List.length hd1'
      simp only [List.length_drop, Array.length_toList, List.length_append, List.length_cons, List.length_nil] at this
      omega
    have hg2 : x.cps.getD (q + l.length + 1) 0 = k := by
      rw [Nat.add_assoc, drop_get hd1' (l.length + 1), List.getD_eq_getElem?_getD, List.getElem?_append_right (by omega), show l.length + 1 - l.length = 1 by omega]; rfl
    have hkc : (k, c) ∈ escP := hd6 (.esc k c) (by simp)
    obtain ⟨t9, htab⟩ := esc_tab hkc
    have hnk : k ≠ 117 := esc_ne hkc
    have hbk : nsIn (hd.heap_39 w.params) 99 ⟨#[k]⟩ = some (some (.str ⟨#[c]⟩ t9)) := by rw [back_in, htab]
    clear hst
    (try dsimp only)
    (try k_fold)
    k_steps
    all_goals (try dsimp only)
    all_goals (try k_unfold)
    all_goals (try dsimp only)
    all_goals first | (exact absurd (ne_u hnk) (ne_true_of_eq_false (by assumption))) | (rename Fr _ _ _ _ => F9; rename News _ _ _ _ => N9)
    all_goals first
      | (refine ksw_end (((its.push (.str ⟨l.toArray⟩ _)).push (.str ⟨#[c]⟩ _), _), (q + l.length + 1 + 1, _), r', ys ++ [⟨l.toArray⟩] ++ [⟨#[c]⟩]) F9 N9 (two_mem (by first | exact .head _ | exact .tail _ (.head _) | exact .tail _ (.tail _ (.head _)) | exact .tail _ (.tail _ (.tail _ (.head _))) | exact .tail _ (.tail _ (.tail _ (.tail _ (.head _)))) | exact .tail _ (.tail _ (.tail _ (.tail _ (.tail _ (.head _))))) | exact .tail _ (.tail _ (.tail _ (.tail _ (.tail _ (.tail _ (.head _)))))) | exact .tail _ (.tail _ (.tail _ (.tail _ (.tail _ (.tail _ (.tail _ (.head _)))))))) (by first | exact .head _ | exact .tail _ (.head _) | exact .tail _ (.tail _ (.head _)) | exact .tail _ (.tail _ (.tail _ (.head _))) | exact .tail _ (.tail _ (.tail _ (.tail _ (.head _)))) | exact .tail _ (.tail _ (.tail _ (.tail _ (.tail _ (.head _))))) | exact .tail _ (.tail _ (.tail _ (.tail _ (.tail _ (.tail _ (.head _)))))) | exact .tail _ (.tail _ (.tail _ (.tail _ (.tail _ (.tail _ (.tail _ (.head _))))))))) trivial (by intro p hp; rw [List.mem_singleton.mp hp]; rfl) (by intro z h2 h3; (simp only [List.forall_mem_cons, List.not_mem_nil, false_implies, implies_true, and_true, ne_eq] at h2); (simp only [List.contains_cons, List.contains_nil, Bool.or_false, Bool.or_eq_false_iff, beq_eq_false_iff_ne, ne_eq] at h3); simp [kstB, h2, h3]; done) (inv_step (pc := [92, k]) (by rw [hd1']; simp) hd3 hd5 hd6 (by simp only [List.length_cons, List.length_nil]; omega) (by simp only [List.length_cons, List.length_nil]; omega) ⟨[.esc k c], rfl⟩ (scanT_esc _ _ _ _) (flat_snoc2 ys l _) (strs_push (strs_push hd4 _ _) _ _) (by simp only [Array.size_push]; omega)) (mu_step (pr := [.esc k c]) (by simp only [List.length_cons, List.length_nil]; omega)))
      | (refine ksw_end ((its.push (.str ⟨#[c]⟩ _), _), (q + l.length + 1 + 1, _), r', ys ++ [⟨#[c]⟩]) F9 N9 (two_mem (by first | exact .head _ | exact .tail _ (.head _) | exact .tail _ (.tail _ (.head _)) | exact .tail _ (.tail _ (.tail _ (.head _))) | exact .tail _ (.tail _ (.tail _ (.tail _ (.head _)))) | exact .tail _ (.tail _ (.tail _ (.tail _ (.tail _ (.head _))))) | exact .tail _ (.tail _ (.tail _ (.tail _ (.tail _ (.tail _ (.head _)))))) | exact .tail _ (.tail _ (.tail _ (.tail _ (.tail _ (.tail _ (.tail _ (.head _)))))))) (by first | exact .head _ | exact .tail _ (.head _) | exact .tail _ (.tail _ (.head _)) | exact .tail _ (.tail _ (.tail _ (.head _))) | exact .tail _ (.tail _ (.tail _ (.tail _ (.head _)))) | exact .tail _ (.tail _ (.tail _ (.tail _ (.tail _ (.head _))))) | exact .tail _ (.tail _ (.tail _ (.tail _ (.tail _ (.tail _ (.head _)))))) | exact .tail _ (.tail _ (.tail _ (.tail _ (.tail _ (.tail _ (.tail _ (.head _))))))))) trivial (by intro p hp; rw [List.mem_singleton.mp hp]; rfl) (by intro z h2 h3; (simp only [List.forall_mem_cons, List.not_mem_nil, false_implies, implies_true, and_true, ne_eq] at h2); (simp only [List.contains_cons, List.contains_nil, Bool.or_false, Bool.or_eq_false_iff, beq_eq_false_iff_ne, ne_eq] at h3); simp [kstB, h2, h3]; done) (inv_step (pc := [92, k]) (by rw [hd1']; simp) hd3 hd5 hd6 (by simp only [List.length_cons, List.length_nil]; omega) (by simp only [List.length_cons, List.length_nil]; omega) ⟨[.esc k c], rfl⟩ (scanT_esc _ _ _ _) (by rw [flat_snoc1, len_zero (l := l) (by assumption)]; rfl) (strs_push hd4 _ _) (by simp only [Array.size_push]; omega)) (mu_step (pr := [.esc k c]) (by simp only [List.length_cons, List.length_nil]; omega)))
  · have hd1' : x.cps.toList.drop q = l ++ 92 :: (117 :: hexD a :: hexD b :: hexD c :: hexD d :: (flatT r' ++ [34])) := by rw [hd1]; simp [flatT, Tk.text]
    obtain ⟨hq1, hst⟩ := run_end hd1'
    have hw : (⟨x.cps.extract (q + l.length) (q + l.length + 1)⟩ : Str) = ⟨#[92]⟩ := ext_one hq1 hst
    have hs5 : stops (x.cps.getD (q + l.length) 0) = true := by rw [hst]; decide
    have hq2 : q + l.length + 1 < x.cps.size := by
      have := congrArg List.length hd1'
      simp only [List.length_drop, Array.length_toList, List.length_append, List.length_cons, List.length_nil] at this
      omega
    have hg2 : x.cps.getD (q + l.length + 1) 0 = 117 := by
      rw [Nat.add_assoc, drop_get hd1' (l.length + 1), List.getD_eq_getElem?_getD, List.getElem?_append_right (by omega), show l.length + 1 - l.length = 1 by omega]; rfl
    obtain ⟨ha, hb, hc, hd'⟩ : a < 16 ∧ b < 16 ∧ c < 16 ∧ d < 16 := hd6 (.hex a b c d) (by simp)
    have hd7 : x.cps.toList.drop (q + (l ++ [92, 117]).length) = hexD a :: hexD b :: hexD c :: hexD d :: (flatT r' ++ [34]) := drop_add (by rw [hd1']; simp)
    rw [List.length_append, List.length_cons, List.length_cons, List.length_nil] at hd7
    have hH : HexAt x (((q + l.length + 1 : Nat) : Int) + 1) (hexV a b c d) := hexAt_of hd7 (by omega) ha hb hc hd'
    obtain ⟨n, hn⟩ : ∃ n, hexV a b c d = n := ⟨_, rfl⟩
    rw [hn] at hH
    have hnl : n < 65536 := by rw [← hn]; exact hex_lt ha hb hc hd'
    have hd8 : x.cps.toList.drop (q + l.length + 6) = flatT r' ++ [34] := by
      have h8 : x.cps.toList.drop (q + (l ++ [92, 117, hexD a, hexD b, hexD c, hexD d]).length) = flatT r' ++ [34] := drop_add (by rw [hd1']; simp)
      rw [List.length_append, List.length_cons, List.length_cons, List.length_cons, List.length_cons, List.length_cons, List.length_cons, List.length_nil] at h8
      exact h8
    have hq8 : q + l.length + 6 ≤ x.cps.size := by
      have := congrArg List.length hd1'
      simp only [List.length_drop, Array.length_toList, List.length_append, List.length_cons, List.length_nil] at this
      omega
    have hok' : ∀ t ∈ r', t.Ok := fun t ht => hd6 t (by simp [ht])
    have hz12 : (((q + l.length + 1 : Nat) : Int) + 1 + 4 + 2 + 4) = ((q + l.length + 12 : Nat) : Int) := by omega
    have hz6 : (((q + l.length + 1 : Nat) : Int) + 1 + 4) = ((q + l.length + 6 : Nat) : Int) := by omega
    clear hst
    have hS : ∀ a1 b1 c1 d1 r1, r' = .hex a1 b1 c1 d1 :: r1 → (false && hiN n && loN (hexV a1 b1 c1 d1)) = false := fun _ _ _ _ _ _ => rfl
    (try dsimp only)
    (try k_fold)
    k_steps
    all_goals (try dsimp only)
    all_goals (try k_unfold)
    all_goals (try dsimp only)
    all_goals (rename Fr _ _ _ _ => F9; rename News _ _ _ _ => N9)
    all_goals first
      | (refine ksw_end (((its.push (.str ⟨l.toArray⟩ _)).push (.str ⟨#[n]⟩ _), _), (q + l.length + 6, _), r', ys ++ [⟨l.toArray⟩] ++ [⟨#[n]⟩]) F9 N9 (two_mem (by first | exact .head _ | exact .tail _ (.head _) | exact .tail _ (.tail _ (.head _)) | exact .tail _ (.tail _ (.tail _ (.head _))) | exact .tail _ (.tail _ (.tail _ (.tail _ (.head _)))) | exact .tail _ (.tail _ (.tail _ (.tail _ (.tail _ (.head _))))) | exact .tail _ (.tail _ (.tail _ (.tail _ (.tail _ (.tail _ (.head _)))))) | exact .tail _ (.tail _ (.tail _ (.tail _ (.tail _ (.tail _ (.tail _ (.head _)))))))) (by first | exact .head _ | exact .tail _ (.head _) | exact .tail _ (.tail _ (.head _)) | exact .tail _ (.tail _ (.tail _ (.head _))) | exact .tail _ (.tail _ (.tail _ (.tail _ (.head _)))) | exact .tail _ (.tail _ (.tail _ (.tail _ (.tail _ (.head _))))) | exact .tail _ (.tail _ (.tail _ (.tail _ (.tail _ (.tail _ (.head _)))))) | exact .tail _ (.tail _ (.tail _ (.tail _ (.tail _ (.tail _ (.tail _ (.head _))))))))) trivial (by intro p hp; rw [List.mem_singleton.mp hp]; exact int_some rfl hz6) (by intro z h2 h3; (simp only [List.forall_mem_cons, List.not_mem_nil, false_implies, implies_true, and_true, ne_eq] at h2); (simp only [List.contains_cons, List.contains_nil, Bool.or_false, Bool.or_eq_false_iff, beq_eq_false_iff_ne, ne_eq] at h3); simp [kstB, h2, h3]; done) (inv_step (pc := [92, 117, hexD a, hexD b, hexD c, hexD d]) (by rw [hd1']; simp) hd3 hd5 hd6 (by simp only [List.length_cons, List.length_nil]; omega) (by simp only [List.length_cons, List.length_nil]; omega) ⟨[.hex a b c d], rfl⟩ (scanT_one hn hS) (flat_snoc2 ys l _) (strs_push (strs_push hd4 _ _) _ _) (by simp only [Array.size_push]; omega)) (mu_step (pr := [.hex a b c d]) (by simp only [List.length_cons, List.length_nil]; omega)))
      | (refine ksw_end ((its.push (.str ⟨#[n]⟩ _), _), (q + l.length + 6, _), r', ys ++ [⟨#[n]⟩]) F9 N9 (two_mem (by first | exact .head _ | exact .tail _ (.head _) | exact .tail _ (.tail _ (.head _)) | exact .tail _ (.tail _ (.tail _ (.head _))) | exact .tail _ (.tail _ (.tail _ (.tail _ (.head _)))) | exact .tail _ (.tail _ (.tail _ (.tail _ (.tail _ (.head _))))) | exact .tail _ (.tail _ (.tail _ (.tail _ (.tail _ (.tail _ (.head _)))))) | exact .tail _ (.tail _ (.tail _ (.tail _ (.tail _ (.tail _ (.tail _ (.head _)))))))) (by first | exact .head _ | exact .tail _ (.head _) | exact .tail _ (.tail _ (.head _)) | exact .tail _ (.tail _ (.tail _ (.head _))) | exact .tail _ (.tail _ (.tail _ (.tail _ (.head _)))) | exact .tail _ (.tail _ (.tail _ (.tail _ (.tail _ (.head _))))) | exact .tail _ (.tail _ (.tail _ (.tail _ (.tail _ (.tail _ (.head _)))))) | exact .tail _ (.tail _ (.tail _ (.tail _ (.tail _ (.tail _ (.tail _ (.head _))))))))) trivial (by intro p hp; rw [List.mem_singleton.mp hp]; exact int_some rfl hz6) (by intro z h2 h3; (simp only [List.forall_mem_cons, List.not_mem_nil, false_implies, implies_true, and_true, ne_eq] at h2); (simp only [List.contains_cons, List.contains_nil, Bool.or_false, Bool.or_eq_false_iff, beq_eq_false_iff_ne, ne_eq] at h3); simp [kstB, h2, h3]; done) (inv_step (pc := [92, 117, hexD a, hexD b, hexD c, hexD d]) (by rw [hd1']; simp) hd3 hd5 hd6 (by simp only [List.length_cons, List.length_nil]; omega) (by simp only [List.length_cons, List.length_nil]; omega) ⟨[.hex a b c d], rfl⟩ (scanT_one hn hS) (by rw [flat_snoc1, len_zero (l := l) (by assumption)]; rfl) (strs_push hd4 _ _) (by simp only [Array.size_push]; omega)) (mu_step (pr := [.hex a b c d]) (by simp only [List.length_cons, List.length_nil]; omega)))
end Mine
end
-- part FRepA
section
open PySem PySem.Spec PySem.Calls PySem.W PyProof.Rows PySem.Builtin.Re
namespace Mine
theorem getGroup {prog : Program} {w : World} {A : Around} {E : Value → Shared → Prop} {s : Shared} {m : Addr} {x : Str} {i : Nat} {pl : Sem Bool} {Q : Value × List Value → Shared → Prop} (hm : MatchAt0 s.heap m x i) (h : Q (.builtin "re.Match.group", [.ref m]) s) :
    wpAny (model prog w) A (getMethod (.ref m) (PySem.Str.ofString "group") pl) Q E s := by
  obtain ⟨L', ⟨tk, pat, f2, f3, f4, b, e1, e2⟩, _⟩ := hm
  have e1' := e1
  exact getMethod_builtin ⟨_, e1', rfl⟩ pa_match slot_group type_group (fun a e => by cases e; exact ⟨_, e1', rfl⟩) h
theorem extract_one {x : Str} {i c : Nat} (hi : i < x.cps.size) (hc : x.cps.getD i 0 = c) : x.cps.extract i (i + 1) = #[c] := by
  refine Array.toList_inj.mp ?_
  rw [extract_list, drop_here hi, hc, show i + 1 - i = 1 by omega]
  rfl
theorem callGroup {prog : Program} {w : World} {A : Around} {E : Value → Shared → Prop} {s : Shared} {m : Addr} {x : Str} {i c : Nat} {u : Tok} {Q : Value → Shared → Prop} (hm : MatchAt0 s.heap m x i) (hi : i < x.cps.size) (hx : x.cps.size ≤ 1000) (hc : x.cps.getD i 0 = c)
    (h : Q (.str ⟨#[c]⟩ s.toks) { s with toks := s.toks + 1 }) : wpAny (model prog w) A (call (.builtin "re.Match.group") [.ref m, .int 0 u]) Q E s := by
  obtain ⟨L', hm', h1, h2, h3⟩ := hm
  refine group0_of hm' (by omega) h1 h2 h3 ?_
  rw [extract_one hi hc]; exact h
theorem missing_K {prog : Program} {w : World} {A : Around} {E : Value → Shared → Prop} {s : Shared} {K : Frag} {h₀ : Heap} {L a : Addr} {m : Str → Option Value} {value slice : Expr} {x : Str} {t : Tok} {es : Array DictEntry} {n : Nat} {Q : Value → Shared → Prop} (F : Fr h₀ L s.heap m) (X₀ : K.In h₀) (hh : A.handled = none) (hl : K.lookup a = some ⟨.type "dict", none, .dict es n, #[]⟩) (hk : KeysLit w.params es.toList) (e : nsIn K a x = some none) (lo : (a == sysModules) = false)
    (h : ∀ h' e, Heap.NewExc s.heap h' e "KeyError" → E (.ref e) { s with heap := h', toks := s.toks + 1 })
    (hs : subscripted slice false (.ref a) (.str x t) = operate [.ref a, .str x t] (getItem (.ref a) (.str x t)) := by with_unfolding_all rfl) :
    wpAny (model prog w) A (subscriptTail value slice (.ref a) (.str x t)) Q E s :=
  have hm := mapOf_K (prog := prog) (X₀.keeps F.keep) hl hk
  tail_any hm.typeIs slot_dict_getitem.lookup (wpAny_getItem_missing_of (strKind_is prog w x t) lo hh hm (find_K hl e) h) hs
theorem esc_none (P : Params) (c : Nat) (hne : c ≠ 92 ∧ c ≠ 34 ∧ c ≠ 8 ∧ c ≠ 12 ∧ c ≠ 10 ∧ c ≠ 13 ∧ c ≠ 9) : nsIn (hd.heap_39 P) 42 ⟨#[c]⟩ = some none := by
  rw [esc_in, tab_none]
  intro k hk
  simp only [escT, List.map_cons, List.map_nil, List.mem_cons, List.not_mem_nil, or_false] at hk
  omega
open TI in
theorem caught_here {prog : Program} {w : World} {A₀ : Around} {E : Value → Shared → Prop} {s' : Shared} {base h : Heap} {outer : List Env} {L a e : Addr} {m : Str → Option Value} {name : Str} {scope : Scope} {cd : Value} {new frs : List (Addr × Obj)}
    {b₀ : Stmt} {suite : List Stmt} {pos np : Pos} {rest : List ExceptHandler} {Q : Flow → Shared → Prop} {p : Program} {loose : List Str} {mean : ExcName → Option Value} {mg mb : Str → Option Value}
    (hfr : A₀.frames = some outer) (Fs : Frs outer frs) (hx : Heap.NewExc h s'.heap e "KeyError") (F : Fr base L h m) (N : News base L h (new ++ frs)) (hap : ∀ p ∈ new, p.1 ∉ L :: frs.map (·.1)) (T : Top p loose mean mg mb base)
    (t2 : PySem.Str.ofString "KeyError" ∉ loose) (t3 : PySem.Str.ofString "KeyError" ∉ (recsOf p).map (·.name)) (t4 : PySem.Str.ofString "KeyError" ∉ (litsOf p).map (·.1)) (t5 : PySem.Str.ofString "KeyError" ∉ (clssOf p loose).map (·.name))
    (k : ∀ h' frs', SameUp frs frs' → Fr base L h' m → News base L h' (new ++ frs') → wpAny (model prog w) ((A₀.deeper (envOf name scope L a cd)).mark (some (.ref e))) (execs (b₀ :: suite) (envOf name scope L a cd)) Q E { s' with heap := h' })
    (hk : scope.kind = .function) (hxk : (envOf name scope L a cd).kindOf (PySem.Str.ofString "KeyError") = some .globalImplicit)
    (hE : PassesOwnAt (model prog w) ((A₀.deeper (envOf name scope L a cd)).mark (some (.ref e))) (A₀.deeper (envOf name scope L a cd)) (envOf name scope L a cd) E) :
    wpAny (model prog w) (A₀.deeper (envOf name scope L a cd)) (noteFrame (.ref e) (envOf name scope L a cd))
      (fun _ s₂ => wpAny (model prog w) (A₀.deeper (envOf name scope L a cd)) (setFlight (.ref e) none) (fun _ s₃ =>
        wpAny (model prog w) (A₀.deeper (envOf name scope L a cd)) (handleBy (.ref e) (envOf name scope L a cd) (.ExceptHandler (some (.Name (PySem.Str.ofString "KeyError") np)) none (b₀ :: suite) pos :: rest)) Q E s₃) E s₂) E s' := by
  refine TLg.noted_newA hfr Fs hx F N hap (fun h' frs' SU Fs' H => ?_) hk
  refine TT.HeldNA.land (s' := { s' with heap := h' }) H fun h'' H' => ?_
  exact TT.clause_hitTN (s' := { s' with heap := h'' }) H' T (t1 := by decide +kernel) (t2 := t2) (t3 := t3) (t4 := t4) (t5 := t5) (k := fun h3 F3 N3 => k h3 frs' SU F3 N3) (hk := hk) (hxk := hxk) (hE := hE)
def EndU (base : Heap) (new frs : List (Addr × Obj)) (x : Str) (v : Value) (s s' : Shared) : Prop :=
  ∃ h' tk' frs', s' = { s with heap := h', toks := tk' } ∧ base.StaysIn h' ∧ TI.SameUp frs frs' ∧ (∀ p ∈ new ++ frs', h'.get? p.1 = some p.2) ∧ ∃ t', v = .str x t'
theorem endU_of {base : Heap} {new frs frs' news : List (Addr × Obj)} {x y : Str} {t : Tok} {s s' : Shared} {L : Addr} {m : Str → Option Value} (F : Fr base L s'.heap m) (e : s' = { s with heap := s'.heap, toks := s'.toks }) (SU : TI.SameUp frs frs') (N : News base L s'.heap news) (hn : ∀ p ∈ new ++ frs', p ∈ news) (h : y = x) : EndU base new frs x (.str y t) s s' :=
  ⟨_, _, frs', e, F.keep, SU, fun p hp => (N p (hn p hp)).1, t, by rw [h]⟩
theorem enter_objB {prog : Program} {w : World} {A : Around} {s : Shared} {base : Heap} {new : List (Addr × Obj)} {p : Program} {loose : List Str} {mean : ExcName → Option Value} {mg mb : Str → Option Value}
    {name qual : Str} {params : Arguments} {body : List Stmt} {scope : Scope} {dV kV doc pm cdv ct oc : Value} {an od : Option Addr} {osl : Array (Option Value)} {f : Addr} {vs : List Value} {binds : List (Str × Value)} {Q : Value → Shared → Prop}
    (hst : base.StaysIn s.heap) (hsz : base.objs.size ≤ s.heap.objs.size) (T : Top p loose mean mg mb base) (hnew : ∀ p ∈ new, s.heap.get? p.1 = some p.2 ∧ base.get? p.1 = none)
    (ho : s.heap.get? f = some ⟨oc, od, .func (fnOf name qual params body scope dV kV doc pm an cdv ct), osl⟩) (hcd : s.heap.CodeRec cdv qual) (hroom : A.depth < recursionLimit)
    (hbind : BindsTo s (fnOf name qual params body scope dV kV doc pm an cdv ct) ⟨vs, []⟩ binds) (hloc : ∀ y ∈ binds, scope.names.lookup y.1 = some .local)
    (h : ∀ L' h₁ tk, s.heap.objs.size = L' → s.heap.StaysIn h₁ → Fr base L' h₁ (fun y => binds.reverse.lookup y) → News base L' h₁ new →
      wpAny (model prog w) (A.deeper (envOf qual scope L' f cdv)) (execs body (envOf qual scope L' f cdv))
        (fun fl s' => Q (match fl with | .ret v => v | _ => .none) s') (fun _ _ => False) { s with heap := h₁, toks := tk })
    (hco : scope.isCoroutine = false) (hgen : scope.isGenerator = false) (hk : scope.kind = .function)
    (hcell : ∀ x ∈ scope.names, x.2 ≠ .cell) : wpAny (model prog w) A (call (.ref f) vs) Q (fun _ _ => False) s := by
  refine wpAny_call (codeAny_call_def (fd := fnOf name qual params body scope dV kV doc pm an cdv ct) (body := body) (binds := binds) hroom ho rfl (T.nolimit.keeps hst) hcd rfl hbind hcell hloc (fun h₁ hns hk₁ => ?_) hco hgen hk)
  exact wpAny_mono (h s.heap.objs.size h₁ _ rfl hk₁ ⟨hns, fun b o e => hk₁ b o (hst b o e), hsz⟩ fun p hp => ⟨hk₁ _ _ (hnew p hp).1, Nat.ne_of_lt (Heap.lt_size (hnew p hp).1), (hnew p hp).2⟩) (fun _ _ h => h) fun _ _ h => h.elim
local macro_rules | `(tactic| walk_at "getMethod ref") => `(tactic| (k_here; refine getGroup (by assumption) ?_))
local macro_rules | `(tactic| walk_at "call builtin:re.Match.group") => `(tactic| (k_here; refine callGroup (by assumption) (by assumption) (by assumption) (by assumption) ?_))
local macro_rules | `(tactic| walk_at "subscriptTail") => `(tactic| (k_here; (with_reducible show wpAny _ _ (subscriptTail _ _ (Value.ref 42) (Value.str _ _)) _ _ _); (refine' missing_K ?F ?X ?hh ?l ?k ?e ?o ?_; (case F => k_asm); (case X => k_asm); (case hh => rfl); (case e => assumption); (case l => k_is); (case k => k_keys); (case o => decide)); intro h' e' x'))
local macro_rules | `(tactic| walk_at "exec Try") => `(tactic| (k_here; refine wpAny_Try_except ?_))
local macro_rules | `(tactic| walk_at "noteFrame ref") => `(tactic| (k_here; (refine' caught_here ?fr ?Fs ?x ?F ?N ?ap ?T ?t2 ?t3 ?t4 ?t5 ?_ ?hk ?hxk ?hE; (case fr => exact rfl); (case Fs => assumption); (case x => assumption); (case F => k_asm); (case N => k_asm); (case ap => assumption); (case T => k_asm); (case t2 => assumption); (case t3 => assumption); (case t4 => assumption); (case t5 => assumption); (case hk => rfl); (case hxk => rfl); (case hE => first | exact PassesOwnAt.never | passes_own)); intro h' frs' SU' F' N'; (try k_sweep)))
local macro_rules | `(tactic| walk_at "binaryOp Mod str ref") => `(tactic| (k_here; (with_reducible show wpAny _ _ (binaryOp Operator.Mod (Value.str _ _) (Value.ref _)) _ _ _); k_dflt (refine' KPt.mod_tuple ?kptN ?kptb ?kptF ?kptm ?_; (case kptN => k_asm); (case kptb => k_mem); (case kptF => kpt_eq); (case kptm => first | exact hex1 (by omega) (by omega) | exact hex2 (far_hi_lt (by omega) (by assumption)).1 (far_hi_lt (by omega) (by assumption)).2 (far_lo_lt (by omega)).1 (far_lo_lt (by omega)).2)); intro _ _))
set_option maxRecDepth 100000 in
set_option maxHeartbeats 4000000 in
theorem replaceA_ok {w : World} {p : Program} {loose : List Str} {mean : ExcName → Option Value} {mg mb : Str → Option Value} {dp un : Nat} {gd : Option (List Code)} {outer : List Env} {base : Heap} {s : Shared} {new frs : List (Addr × Obj)}
    {nm qual q : Str} {params rp : Arguments} {rb rest : List Stmt} {scope rs : Scope} {dV kV doc pm ct oc rdoc rpm rct : Value} {cdv : Value} {an od : Option Addr} {osl : Array (Option Value)} {rn rx : Str} {rd : List Expr} {rr : Option Expr} {rt : List TypeParam} {rts : Option Scope} {rpos : Pos} {fo c' m : Addr} {x : Str} {i c : Nat}
    (hK : (hd.heap_39 w.params).lookup 57 = some ⟨oc, od, .func (fnOf nm qual params (.FunctionDef rn rp rb rd rr rt rs rts rx rpos :: rest) scope dV kV doc pm an cdv ct), osl⟩)
    (ho : s.heap.get? fo = some (fnMade rn q rp rb rs [] rdoc rpm c' rct)) (hcd : s.heap.CodeRec (.ref c') q)
    (hm : MatchAt0 s.heap m x i) (hi : i < x.cps.size) (hcx : x.cps.getD i 0 = c) (hb : badA c = true) (hx : x.cps.size ≤ 1000) (hc : c ≤ 1114111)
    (hst : base.StaysIn s.heap) (hsz : base.objs.size ≤ s.heap.objs.size) (X : (hd.heap_39 w.params).In base) (T : Top p loose mean mg mb base)
    (Fs : TI.Frs outer frs) (hnew : ∀ p ∈ new ++ frs, s.heap.get? p.1 = some p.2 ∧ base.get? p.1 = none) (hap : ∀ p ∈ new, p.1 ∉ frs.map (·.1))
    (t2 : PySem.Str.ofString "KeyError" ∉ loose) (t3 : PySem.Str.ofString "KeyError" ∉ (recsOf p).map (·.name)) (t4 : PySem.Str.ofString "KeyError" ∉ (litsOf p).map (·.1)) (t5 : PySem.Str.ofString "KeyError" ∉ (clssOf p loose).map (·.name))
    (hdp : dp + 5 < recursionLimit) (hun : un + 40 < cLine) :
    wpAny (model PySem.Challenge.rw_ff5031_01.row.prog w) (ar dp un gd outer) (call (.ref fo) [.ref m]) (fun v s' => EndU base new frs (fA c) v s s') (fun _ _ => False) s := by
  revert X; k_with_none; w_top off; k_fill; intro X
  have h2 := show (hd.heap_39 w.params).lookup 57 = some _ from by k_is
  cases h2.symm.trans hK
  clear h2 hK
  k_dflt (refine' enter_objB (new := new ++ frs) ?st ?sz ?T ?new ?o ?cd ?room ?bind ?loc ?_ ?c1 ?c2 ?c3 ?c4; (case st => exact hst); (case sz => exact hsz); (case T => exact T); (case new => exact hnew); (case o => exact ho); (case cd => exact hcd); (case room => (dsimp only [ar]; simp only [recursionLimit] at *; omega)); (case bind => exact BindsTo.of_eq rfl); (case c4 => decide); (case loc => exact locs rfl); (case c1 => exact rfl); (case c2 => exact rfl); (case c3 => exact rfl))
  intro L' h₁ tk hL hk₁ F N
  have hM : MatchAt0 h₁ m x i := let ⟨L9, a1, a2⟩ := hm; ⟨L9, a1.keeps hk₁, a2⟩
  have hap' : ∀ p ∈ new, p.1 ∉ L' :: frs.map (·.1) := fun p hp hm' => by
    rcases List.mem_cons.mp hm' with e | hm'
    · exact (N p (List.mem_append_left _ hp)).2.1 e
    · exact hap p hp hm'
  clear hm ho hcd hap hnew
  have hcases : c = 92 ∨ c = 34 ∨ c = 8 ∨ c = 12 ∨ c = 10 ∨ c = 13 ∨ c = 9 ∨ (c ≠ 92 ∧ c ≠ 34 ∧ c ≠ 8 ∧ c ≠ 12 ∧ c ≠ 10 ∧ c ≠ 13 ∧ c ≠ 9) := by omega
  rcases hcases with rfl | rfl | rfl | rfl | rfl | rfl | rfl | hne
  all_goals (try dsimp only)
  all_goals (try k_fold)
  rotate_left 7
  · have hnone := esc_none w.params c hne
    k_steps
    · refine endU_of ‹_› rfl ‹_› ‹_› (fun p hp => List.mem_cons_of_mem _ hp) (fA_near (by omega) hb hne)
    · refine endU_of ‹_› rfl ‹_› ‹_› (fun p hp => List.mem_cons_of_mem _ hp) (fA_far (by omega) hc)
  all_goals k_steps
  all_goals exact endU_of ‹_› rfl (TI.SameUp.refl frs) ‹_› (fun _ h => h) (by decide +kernel)
end Mine
end
-- part FRepW
section
open PySem PySem.Spec PySem.Calls PySem.W PyProof.Rows PySem.Builtin.Re
namespace Mine
theorem same_one {k c : Nat} (h : c ≠ k) : Spec.same (.str ⟨#[k]⟩) (.str ⟨#[c]⟩) = false := by
  show ((⟨#[k]⟩ : Str) == ⟨#[c]⟩) = false
  rw [str1_beq]; exact decide_eq_false h
theorem look_one {k c : Nat} {v : PyData} {r : List (PyData × PyData)} (h : c ≠ k) : Spec.lookup (.str ⟨#[c]⟩) ((.str ⟨#[k]⟩, v) :: r) = Spec.lookup (.str ⟨#[c]⟩) r := by
  show (if Spec.same (.str ⟨#[k]⟩) (.str ⟨#[c]⟩) = true then _ else _) = _
  rw [same_one h]; rfl
theorem endW {s s' : Shared} {x y : Str} {t : Tok} {L : Addr} {m : Str → Option Value} (F : Fr s.heap L s'.heap m) (e : s' = { s with heap := s'.heap, toks := s'.toks }) (h : y = x) : EndU s.heap [] [] x (.str y t) s s' :=
  ⟨_, _, [], e, F.keep, TI.SameUp.refl _, (fun _ h => nomatch h), t, by rw [h]⟩
theorem stop_bad {c : Nat} (h : stops c = true) : badA c = true := by
  unfold stops at h
  unfold badA
  by_cases e : c < 32
  · rw [decide_eq_false (show ¬ (32 ≤ c ∧ c ≤ 126) by omega)]; simp
  · rw [decide_eq_false e] at h
    have : c = 34 ∨ c = 92 := by simpa using h
    rw [decide_eq_true (show c = 92 ∨ c = 34 by omega)]; rfl
theorem stop_lt {c : Nat} (h : stops c = true) : c < 65536 := by
  unfold stops at h
  by_cases e : c < 32
  · omega
  · rw [decide_eq_false e] at h
    have : c = 34 ∨ c = 92 := by simpa using h
    omega
local macro_rules | `(tactic| walk_at "getMethod ref") => `(tactic| (k_here; refine getGroup (by assumption) ?_))
local macro_rules | `(tactic| walk_at "call builtin:re.Match.group") => `(tactic| (k_here; refine callGroup (by assumption) (by assumption) (by assumption) (by assumption) ?_))
local macro_rules | `(tactic| walk_at "binaryOp Mod str ref") => `(tactic| (k_here; (with_reducible show wpAny _ _ (binaryOp Operator.Mod (Value.str _ _) (Value.ref _)) _ _ _); k_dflt (refine' KPt.mod_tuple ?kptN ?kptb ?kptF ?kptm ?_; (case kptN => k_asm); (case kptb => k_mem); (case kptF => kpt_eq); (case kptm => exact hex1 (by omega) (by omega))); intro _ _))
set_option maxRecDepth 100000 in
set_option maxHeartbeats 4000000 in
theorem replaceW_ok {w : World} {p : Program} {loose : List Str} {mean : ExcName → Option Value} {mg mb : Str → Option Value} {dp un : Nat} {gd : Option (List Code)} {outer : List Env} {base : Heap} {s : Shared} {new frs : List (Addr × Obj)}
    {nm qual q : Str} {params rp : Arguments} {rb rest : List Stmt} {scope rs : Scope} {dV kV doc pm ct oc rdoc rpm rct : Value} {cdv : Value} {an od : Option Addr} {osl : Array (Option Value)} {rn rx : Str} {rd : List Expr} {rr : Option Expr} {rt : List TypeParam} {rts : Option Scope} {rpos : Pos} {fo c' m : Addr} {x : Str} {i c : Nat}
    (hK : (hd.heap_39 w.params).lookup 50 = some ⟨oc, od, .func (fnOf nm qual params (.FunctionDef rn rp rb rd rr rt rs rts rx rpos :: rest) scope dV kV doc pm an cdv ct), osl⟩)
    (ho : s.heap.get? fo = some (fnMade rn q rp rb rs [] rdoc rpm c' rct)) (hcd : s.heap.CodeRec (.ref c') q)
    (hm : MatchAt0 s.heap m x i) (hi : i < x.cps.size) (hcx : x.cps.getD i 0 = c) (hb : stops c = true) (hx : x.cps.size ≤ 1000)
    (hst : base.StaysIn s.heap) (hsz : base.objs.size ≤ s.heap.objs.size) (X : (hd.heap_39 w.params).In base) (T : Top p loose mean mg mb base) (hnew : ∀ p ∈ new ++ frs, s.heap.get? p.1 = some p.2 ∧ base.get? p.1 = none)
    (hdp : dp + 5 < recursionLimit) :
    wpAny (model PySem.Challenge.rw_ff5031_01.row.prog w) (ar dp un gd outer) (call (.ref fo) [.ref m]) (fun v s' => EndU base new frs (fA c) v s s') (fun _ _ => False) s := by
  revert X; k_with_none; w_top off; k_fill; intro X
  have h2 := show (hd.heap_39 w.params).lookup 50 = some _ from by k_is
  cases h2.symm.trans hK
  clear h2 hK
  k_dflt (refine' enter_objB (base := base) (new := new ++ frs) ?st ?sz ?T ?new ?o ?cd ?room ?bind ?loc ?_ ?c1 ?c2 ?c3 ?c4; (case st => exact hst); (case sz => exact hsz); (case T => exact T); (case new => exact hnew); (case o => exact ho); (case cd => exact hcd); (case room => (dsimp only [ar]; simp only [recursionLimit] at *; omega)); (case bind => exact BindsTo.of_eq rfl); (case c4 => decide); (case loc => exact locs rfl); (case c1 => exact rfl); (case c2 => exact rfl); (case c3 => exact rfl))
  intro L' h₁ tk hL hk₁ F N
  have hM : MatchAt0 h₁ m x i := let ⟨L9, a1, a2⟩ := hm; ⟨L9, a1.keeps hk₁, a2⟩
  clear hm ho hcd
  have hcases : c = 92 ∨ c = 34 ∨ c = 8 ∨ c = 12 ∨ c = 10 ∨ c = 13 ∨ c = 9 ∨ (c ≠ 92 ∧ c ≠ 34 ∧ c ≠ 8 ∧ c ≠ 12 ∧ c ≠ 10 ∧ c ≠ 13 ∧ c ≠ 9) := by omega
  rcases hcases with rfl | rfl | rfl | rfl | rfl | rfl | rfl | hne
  all_goals (try dsimp only)
  all_goals (try k_fold)
  rotate_left 7
  · have hnone := esc_none w.params c hne
    k_steps
    rename_i v9 hv9
    obtain ⟨n1, n2, n3, n4, n5, n6, n7⟩ := hne
    rw [look_one n1, look_one n2, look_one n3, look_one n4, look_one n5, look_one n6, look_one n7] at hv9
    have e9 := PyProof.V.Flat.none_inv hv9
    subst e9
    have hlt := stop_lt hb
    k_steps
    exact endU_of ‹_› rfl (TI.SameUp.refl frs) ‹_› (fun _ hp => List.mem_cons_of_mem _ hp) (fA_near hlt (stop_bad hb) ⟨n1, n2, n3, n4, n5, n6, n7⟩)
  all_goals k_steps
  all_goals exact endU_of F rfl (TI.SameUp.refl frs) N (fun _ h => h) (by decide +kernel)
end Mine
end
-- part FSubA
section
open PySem PySem.Spec PySem.Calls PySem.W PyProof.Rows PySem.Builtin.Re
namespace Mine
open TI
theorem fA_size (c : Nat) : (fA c).cps.size ≤ 12 := by
  unfold fA
  show ((spellI (unitsI [(c : Int)])).map Int.toNat).toArray.size ≤ 12
  rw [List.size_toArray, List.length_map]
  have h1 := spellI_len (unitsI [(c : Int)])
  have h2 := unitsI_length [(c : Int)]
  simp only [List.length_cons, List.length_nil] at h2
  omega
def subA (x : Str) : Str := ⟨(subF badA (fun c => (fA c).cps.toList) x.cps.toList).toArray⟩
theorem callSubA {w : World} {p : Program} {loose : List Str} {mean : ExcName → Option Value} {mg mb : Str → Option Value} {A : Around} {E : Value → Shared → Prop} {Q : Value → Shared → Prop} {dp un : Nat} {gd : Option (List Code)} {outer : List Env} {env : Env} {base : Heap} {s : Shared} {new frs : List (Addr × Obj)}
    {nm qual q : Str} {params rp : Arguments} {rb rest : List Stmt} {scope rs : Scope} {dV kV doc pm ct od' rdoc rpm rct : Value} {cdv : Value} {an od : Option Addr} {osl : Array (Option Value)} {rn rx : Str} {rd : List Expr} {rr : Option Expr} {rt : List TypeParam} {rts : Option Scope} {rpos : Pos} {fo c' L : Addr} {x : Str} {t t9 : Tok} {m : Str → Option Value} {oc : Obj} {vs : Array Value}
    (hA : A.in1 = ar dp un gd (env :: outer)) (he1 : env.scope.kind ≠ .module) (he2 : env.frame = some L) (F : Fr base L s.heap m) (N : News base L s.heap (new ++ frs)) (hap : ∀ p ∈ new, p.1 ∉ frs.map (·.1)) (Fs : Frs outer frs)
    (hK : (hd.heap_39 w.params).lookup 57 = some ⟨od', od, .func (fnOf nm qual params (.FunctionDef rn rp rb rd rr rt rs rts rx rpos :: rest) scope dV kV doc pm an cdv ct), osl⟩)
    (hfo : (fo, fnMade rn q rp rb rs [] rdoc rpm c' rct) ∈ new) (hco : (c', oc) ∈ new) (hcd : oc.data = .fields vs) (hcv : vs[1]? = some (.str q t9))
    (hx : x.cps.size ≤ 1000) (hch : ∀ i, x.cps.getD i 0 ≤ 1114111) (X : (hd.heap_39 w.params).In base) (hP : PatAt base 41 lA 1) (T : Top p loose mean mg mb base)
    (t2 : PySem.Str.ofString "KeyError" ∉ loose) (t3 : PySem.Str.ofString "KeyError" ∉ (recsOf p).map (·.name)) (t4 : PySem.Str.ofString "KeyError" ∉ (litsOf p).map (·.1)) (t5 : PySem.Str.ofString "KeyError" ∉ (clssOf p loose).map (·.name))
    (hdp : dp + 5 < recursionLimit) (hun : un + 40 < cLine)
    (h : ∀ h' tk t' frs', SameUp frs frs' → Fr base L h' m → News base L h' (new ++ frs') → Q (.str (subA x) t') { s with heap := h', toks := tk }) :
    wpAny (model PySem.Challenge.rw_ff5031_01.row.prog w) A (call (.builtin "re.Pattern.sub") [.ref 41, .ref fo, .str x t]) Q E s := by
  obtain ⟨oL, es, ep, hL, hLd, hLk, hLf⟩ := F.ns
  have hLb : base.get? L = none := Heap.get?_none_of_le F.above
  have Fs2 : Frs (env :: outer) ((L, oL) :: frs) := ⟨he1, he2, ⟨es, ep, hLd⟩, Fs⟩
  have hbs : ∀ b o, base.get? b = some o → b < s.heap.objs.size := fun b o e => Heap.lt_size (F.keep b o e)
  have haddr : ∀ frs2', SameUp ((L, oL) :: frs) frs2' → ∀ p ∈ frs2', p.1 < s.heap.objs.size ∧ base.get? p.1 = none ∧ ∃ p' ∈ (L, oL) :: frs, p.1 = p'.1 := by
    intro frs2' SU p hp
    obtain ⟨p', hp', e⟩ := SU.fwd p hp
    rw [e]
    rcases List.mem_cons.mp hp' with rfl | hp''
    · exact ⟨Heap.lt_size hL, hLb, _, List.mem_cons_self, rfl⟩
    · have := N p' (List.mem_append_right _ hp'')
      exact ⟨Heap.lt_size this.1, this.2.2, _, List.mem_cons_of_mem _ hp'', rfl⟩
  refine call_sub (I := fun h => base.StaysIn h ∧ ∃ frs2', SameUp ((L, oL) :: frs) frs2' ∧ ∀ p ∈ new ++ frs2', h.get? p.1 = some p.2) (f := fA) finderA (fun h hI => hP.keeps hI.1) ⟨F.keep, _, SameUp.refl _, ?_⟩ ?_ (N _ (List.mem_append_left _ hfo)).1 rfl hx fA_size ?_ ?_
  · intro p hp
    rcases List.mem_append.mp hp with hp | hp
    · exact (N p (List.mem_append_left _ hp)).1
    · rcases List.mem_cons.mp hp with rfl | hp
      · exact hL
      · exact (N p (List.mem_append_right _ hp)).1
  · rintro h1 h2 ⟨i1, frs2', SU, i2⟩ hk
    refine ⟨fun b o e => hk b o (Nat.ne_of_lt (hbs b o e)) (i1 b o e), frs2', SU, fun p hp => hk _ _ (Nat.ne_of_lt ?_) (i2 p hp)⟩
    rcases List.mem_append.mp hp with hp | hp
    · exact Heap.lt_size (N p (List.mem_append_left _ hp)).1
    · exact (haddr frs2' SU p hp).1
  · rintro s' m' i its nn E' Q' ⟨i1, frs2', SU, i2⟩ hl hm hi hb hq
    rw [hA]
    have hsz : base.objs.size ≤ s'.heap.objs.size := by
      obtain ⟨sl, hmem⟩ := SU.back (L, oL) List.mem_cons_self
      exact Nat.le_of_lt (Nat.lt_of_le_of_lt F.above (Heap.lt_size (i2 _ (List.mem_append_right _ hmem))))
    have hfo' := i2 _ (List.mem_append_left _ hfo)
    have hco' := i2 _ (List.mem_append_left _ hco)
    refine wpAny_mono (replaceA_ok (new := (s.heap.objs.size, listOf its nn) :: new) (frs := frs2') hK hfo' ⟨c', oc, vs, t9, rfl, hco', hcd, hcv⟩ hm hi rfl hb hx (hch i) i1 hsz X T (Fs2.up SU) ?_ ?_ t2 t3 t4 t5 hdp hun) ?_ fun _ _ x => x.elim
    · intro p hp
      rcases List.mem_append.mp hp with hp | hp
      · rcases List.mem_cons.mp hp with rfl | hp
        · refine ⟨hl, ?_⟩
          cases q9 : base.get? s.heap.objs.size with
          | none => rfl
          | some o => exact absurd (hbs _ _ q9) (Nat.lt_irrefl _)
        · exact ⟨i2 p (List.mem_append_left _ hp), (N p (List.mem_append_left _ hp)).2.2⟩
      · exact ⟨i2 p (List.mem_append_right _ hp), (haddr frs2' SU p hp).2.1⟩
    · intro p hp hm9
      obtain ⟨r, hr, er⟩ := List.mem_map.mp hm9
      obtain ⟨r1, _, r', hr', er'⟩ := haddr frs2' SU r hr
      rcases List.mem_cons.mp hp with rfl | hp
      · rw [er] at r1; exact absurd r1 (Nat.lt_irrefl _)
      · rw [er] at er'
        rcases List.mem_cons.mp hr' with rfl | hr'
        · exact (N p (List.mem_append_left _ hp)).2.1 er'
        · exact hap p hp (by rw [er']; exact List.mem_map_of_mem hr')
    · rintro v s'' ⟨h', tk', frs'', rfl, j1, SU', j2, t', rfl⟩
      refine hq h' tk' t' ⟨j1, frs'', SU.trans SU', fun p hp => j2 p ?_⟩ (j2 _ (List.mem_append_left _ List.mem_cons_self))
      rcases List.mem_append.mp hp with hp | hp
      · exact List.mem_append_left _ (List.mem_cons_of_mem _ hp)
      · exact List.mem_append_right _ hp
  · rintro h' tk t' ⟨i1, frs2', SU, i2⟩
    cases frs2' with
    | nil => exact False.elim SU
    | cons p9 frs' =>
      obtain ⟨y1, ⟨sl, y2⟩, y3⟩ := SU
      have y1' : p9.1 = L := y1
      have y2' : p9.2 = { oL with slots := sl } := y2
      have hL' := i2 p9 (List.mem_append_right _ List.mem_cons_self)
      rw [y1', y2'] at hL'
      refine h h' tk t' frs' y3 ⟨⟨_, es, ep, hL', hLd, hLk, hLf⟩, i1, F.above⟩ fun p hp => ?_
      rcases List.mem_append.mp hp with hp | hp
      · exact ⟨i2 p (List.mem_append_left _ hp), (N p (List.mem_append_left _ hp)).2⟩
      · obtain ⟨r, hr, er⟩ := y3.fwd p hp
        refine ⟨i2 p (List.mem_append_right _ (List.mem_cons_of_mem _ hp)), ?_⟩
        rw [er]
        exact (N r (List.mem_append_right _ hr)).2
end Mine
end
-- part FEncA
section
open PySem PySem.Spec PySem.Calls PySem.W PyProof.Rows PySem.Builtin.Re
namespace Mine
local macro_rules | `(tactic| walk_at "no such key") => `(tactic| fail "none")
local macro_rules | `(tactic| walk_at "no such key") => `(tactic| fail "none")
local macro_rules | `(tactic| walk_at "no such key") => `(tactic| fail "none")
local macro_rules | `(tactic| walk_at "no such key") => `(tactic| fail "none")
local macro_rules | `(tactic| walk_at "no such key") => `(tactic| fail "none")
local macro_rules | `(tactic| walk_at "no such key") => `(tactic| fail "none")
local macro_rules | `(tactic| walk_at "no such key") => `(tactic| fail "none")
local macro_rules | `(tactic| walk_at "no such key") => `(tactic| fail "none")
def scA : Scope := { kind := .function, names := [("s", .local), ("replace", .local), ("str", .globalImplicit), ("ESCAPE_ASCII", .globalImplicit)], isGenerator := false, isCoroutine := false }
def qA : Str := qualnameIn (envOf "py_encode_basestring_ascii" scA 0 57 (.ref 56)) "replace" "replace"
def tabA (c' : Addr) : Obj := tabObj #[rawInt ((13 : Nat) : Int), rawInt ((4 : Nat) : Int), .ref c']
def strA (x : Str) : Str := KStt.txt [34] ++ subA x ++ KStt.txt [34]
theorem subA_size (x : Str) : (subA x).length ≤ 12 * x.cps.size := by
  have := subF_len (bad := badA) (f := fun c => (fA c).cps.toList) (k := 12) (by decide) (fun c => by rw [Array.length_toList]; exact fA_size c) x.cps.toList
  show (subF badA (fun c => (fA c).cps.toList) x.cps.toList).toArray.size ≤ _
  rw [List.size_toArray]
  rwa [show x.cps.toList.length = x.cps.size from Array.length_toList] at this
/-- the end of a call of the narrow encoder: the table holds the code c' -/
def EndA (base : Heap) (rest frs : List (Addr × Obj)) (r : Str) (v : Value) (s s' : Shared) : Prop :=
  ∃ h' tk' frs' c' oc vs t, s' = { s with heap := h', toks := tk' } ∧ base.StaysIn h' ∧ TI.SameUp frs frs' ∧ (∀ p ∈ (c', oc) :: (52, tabA c') :: (rest ++ frs'), h'.get? p.1 = some p.2) ∧ base.get? c' = none ∧ (@LT.lt Nat _ 52 c' ∧ ∀ p ∈ rest ++ frs, p.1 < c') ∧
    oc.data = .fields vs ∧ vs[1]? = some (.str qA t) ∧ ∃ t', v = .str r t'
def EndA2 (base : Heap) (new frs : List (Addr × Obj)) (r : Str) (v : Value) (s s' : Shared) : Prop :=
  ∃ h' tk' frs', s' = { s with heap := h', toks := tk' } ∧ base.StaysIn h' ∧ TI.SameUp frs frs' ∧ (∀ p ∈ new ++ frs', h'.get? p.1 = some p.2) ∧ ∃ t', v = .str r t'
theorem enterK_B {prog : Program} {w : World} {A : Around} {s : Shared} {K : Frag} {base : Heap} {news : List (Addr × Obj)} {p : Program} {loose : List Str} {mean : ExcName → Option Value} {mg mb : Str → Option Value}
    {name qual : Str} {params : Arguments} {body : List Stmt} {scope : Scope} {dV kV doc pm cdv ct oc : Value} {an od : Option Addr} {osl : Array (Option Value)} {f : Addr} {vs : List Value} {binds : List (Str × Value)} {Q : Value → Shared → Prop}
    (hst : base.StaysIn s.heap) (hsz : base.objs.size ≤ s.heap.objs.size) (X : K.In base) (T : Top p loose mean mg mb base) (hnew : ∀ p ∈ news, s.heap.get? p.1 = some p.2 ∧ base.get? p.1 = none)
    (ho : K.lookup f = some ⟨oc, od, .func (fnOf name qual params body scope dV kV doc pm an cdv ct), osl⟩) (hcd : codeIn K cdv qual = true) (hroom : A.depth < recursionLimit)
    (hbind : BindsTo s (fnOf name qual params body scope dV kV doc pm an cdv ct) ⟨vs, []⟩ binds) (hloc : ∀ y ∈ binds, scope.names.lookup y.1 = some .local)
    (h : ∀ L' h₁ tk, s.heap.objs.size = L' → s.heap.StaysIn h₁ → Fr base L' h₁ (fun y => binds.reverse.lookup y) → News base L' h₁ news →
      wpAny (model prog w) (A.deeper (envOf qual scope L' f cdv)) (execs body (envOf qual scope L' f cdv))
        (fun fl s' => Q (match fl with | .ret v => v | _ => .none) s') (fun _ _ => False) { s with heap := h₁, toks := tk })
    (hco : scope.isCoroutine = false) (hgen : scope.isGenerator = false) (hk : scope.kind = .function)
    (hcell : ∀ x ∈ scope.names, x.2 ≠ .cell) : wpAny (model prog w) A (call (.ref f) vs) Q (fun _ _ => False) s :=
  enter_objB hst hsz T hnew ((X.keeps hst) _ _ ho) (codeRec_of (X.keeps hst) hcd) hroom hbind hloc h hco hgen hk hcell
theorem patK {K : Frag} {h : Heap} {a c : Addr} {pv f1 : Value} {g : Nat} {L : List Int} (X : K.In h) (h1 : K.lookup a = some (patObj pv f1 g c)) (h2 : K.lookup c = some (tupObj (L.map rawInt))) : PatAt h a L g :=
  ⟨pv, f1, c, X _ _ h1, X _ _ h2⟩
theorem getSub {prog : Program} {w : World} {A : Around} {E : Value → Shared → Prop} {s : Shared} {m : Addr} {L : List Int} {g : Nat} {pl : Sem Bool} {Q : Value × List Value → Shared → Prop} (hp : PatAt s.heap m L g) (h : Q (.builtin "re.Pattern.sub", [.ref m]) s) :
    wpAny (model prog w) A (getMethod (.ref m) (PySem.Str.ofString "sub") pl) Q E s := by
  obtain ⟨pv, f1, c, e1, _⟩ := hp
  have e1' := e1
  exact getMethod_builtin ⟨_, e1', rfl⟩ pa_pattern slot_sub type_sub (fun a e => by cases e; exact ⟨_, e1', rfl⟩) h
local macro_rules | `(tactic| walk_at "getMethod ref") => `(tactic| (k_here; refine getSub (PatAt.keeps (by assumption) (Fr.keep (by assumption))) ?_))
theorem len_q : (PySem.Str.ofString "\"").length = 1 := by decide +kernel
theorem txt_q : PySem.Str.ofString "\"" = KStt.txt [34] := by decide +kernel
theorem subA_len {x : Str} (h : x.cps.size ≤ 200) : (subA x).length ≤ 2400 := by have := subA_size x; omega
local macro_rules | `(tactic| size_fits) => `(tactic| ((simp only [PySem.Str.length_append, len_q]); (have h9 := subA_len (by assumption)); (rw [PySem.sizeLine_eq]); omega))
local macro_rules | `(tactic| walk_at "exec FunctionDef") => `(tactic| (k_here; kn_here; k_dflt (refine' nestDef_K ?d0 ?k0 ?a0 ?_; (case d0 => exact rfl); (case k0 => exact rfl); (case a0 => exact rfl)); (k_dflt (refine' nest_K ?F ?N ?T ?C ?cd ?U ?t ?n ?cl ?_; (case F => k_asm); (case N => k_asm); (case T => k_asm); (case cd => exact rfl); (case C => kn_code); (case U => exact UpdF.head (by assumption)); (case t => kn_triples); (case n => kn_among); (case cl => exact rfl); k_whole)); intro f' c' oc' vs' t' ct' dc' h' tk' F' N' d1' d2' l1 l2; (try dsimp only at N'); (try k_lt l1); (try k_lt2 l2)))
local macro_rules | `(tactic| walk_at "call builtin:re.Pattern.sub") => `(tactic| refine hold_of ?_)
set_option maxRecDepth 100000 in
set_option maxHeartbeats 4000000 in
theorem encA_miss {w : World} {p : Program} {loose : List Str} {mean : ExcName → Option Value} {mg mb : Str → Option Value} {dp un : Nat} {gd : Option (List Code)} {outer : List Env} {base : Heap} {s : Shared} {rest frs : List (Addr × Obj)} {x : Str} {t : Tok}
    (hx : x.cps.size ≤ 200) (hst : base.StaysIn s.heap) (hsz : base.objs.size ≤ s.heap.objs.size) (X : (hd.heap_39 w.params).In base) (T : Top p loose mean mg mb base) (C : CodeHd base 56 52)
    (Fs : TI.Frs outer frs) (hnew : ∀ p ∈ (52, tabObj #[]) :: (rest ++ frs), s.heap.get? p.1 = some p.2 ∧ base.get? p.1 = none) (hap : ∀ p ∈ (52, tabObj #[]) :: rest, p.1 ∉ frs.map (·.1))
    (hch : ∀ i, x.cps.getD i 0 ≤ 1114111) (hrest : ∀ p ∈ rest ++ frs, p.1 ≠ 52)
    (t2 : PySem.Str.ofString "KeyError" ∉ loose) (t3 : PySem.Str.ofString "KeyError" ∉ (recsOf p).map (·.name)) (t4 : PySem.Str.ofString "KeyError" ∉ (litsOf p).map (·.1)) (t5 : PySem.Str.ofString "KeyError" ∉ (clssOf p loose).map (·.name))
    (hdp : dp + 8 < recursionLimit) (hun : un + 60 < cLine) :
    wpAny (model PySem.Challenge.rw_ff5031_01.row.prog w) (ar dp un gd outer) (call (.ref 57) [.str x t]) (fun v s' => EndA base rest frs (strA x) v s s') (fun _ _ => False) s := by
  revert X; k_with_none; w_top off; k_fill; intro X
  k_dflt (refine' enterK_B (base := base) (news := (52, tabObj #[]) :: (rest ++ frs)) ?st ?sz ?X ?T ?new ?o ?cd ?room ?bind ?loc ?_ ?c1 ?c2 ?c3 ?c4; (case st => exact hst); (case sz => exact hsz); (case X => exact X); (case T => exact T); (case new => exact hnew); (case o => k_is); (case cd => k_is); (case room => (dsimp only [ar]; simp only [recursionLimit] at *; omega)); (case bind => exact BindsTo.of_eq rfl); (case c4 => decide); (case loc => exact locs rfl); (case c1 => exact rfl); (case c2 => exact rfl); (case c3 => exact rfl))
  intro L' h₁ tk hL hk₁ F N
  have hP : PatAt base 41 lA 1 := patK X (by k_is) (by k_is)
  try dsimp only
  try k_fold
  k_steps
  refine Hold.mk ?_
  rename Fr _ _ _ _ => F9
  rename News _ _ _ _ => N9
  rename_i f' c' oc vs t7 ct dc h7 tk7 d1 d2 l1 l2 h8
  have hlt : ∀ p ∈ frs, p.1 < c' := fun p hp => tb_ltOf l1.2 p (List.mem_append_right _ hp)
  have hKK := show (hd.heap_39 w.params).lookup 57 = some _ from by k_is
  refine' callSubA (env := envOf "py_encode_basestring_ascii" scA L' 57 (.ref 56)) (dp := dp + 1) (un := un + 4) (gd := gd) (frs := frs) (new := (f', _) :: (c', oc) :: (52, tabA c') :: rest) ?A ?e1 rfl F9 N9 ?ap Fs hKK List.mem_cons_self (List.mem_cons_of_mem _ List.mem_cons_self) d1 d2 ?x hch X hP T t2 t3 t4 t5 ?dp ?un ?_
  case A => rfl
  case e1 => (show ScopeKind.function ≠ ScopeKind.module; decide)
  case x => omega
  case dp => omega
  case un => omega
  case ap =>
    intro p hp hm
    obtain ⟨r, hr, er⟩ := List.mem_map.mp hm
    have h1 := hlt r hr
    rcases List.mem_cons.mp hp with rfl | hp
    · rw [er] at h1; exact Nat.lt_asymm l2 h1
    · rcases List.mem_cons.mp hp with rfl | hp
      · rw [er] at h1; exact Nat.lt_irrefl _ h1
      · rcases List.mem_cons.mp hp with rfl | hp
        · exact hap (52, tabObj #[]) List.mem_cons_self hm
        · exact hap p (List.mem_cons_of_mem _ hp) hm
  intro h9 tk9 t9 frs9 SU9 F8 N8
  clear F9 N9 hKK
  k_steps
  exact ⟨_, _, frs9, c', oc, vs, t7, rfl, F8.keep, SU9, fun p hp => (N8 p (List.mem_cons_of_mem _ hp)).1, (N8 (c', oc) (List.mem_cons_of_mem _ List.mem_cons_self)).2.2, ⟨l1.1, tb_ltOf l1.2⟩, d1, d2, _, by rw [txt_q]; rfl⟩
local macro_rules | `(tactic| walk_at "exec FunctionDef") => `(tactic| (k_here; kn_here; k_dflt (refine' nestDef_K ?d0 ?k0 ?a0 ?_; (case d0 => exact rfl); (case k0 => exact rfl); (case a0 => exact rfl)); (k_dflt (refine' nestHit_K ?F ?N ?T ?C ?cd ?mem ?t ?n ?cl ?_; (case F => k_asm); (case N => k_asm); (case T => k_asm); (case cd => exact rfl); (case C => kn_code); (case mem => exact List.mem_cons_self); (case t => kn_triples); (case n => kn_hit); (case cl => exact rfl); k_whole)); intro f' ct' dc' h' tk' F' N' l1; (try dsimp only at N'); (try k_lt l1)))
local macro_rules | `(tactic| walk_at "call builtin:re.Pattern.sub") => `(tactic| refine hold_of ?_)
set_option maxRecDepth 100000 in
set_option maxHeartbeats 4000000 in
theorem encA_hit {w : World} {p : Program} {loose : List Str} {mean : ExcName → Option Value} {mg mb : Str → Option Value} {dp un : Nat} {gd : Option (List Code)} {outer : List Env} {base : Heap} {s : Shared} {rest frs : List (Addr × Obj)} {c' : Addr} {oc : Obj} {vs : Array Value} {t7 : Tok} {x : Str} {t : Tok}
    (hx : x.cps.size ≤ 200) (hco : (c', oc) ∈ rest) (d1 : oc.data = .fields vs) (d2 : vs[1]? = some (.str qA t7)) (hst : base.StaysIn s.heap) (hsz : base.objs.size ≤ s.heap.objs.size) (X : (hd.heap_39 w.params).In base) (T : Top p loose mean mg mb base) (C : CodeHd base 56 52)
    (Fs : TI.Frs outer frs) (hnew : ∀ p ∈ (52, tabA c') :: (rest ++ frs), s.heap.get? p.1 = some p.2 ∧ base.get? p.1 = none) (hap : ∀ p ∈ (52, tabA c') :: rest, p.1 ∉ frs.map (·.1))
    (hch : ∀ i, x.cps.getD i 0 ≤ 1114111) (hrest : ∀ p ∈ rest ++ frs, p.1 ≠ 52)
    (t2 : PySem.Str.ofString "KeyError" ∉ loose) (t3 : PySem.Str.ofString "KeyError" ∉ (recsOf p).map (·.name)) (t4 : PySem.Str.ofString "KeyError" ∉ (litsOf p).map (·.1)) (t5 : PySem.Str.ofString "KeyError" ∉ (clssOf p loose).map (·.name))
    (hdp : dp + 8 < recursionLimit) (hun : un + 60 < cLine) :
    wpAny (model PySem.Challenge.rw_ff5031_01.row.prog w) (ar dp un gd outer) (call (.ref 57) [.str x t]) (fun v s' => EndA2 base ((52, tabA c') :: rest) frs (strA x) v s s') (fun _ _ => False) s := by
  revert X; k_with_none; w_top off; k_fill; intro X
  k_dflt (refine' enterK_B (base := base) (news := (52, tabA c') :: (rest ++ frs)) ?st ?sz ?X ?T ?new ?o ?cd ?room ?bind ?loc ?_ ?c1 ?c2 ?c3 ?c4; (case st => exact hst); (case sz => exact hsz); (case X => exact X); (case T => exact T); (case new => exact hnew); (case o => k_is); (case cd => k_is); (case room => (dsimp only [ar]; simp only [recursionLimit] at *; omega)); (case bind => exact BindsTo.of_eq rfl); (case c4 => decide); (case loc => exact locs rfl); (case c1 => exact rfl); (case c2 => exact rfl); (case c3 => exact rfl))
  intro L' h₁ tk hL hk₁ F N
  have hP : PatAt base 41 lA 1 := patK X (by k_is) (by k_is)
  try dsimp only
  try k_fold
  k_steps
  refine Hold.mk ?_
  rename Fr _ _ _ _ => F9
  rename News _ _ _ _ => N9
  rename_i f' ct dc h7 tk7 l1 h8
  have hlt : ∀ p ∈ rest ++ frs, p.1 < f' := tb_ltOf l1.2
  have hKK := show (hd.heap_39 w.params).lookup 57 = some _ from by k_is
  refine' callSubA (env := envOf "py_encode_basestring_ascii" scA L' 57 (.ref 56)) (dp := dp + 1) (un := un + 4) (gd := gd) (frs := frs) (new := (f', _) :: (52, tabA c') :: rest) ?A ?e1 rfl F9 N9 ?ap Fs hKK List.mem_cons_self (List.mem_cons_of_mem _ (List.mem_cons_of_mem _ hco)) d1 d2 ?x hch X hP T t2 t3 t4 t5 ?dp ?un ?_
  case A => rfl
  case e1 => (show ScopeKind.function ≠ ScopeKind.module; decide)
  case x => omega
  case dp => omega
  case un => omega
  case ap =>
    intro p hp hm
    obtain ⟨r, hr, er⟩ := List.mem_map.mp hm
    have h1 := hlt r (List.mem_append_right _ hr)
    rcases List.mem_cons.mp hp with rfl | hp
    · rw [er] at h1; exact Nat.lt_irrefl _ h1
    · exact hap p hp hm
  intro h9 tk9 t9 frs9 SU9 F8 N8
  clear F9 N9 hKK
  k_steps
  exact ⟨_, _, frs9, rfl, F8.keep, SU9, fun p hp => (N8 p (List.mem_cons_of_mem _ hp)).1, _, by rw [txt_q]; rfl⟩
end Mine
end
-- part FSubW
section
open PySem PySem.Spec PySem.Calls PySem.W PyProof.Rows PySem.Builtin.Re
namespace Mine
open TI
def subW (x : Str) : Str := ⟨(subF stops (fun c => (fA c).cps.toList) x.cps.toList).toArray⟩
theorem callSubW {w : World} {p : Program} {loose : List Str} {mean : ExcName → Option Value} {mg mb : Str → Option Value} {A : Around} {E : Value → Shared → Prop} {Q : Value → Shared → Prop} {dp un : Nat} {gd : Option (List Code)} {outer : List Env} {env : Env} {base : Heap} {s : Shared} {new frs : List (Addr × Obj)}
    {nm qual q : Str} {params rp : Arguments} {rb rest : List Stmt} {scope rs : Scope} {dV kV doc pm ct od' rdoc rpm rct : Value} {cdv : Value} {an od : Option Addr} {osl : Array (Option Value)} {rn rx : Str} {rd : List Expr} {rr : Option Expr} {rt : List TypeParam} {rts : Option Scope} {rpos : Pos} {fo c' L : Addr} {x : Str} {t t9 : Tok} {m : Str → Option Value} {oc : Obj} {vs : Array Value}
    (hA : A.in1 = ar dp un gd (env :: outer)) (he1 : env.scope.kind ≠ .module) (he2 : env.frame = some L) (F : Fr base L s.heap m) (N : News base L s.heap (new ++ frs)) (hap : ∀ p ∈ new, p.1 ∉ frs.map (·.1)) (Fs : Frs outer frs)
    (hK : (hd.heap_39 w.params).lookup 50 = some ⟨od', od, .func (fnOf nm qual params (.FunctionDef rn rp rb rd rr rt rs rts rx rpos :: rest) scope dV kV doc pm an cdv ct), osl⟩)
    (hfo : (fo, fnMade rn q rp rb rs [] rdoc rpm c' rct) ∈ new) (hco : (c', oc) ∈ new) (hcd : oc.data = .fields vs) (hcv : vs[1]? = some (.str q t9))
    (hx : x.cps.size ≤ 1000) (X : (hd.heap_39 w.params).In base) (hP : PatAt base 36 lW 0) (T : Top p loose mean mg mb base)
    (hdp : dp + 5 < recursionLimit) (hun : un + 40 < cLine)
    (h : ∀ h' tk t' frs', SameUp frs frs' → Fr base L h' m → News base L h' (new ++ frs') → Q (.str (subW x) t') { s with heap := h', toks := tk }) :
    wpAny (model PySem.Challenge.rw_ff5031_01.row.prog w) A (call (.builtin "re.Pattern.sub") [.ref 36, .ref fo, .str x t]) Q E s := by
  obtain ⟨oL, es, ep, hL, hLd, hLk, hLf⟩ := F.ns
  have hLb : base.get? L = none := Heap.get?_none_of_le F.above
  have Fs2 : Frs (env :: outer) ((L, oL) :: frs) := ⟨he1, he2, ⟨es, ep, hLd⟩, Fs⟩
  have hbs : ∀ b o, base.get? b = some o → b < s.heap.objs.size := fun b o e => Heap.lt_size (F.keep b o e)
  have haddr : ∀ frs2', SameUp ((L, oL) :: frs) frs2' → ∀ p ∈ frs2', p.1 < s.heap.objs.size ∧ base.get? p.1 = none ∧ ∃ p' ∈ (L, oL) :: frs, p.1 = p'.1 := by
    intro frs2' SU p hp
    obtain ⟨p', hp', e⟩ := SU.fwd p hp
    rw [e]
    rcases List.mem_cons.mp hp' with rfl | hp''
    · exact ⟨Heap.lt_size hL, hLb, _, List.mem_cons_self, rfl⟩
    · have := N p' (List.mem_append_right _ hp'')
      exact ⟨Heap.lt_size this.1, this.2.2, _, List.mem_cons_of_mem _ hp'', rfl⟩
  refine call_sub (I := fun h => base.StaysIn h ∧ ∃ frs2', SameUp ((L, oL) :: frs) frs2' ∧ ∀ p ∈ new ++ frs2', h.get? p.1 = some p.2) (f := fA) finderW (fun h hI => hP.keeps hI.1) ⟨F.keep, _, SameUp.refl _, ?_⟩ ?_ (N _ (List.mem_append_left _ hfo)).1 rfl hx fA_size ?_ ?_
  · intro p hp
    rcases List.mem_append.mp hp with hp | hp
    · exact (N p (List.mem_append_left _ hp)).1
    · rcases List.mem_cons.mp hp with rfl | hp
      · exact hL
      · exact (N p (List.mem_append_right _ hp)).1
  · rintro h1 h2 ⟨i1, frs2', SU, i2⟩ hk
    refine ⟨fun b o e => hk b o (Nat.ne_of_lt (hbs b o e)) (i1 b o e), frs2', SU, fun p hp => hk _ _ (Nat.ne_of_lt ?_) (i2 p hp)⟩
    rcases List.mem_append.mp hp with hp | hp
    · exact Heap.lt_size (N p (List.mem_append_left _ hp)).1
    · exact (haddr frs2' SU p hp).1
  · rintro s' m' i its nn E' Q' ⟨i1, frs2', SU, i2⟩ hl hm hi hb hq
    rw [hA]
    have hsz : base.objs.size ≤ s'.heap.objs.size := by
      obtain ⟨sl, hmem⟩ := SU.back (L, oL) List.mem_cons_self
      exact Nat.le_of_lt (Nat.lt_of_le_of_lt F.above (Heap.lt_size (i2 _ (List.mem_append_right _ hmem))))
    have hfo' := i2 _ (List.mem_append_left _ hfo)
    have hco' := i2 _ (List.mem_append_left _ hco)
    refine wpAny_mono (replaceW_ok (new := (s.heap.objs.size, listOf its nn) :: new) (frs := frs2') hK hfo' ⟨c', oc, vs, t9, rfl, hco', hcd, hcv⟩ hm hi rfl hb hx i1 hsz X T ?_ hdp) ?_ fun _ _ x => x.elim
    · intro p hp
      rcases List.mem_append.mp hp with hp | hp
      · rcases List.mem_cons.mp hp with rfl | hp
        · refine ⟨hl, ?_⟩
          cases q9 : base.get? s.heap.objs.size with
          | none => rfl
          | some o => exact absurd (hbs _ _ q9) (Nat.lt_irrefl _)
        · exact ⟨i2 p (List.mem_append_left _ hp), (N p (List.mem_append_left _ hp)).2.2⟩
      · exact ⟨i2 p (List.mem_append_right _ hp), (haddr frs2' SU p hp).2.1⟩
    · rintro v s'' ⟨h', tk', frs'', rfl, j1, SU', j2, t', rfl⟩
      refine hq h' tk' t' ⟨j1, frs'', SU.trans SU', fun p hp => j2 p ?_⟩ (j2 _ (List.mem_append_left _ List.mem_cons_self))
      rcases List.mem_append.mp hp with hp | hp
      · exact List.mem_append_left _ (List.mem_cons_of_mem _ hp)
      · exact List.mem_append_right _ hp
  · rintro h' tk t' ⟨i1, frs2', SU, i2⟩
    cases frs2' with
    | nil => exact False.elim SU
    | cons p9 frs' =>
      obtain ⟨y1, ⟨sl, y2⟩, y3⟩ := SU
      have y1' : p9.1 = L := y1
      have y2' : p9.2 = { oL with slots := sl } := y2
      have hL' := i2 p9 (List.mem_append_right _ List.mem_cons_self)
      rw [y1', y2'] at hL'
      refine h h' tk t' frs' y3 ⟨⟨_, es, ep, hL', hLd, hLk, hLf⟩, i1, F.above⟩ fun p hp => ?_
      rcases List.mem_append.mp hp with hp | hp
      · exact ⟨i2 p (List.mem_append_left _ hp), (N p (List.mem_append_left _ hp)).2⟩
      · obtain ⟨r, hr, er⟩ := y3.fwd p hp
        refine ⟨i2 p (List.mem_append_right _ (List.mem_cons_of_mem _ hp)), ?_⟩
        rw [er]
        exact (N r (List.mem_append_right _ hr)).2
end Mine
end
-- part FEncW
section
open PySem PySem.Spec PySem.Calls PySem.W PyProof.Rows PySem.Builtin.Re
namespace Mine
local macro_rules | `(tactic| walk_at "no such key") => `(tactic| fail "none")
local macro_rules | `(tactic| walk_at "no such key") => `(tactic| fail "none")
local macro_rules | `(tactic| walk_at "no such key") => `(tactic| fail "none")
local macro_rules | `(tactic| walk_at "no such key") => `(tactic| fail "none")
local macro_rules | `(tactic| walk_at "no such key") => `(tactic| fail "none")
local macro_rules | `(tactic| walk_at "no such key") => `(tactic| fail "none")
local macro_rules | `(tactic| walk_at "no such key") => `(tactic| fail "none")
local macro_rules | `(tactic| walk_at "no such key") => `(tactic| fail "none")
local macro_rules | `(tactic| walk_at "no such key") => `(tactic| fail "none")
local macro_rules | `(tactic| walk_at "no such key") => `(tactic| fail "none")
local macro_rules | `(tactic| walk_at "no such key") => `(tactic| fail "none")
local macro_rules | `(tactic| walk_at "no such key") => `(tactic| fail "none")
local macro_rules | `(tactic| walk_at "no such key") => `(tactic| fail "none")
local macro_rules | `(tactic| walk_at "no such key") => `(tactic| fail "none")
local macro_rules | `(tactic| walk_at "no such key") => `(tactic| fail "none")
local macro_rules | `(tactic| walk_at "no such key") => `(tactic| fail "none")
local macro_rules | `(tactic| walk_at "no such key") => `(tactic| fail "none")
local macro_rules | `(tactic| walk_at "no such key") => `(tactic| fail "none")
local macro_rules | `(tactic| walk_at "no such key") => `(tactic| fail "none")
local macro_rules | `(tactic| walk_at "no such key") => `(tactic| fail "none")
def scW : Scope := { kind := .function, names := [("s", .local), ("_q", .local), ("replace", .local), ("ESCAPE", .globalImplicit)], isGenerator := false, isCoroutine := false }
def qW : Str := qualnameIn (envOf "py_encode_basestring" scW 0 50 (.ref 49)) "replace" "replace"
def tabW (c' : Addr) : Obj := tabObj #[rawInt ((8 : Nat) : Int), rawInt ((4 : Nat) : Int), .ref c']
def strW (x : Str) : Str := KStt.txt [34] ++ subW x ++ KStt.txt [34]
theorem subW_size (x : Str) : (subW x).length ≤ 12 * x.cps.size := by
  have := subF_len (bad := stops) (f := fun c => (fA c).cps.toList) (k := 12) (by decide) (fun c => by rw [Array.length_toList]; exact fA_size c) x.cps.toList
  show (subF stops (fun c => (fA c).cps.toList) x.cps.toList).toArray.size ≤ _
  rw [List.size_toArray]
  rwa [show x.cps.toList.length = x.cps.size from Array.length_toList] at this
def EndW (base : Heap) (rest frs : List (Addr × Obj)) (r : Str) (v : Value) (s s' : Shared) : Prop :=
  ∃ h' tk' frs' c' oc vs t, s' = { s with heap := h', toks := tk' } ∧ base.StaysIn h' ∧ TI.SameUp frs frs' ∧ (∀ p ∈ (c', oc) :: (45, tabW c') :: (rest ++ frs'), h'.get? p.1 = some p.2) ∧ base.get? c' = none ∧ (@LT.lt Nat _ 45 c' ∧ ∀ p ∈ rest ++ frs, p.1 < c') ∧
    oc.data = .fields vs ∧ vs[1]? = some (.str qW t) ∧ ∃ t', v = .str r t'
local macro_rules | `(tactic| walk_at "getMethod ref") => `(tactic| (k_here; refine getSub (PatAt.keeps (by assumption) (Fr.keep (by assumption))) ?_))
theorem subW_len {x : Str} (h : x.cps.size ≤ 200) : (subW x).length ≤ 2400 := by have := subW_size x; omega
local macro_rules | `(tactic| size_fits) => `(tactic| ((simp only [PySem.Str.length_append, len_q]); (have h9 := subW_len (by assumption)); (rw [PySem.sizeLine_eq]); omega))
local macro_rules | `(tactic| walk_at "exec FunctionDef") => `(tactic| (k_here; kn_here; k_dflt (refine' nestDef_K ?d0 ?k0 ?a0 ?_; (case d0 => exact rfl); (case k0 => exact rfl); (case a0 => exact rfl)); (k_dflt (refine' nest_K ?F ?N ?T ?C ?cd ?U ?t ?n ?cl ?_; (case F => k_asm); (case N => k_asm); (case T => k_asm); (case cd => exact rfl); (case C => kn_code); (case U => exact UpdF.head (by assumption)); (case t => kn_triples); (case n => kn_among); (case cl => exact rfl); k_whole)); intro f' c' oc' vs' t' ct' dc' h' tk' F' N' d1' d2' l1 l2; (try dsimp only at N'); (try k_lt l1); (try k_lt2 l2)))
local macro_rules | `(tactic| walk_at "call builtin:re.Pattern.sub") => `(tactic| refine hold_of ?_)
set_option maxRecDepth 100000 in
set_option maxHeartbeats 4000000 in
theorem encW_miss {w : World} {p : Program} {loose : List Str} {mean : ExcName → Option Value} {mg mb : Str → Option Value} {dp un : Nat} {gd : Option (List Code)} {outer : List Env} {base : Heap} {s : Shared} {rest frs : List (Addr × Obj)} {x : Str} {t : Tok}
    (hx : x.cps.size ≤ 200) (hst : base.StaysIn s.heap) (hsz : base.objs.size ≤ s.heap.objs.size) (X : (hd.heap_39 w.params).In base) (T : Top p loose mean mg mb base) (C : CodeHd base 49 45)
    (Fs : TI.Frs outer frs) (hnew : ∀ p ∈ (45, tabObj #[]) :: (rest ++ frs), s.heap.get? p.1 = some p.2 ∧ base.get? p.1 = none) (hap : ∀ p ∈ (45, tabObj #[]) :: rest, p.1 ∉ frs.map (·.1))
    (hrest : ∀ p ∈ rest ++ frs, p.1 ≠ 45)
    (hdp : dp + 8 < recursionLimit) (hun : un + 60 < cLine) :
    wpAny (model PySem.Challenge.rw_ff5031_01.row.prog w) (ar dp un gd outer) (call (.ref 50) [.str x t]) (fun v s' => EndW base rest frs (strW x) v s s') (fun _ _ => False) s := by
  revert X; k_with_none; w_top off; k_fill; intro X
  k_dflt (refine' enterK_B (base := base) (news := (45, tabObj #[]) :: (rest ++ frs)) ?st ?sz ?X ?T ?new ?o ?cd ?room ?bind ?loc ?_ ?c1 ?c2 ?c3 ?c4; (case st => exact hst); (case sz => exact hsz); (case X => exact X); (case T => exact T); (case new => exact hnew); (case o => k_is); (case cd => k_is); (case room => (dsimp only [ar]; simp only [recursionLimit] at *; omega)); (case bind => exact binds_K (X.keeps hst) rfl (by k_is) rfl rfl rfl); (case c4 => decide); (case loc => exact locs rfl); (case c1 => exact rfl); (case c2 => exact rfl); (case c3 => exact rfl))
  intro L' h₁ tk hL hk₁ F N
  have hP : PatAt base 36 lW 0 := patK X (by k_is) (by k_is)
  try dsimp only
  try k_fold
  k_steps
  refine Hold.mk ?_
  rename Fr _ _ _ _ => F9
  rename News _ _ _ _ => N9
  rename_i f' c' oc vs t7 ct dc h7 tk7 d1 d2 l1 l2 h8
  have hlt : ∀ p ∈ frs, p.1 < c' := fun p hp => tb_ltOf l1.2 p (List.mem_append_right _ hp)
  have hKK := show (hd.heap_39 w.params).lookup 50 = some _ from by k_is
  refine' callSubW (env := envOf "py_encode_basestring" scW L' 50 (.ref 49)) (dp := dp + 1) (un := un + 4) (gd := gd) (frs := frs) (new := (f', _) :: (c', oc) :: (45, tabW c') :: rest) ?A ?e1 rfl F9 N9 ?ap Fs hKK List.mem_cons_self (List.mem_cons_of_mem _ List.mem_cons_self) d1 d2 ?x X hP T ?dp ?un ?_
  case A => rfl
  case e1 => (show ScopeKind.function ≠ ScopeKind.module; decide)
  case x => omega
  case dp => omega
  case un => omega
  case ap =>
    intro p hp hm
    obtain ⟨r, hr, er⟩ := List.mem_map.mp hm
    have h1 := hlt r hr
    rcases List.mem_cons.mp hp with rfl | hp
    · rw [er] at h1; exact Nat.lt_asymm l2 h1
    · rcases List.mem_cons.mp hp with rfl | hp
      · rw [er] at h1; exact Nat.lt_irrefl _ h1
      · rcases List.mem_cons.mp hp with rfl | hp
        · exact hap (45, tabObj #[]) List.mem_cons_self hm
        · exact hap p (List.mem_cons_of_mem _ hp) hm
  intro h9 tk9 t9 frs9 SU9 F8 N8
  clear F9 N9 hKK
  k_steps
  exact ⟨_, _, frs9, c', oc, vs, t7, rfl, F8.keep, SU9, fun p hp => (N8 p (List.mem_cons_of_mem _ hp)).1, (N8 (c', oc) (List.mem_cons_of_mem _ List.mem_cons_self)).2.2, ⟨l1.1, tb_ltOf l1.2⟩, d1, d2, _, by rw [txt_q]; rfl⟩
local macro_rules | `(tactic| walk_at "exec FunctionDef") => `(tactic| (k_here; kn_here; k_dflt (refine' nestDef_K ?d0 ?k0 ?a0 ?_; (case d0 => exact rfl); (case k0 => exact rfl); (case a0 => exact rfl)); (k_dflt (refine' nestHit_K ?F ?N ?T ?C ?cd ?mem ?t ?n ?cl ?_; (case F => k_asm); (case N => k_asm); (case T => k_asm); (case cd => exact rfl); (case C => kn_code); (case mem => exact List.mem_cons_self); (case t => kn_triples); (case n => kn_hit); (case cl => exact rfl); k_whole)); intro f' ct' dc' h' tk' F' N' l1; (try dsimp only at N'); (try k_lt l1)))
local macro_rules | `(tactic| walk_at "call builtin:re.Pattern.sub") => `(tactic| refine hold_of ?_)
set_option maxRecDepth 100000 in
set_option maxHeartbeats 4000000 in
theorem encW_hit {w : World} {p : Program} {loose : List Str} {mean : ExcName → Option Value} {mg mb : Str → Option Value} {dp un : Nat} {gd : Option (List Code)} {outer : List Env} {base : Heap} {s : Shared} {rest frs : List (Addr × Obj)} {c' : Addr} {oc : Obj} {vs : Array Value} {t7 : Tok} {x : Str} {t : Tok}
    (hx : x.cps.size ≤ 200) (hco : (c', oc) ∈ rest) (d1 : oc.data = .fields vs) (d2 : vs[1]? = some (.str qW t7)) (hst : base.StaysIn s.heap) (hsz : base.objs.size ≤ s.heap.objs.size) (X : (hd.heap_39 w.params).In base) (T : Top p loose mean mg mb base) (C : CodeHd base 49 45)
    (Fs : TI.Frs outer frs) (hnew : ∀ p ∈ (45, tabW c') :: (rest ++ frs), s.heap.get? p.1 = some p.2 ∧ base.get? p.1 = none) (hap : ∀ p ∈ (45, tabW c') :: rest, p.1 ∉ frs.map (·.1))
    (hrest : ∀ p ∈ rest ++ frs, p.1 ≠ 45)
    (hdp : dp + 8 < recursionLimit) (hun : un + 60 < cLine) :
    wpAny (model PySem.Challenge.rw_ff5031_01.row.prog w) (ar dp un gd outer) (call (.ref 50) [.str x t]) (fun v s' => EndA2 base ((45, tabW c') :: rest) frs (strW x) v s s') (fun _ _ => False) s := by
  revert X; k_with_none; w_top off; k_fill; intro X
  k_dflt (refine' enterK_B (base := base) (news := (45, tabW c') :: (rest ++ frs)) ?st ?sz ?X ?T ?new ?o ?cd ?room ?bind ?loc ?_ ?c1 ?c2 ?c3 ?c4; (case st => exact hst); (case sz => exact hsz); (case X => exact X); (case T => exact T); (case new => exact hnew); (case o => k_is); (case cd => k_is); (case room => (dsimp only [ar]; simp only [recursionLimit] at *; omega)); (case bind => exact binds_K (X.keeps hst) rfl (by k_is) rfl rfl rfl); (case c4 => decide); (case loc => exact locs rfl); (case c1 => exact rfl); (case c2 => exact rfl); (case c3 => exact rfl))
  intro L' h₁ tk hL hk₁ F N
  have hP : PatAt base 36 lW 0 := patK X (by k_is) (by k_is)
  try dsimp only
  try k_fold
  k_steps
  refine Hold.mk ?_
  rename Fr _ _ _ _ => F9
  rename News _ _ _ _ => N9
  rename_i f' ct dc h7 tk7 l1 h8
  have hlt : ∀ p ∈ rest ++ frs, p.1 < f' := tb_ltOf l1.2
  have hKK := show (hd.heap_39 w.params).lookup 50 = some _ from by k_is
  refine' callSubW (env := envOf "py_encode_basestring" scW L' 50 (.ref 49)) (dp := dp + 1) (un := un + 4) (gd := gd) (frs := frs) (new := (f', _) :: (45, tabW c') :: rest) ?A ?e1 rfl F9 N9 ?ap Fs hKK List.mem_cons_self (List.mem_cons_of_mem _ (List.mem_cons_of_mem _ hco)) d1 d2 ?x X hP T ?dp ?un ?_
  case A => rfl
  case e1 => (show ScopeKind.function ≠ ScopeKind.module; decide)
  case x => omega
  case dp => omega
  case un => omega
  case ap =>
    intro p hp hm
    obtain ⟨r, hr, er⟩ := List.mem_map.mp hm
    have h1 := hlt r (List.mem_append_right _ hr)
    rcases List.mem_cons.mp hp with rfl | hp
    · rw [er] at h1; exact Nat.lt_irrefl _ h1
    · exact hap p hp hm
  intro h9 tk9 t9 frs9 SU9 F8 N8
  clear F9 N9 hKK
  k_steps
  exact ⟨_, _, frs9, rfl, F8.keep, SU9, fun p hp => (N8 p (List.mem_cons_of_mem _ hp)).1, _, by rw [txt_q]; rfl⟩
end Mine
end
-- part FSign
section
open PySem PySem.Spec PySem.Calls PySem.W PyProof.Rows
namespace Mine
local macro_rules | `(tactic| walk_at "no such key") => `(tactic| fail "none")
local macro_rules | `(tactic| walk_at "no such key") => `(tactic| fail "none")
local macro_rules | `(tactic| walk_at "no such key") => `(tactic| fail "none")
local macro_rules | `(tactic| walk_at "no such key") => `(tactic| fail "none")
local macro_rules | `(tactic| walk_at "no such key") => `(tactic| fail "none")
local macro_rules | `(tactic| walk_at "no such key") => `(tactic| fail "none")
local macro_rules | `(tactic| walk_at "no such key") => `(tactic| fail "none")
local macro_rules | `(tactic| walk_at "no such key") => `(tactic| fail "none")
local macro_rules | `(tactic| walk_at "no such key") => `(tactic| fail "none")
local macro_rules | `(tactic| walk_at "no such key") => `(tactic| fail "none")
local macro_rules | `(tactic| walk_at "no such key") => `(tactic| fail "none")
local macro_rules | `(tactic| walk_at "no such key") => `(tactic| fail "none")
local macro_rules | `(tactic| walk_at "no such key") => `(tactic| fail "none")
local macro_rules | `(tactic| walk_at "no such key") => `(tactic| fail "none")
local macro_rules | `(tactic| walk_at "no such key") => `(tactic| fail "none")
local macro_rules | `(tactic| walk_at "no such key") => `(tactic| fail "none")
local macro_rules | `(tactic| walk_at "no such key") => `(tactic| fail "none")
local macro_rules | `(tactic| walk_at "no such key") => `(tactic| fail "none")
local macro_rules | `(tactic| walk_at "no such key") => `(tactic| fail "none")
local macro_rules | `(tactic| walk_at "no such key") => `(tactic| fail "none")
local macro_rules | `(tactic| walk_at "no such key") => `(tactic| fail "none")
local macro_rules | `(tactic| walk_at "no such key") => `(tactic| fail "none")
local macro_rules | `(tactic| walk_at "no such key") => `(tactic| fail "none")
local macro_rules | `(tactic| walk_at "no such key") => `(tactic| fail "none")
local macro_rules | `(tactic| walk_at "no such key") => `(tactic| fail "none")
local macro_rules | `(tactic| walk_at "no such key") => `(tactic| fail "none")
local macro_rules | `(tactic| walk_at "no such key") => `(tactic| fail "none")
local macro_rules | `(tactic| walk_at "no such key") => `(tactic| fail "none")
local macro_rules | `(tactic| walk_at "no such key") => `(tactic| fail "none")
local macro_rules | `(tactic| walk_at "no such key") => `(tactic| fail "none")
local macro_rules | `(tactic| walk_at "no such key") => `(tactic| fail "none")
local macro_rules | `(tactic| walk_at "no such key") => `(tactic| fail "none")
local macro_rules | `(tactic| walk_at "no such key") => `(tactic| fail "none")
local macro_rules | `(tactic| walk_at "no such key") => `(tactic| fail "none")
local macro_rules | `(tactic| walk_at "no such key") => `(tactic| fail "none")
local macro_rules | `(tactic| walk_at "no such key") => `(tactic| fail "none")
local macro_rules | `(tactic| walk_at "no such key") => `(tactic| fail "none")
local macro_rules | `(tactic| walk_at "no such key") => `(tactic| fail "none")
local macro_rules | `(tactic| walk_at "no such key") => `(tactic| fail "none")
local macro_rules | `(tactic| walk_at "no such key") => `(tactic| fail "none")
def others : Str := PySem.Str.ofString "\"\\/\n\t\x0d\x08\x0c\x01\x7f a~"
def signC (x : Int) : Nat :=
  if x.fmod 8 < 2 then (55296 + (x.fdiv 8).fmod 1024).toNat
  else if x.fmod 8 < 4 then (56320 + (x.fdiv 8).fmod 1024).toNat
  else if x.fmod 8 = 4 then (65536 + (x.fdiv 8).fmod 1048576).toNat
  else if x.fmod 8 = 5 then (128 + (x.fdiv 8).fmod 55168).toNat
  else if x.fmod 8 = 6 then (57344 + (x.fdiv 8).fmod 8192).toNat
  else (Txt.charAt others ((x.fdiv 8).fmod 13)).getD 0
theorem signC_le (x : Int) : signC x ≤ 1114111 := by
  have h1 := Int.fmod_nonneg_of_pos (x.fdiv 8) (b := 1024) (by decide)
  have h2 := Int.fmod_lt_of_pos (x.fdiv 8) (b := 1024) (by decide)
  have h3 := Int.fmod_lt_of_pos (x.fdiv 8) (b := 1048576) (by decide)
  have h4 := Int.fmod_lt_of_pos (x.fdiv 8) (b := 55168) (by decide)
  have h5 := Int.fmod_lt_of_pos (x.fdiv 8) (b := 8192) (by decide)
  unfold signC
  repeat' split
  · omega
  · omega
  · omega
  · omega
  · omega
  · have h6 := Int.fmod_nonneg_of_pos (x.fdiv 8) (b := 13) (by decide)
    have h7 := Int.fmod_lt_of_pos (x.fdiv 8) (b := 13) (by decide)
    have key : ∀ i : Nat, i < 13 → (Txt.charAt others (i : Int)).getD 0 ≤ 1114111 := by decide +kernel
    have := key ((x.fdiv 8).fmod 13).toNat (by omega)
    rwa [Int.toNat_of_nonneg h6] at this
theorem str1_end {a c : Nat} {t : Tok} (h : a = c) : ∃ t', Value.str ⟨#[a]⟩ t = Value.str ⟨#[c]⟩ t' := ⟨t, by rw [h]⟩
set_option maxRecDepth 100000 in
set_option maxHeartbeats 8000000 in
theorem sign_ok (w : World) (x : Int) (t : Tok) : Con w 131 [.int x t] (fun _ => True) (fun _ _ v => ∃ t', v = .str ⟨#[signC x]⟩ t') := by
  unfold Con; k_with_none; w_top off; k_fill
  intro p loose mean mg mb dp un gd outer base s B X T _ hdp hun
  k_dflt (refine' enter ?B ?X ?T ?o ?cd ?room ?bind ?loc ?_ ?c1 ?c2 ?c3 ?c4; (case B => k_asm); (case X => k_asm); (case T => k_asm); (case o => k_is); (case cd => k_is); (case room => (dsimp only [ar]; simp only [recursionLimit] at *; omega)); (case bind => exact BindsTo.of_eq rfl); (case c4 => decide); (case loc => exact locs rfl); (case c1 => exact rfl); (case c2 => exact rfl); (case c3 => exact rfl))
  intro L' h₁ tk F N
  try dsimp only
  try k_fold
  k_steps
  all_goals (try (dsimp only; k_steps))
  all_goals (rename Fr _ _ _ _ => F9; refine endV_of F9 rfl ?_; refine str1_end ?_; unfold signC)
  all_goals (simp only [*, if_true, if_false, reduceIte]; first | rfl | skip)
end Mine
end
-- part FLawL
section
open PySem PySem.Spec PySem.Calls PySem.W PyProof.Rows
namespace Mine
def KCsEl (news : List (Addr × Obj)) (r : PySem.Str) (y : Value) (news' : List (Addr × Obj)) : Prop := news' = news ∧ ∃ t : Tok, y = .str r t
theorem kcs_el {news : List (Addr × Obj)} {r r' : PySem.Str} {t : Tok} (e : r' = r) : KCsEl news r (.str r' t) news := by subst e; exact ⟨rfl, t, rfl⟩
section
variable {prog : Program} {w : World} {A : Around} {h₀ : Heap} {L : Addr} {m : PySem.Str → Option Value} {env : Env} {elt : Expr} {x : PySem.Str} {scope : Scope} {cl : List (PySem.Str × Addr)} {s : Shared} {S : List (Addr × Obj) → Prop} {Fin : List Value → List (Addr × Obj) → Prop} {news : List (Addr × Obj)}
/-- a comprehension over a list of ints that makes a text of each -/
theorem kcs_list {vs : List Value} {ns : List Int} (g : Int → PySem.Str) (hi : IntsAre vs ns)
    (turn : ∀ k t I oI C oC D m₂ ys h tk (E' : Value → Shared → Prop), k ∈ ns → LCg.NsObj oC m₂ → m₂ x = some (.int k t) → Fr h₀ L h m → News h₀ L h ((I, oI) :: (C, oC) :: (D, LCg.lst ys) :: news) → LCg.Off3 I C D news → ((@Ne Nat I C) ∧ (@Ne Nat I D) ∧ (@Ne Nat C D)) →
      wpAny (model prog w) A (eval elt (compEnvC scope cl C env)) (LCg.CompEnd h₀ L m { s with heap := h, toks := tk } I oI C oC D (LCg.lst ys) S (fun y news' => KCsEl news (g k) y news')) E' { s with heap := h, toks := tk })
    (fin : ∀ ys, StrsAre ys (ns.map g) → Fin ys news) : LCg.CompRest prog w A h₀ L m env elt x scope cl s S (fun i v => vs.toArray[i]? = some v) Fin vs.toArray.size 0 [] news := by
  rw [List.size_toArray]
  have key : ∀ (j i : Nat) (ys : List Value), i + j = vs.length → StrsAre ys ((ns.take i).map g) → LCg.CompRest prog w A h₀ L m env elt x scope cl s S (fun i v => vs.toArray[i]? = some v) Fin j i ys news := by
    intro j
    induction j with
    | zero =>
      intro i ys hi' hy
      have e : i = ns.length := by rw [← hi.length]; omega
      rw [e, List.take_length] at hy
      exact LCg.CompRest.zero (fin ys hy)
    | succ j ih =>
      intro i ys hi' hy
      refine LCg.CompRest.succ ?_
      intro v I oI C oC D m₂ h tk E' hv hC hx F N off ne
      obtain ⟨k, t, e, hk⟩ := IntsAre.at hi i v (by simpa using hv)
      rw [e] at hx
      refine wpAny_mono (turn k t I oI C oC D m₂ ys h tk E' (List.mem_of_getElem? hk) hC hx F N off ne) (fun y s₂ hq => ?_) fun _ _ e => e
      obtain ⟨h', tk', nw, e, F', N', off', hS, hn, t', hy'⟩ := hq
      rw [hn] at N' off' hS
      refine ⟨h', tk', news, e, F', N', off', hS, ?_⟩
      rw [hy']
      refine ih (i + 1) _ (by omega) ?_
      rw [List.take_add_one, hk]
      simpa using StrsAre.append' hy (.cons (g k) t' .nil)
  exact key vs.length 0 [] (by omega) (by simp only [List.take_zero, List.map_nil]; exact .nil)
end
def signS (x : Int) : PySem.Str := ⟨#[signC x]⟩
def oneS (n : Int) : PySem.Str := ⟨#[n.toNat]⟩
theorem Con.b {w : World} {f : Addr} {vs : List Value} {pre : Heap → Prop} {post : Heap → Heap → Value → Prop} (C : Con w f vs pre post) : ConB w f vs pre post :=
  fun p loose mean mg mb dp un gd outer base s B X T hp h1 h2 => C p loose mean mg mb dp un gd outer base s B X T hp (by omega) (by omega)
section
variable {w : World} {A : Around} {E : Value → Shared → Prop} {s : Shared} {h₀ : Heap} {L : Addr} {m : Str → Option Value} {news : List (Addr × Obj)} {p : Program} {loose : List Str} {mean : ExcName → Option Value} {mg mb : Str → Option Value} {base : Heap}
  {nm : Str} {sc : Scope} {fa : Addr} {cd : Value} {Q : Value → Shared → Prop}
theorem law_con {f : Addr} {vs : List Value} {pre : Heap → Prop} {post : Heap → Heap → Value → Prop} (C : ConB w f vs pre post) (Fx : Fr h₀ L s.heap m) (X : (hd.heap_39 w.params).In h₀) (T : Top p loose mean mg mb h₀) (B : Below callerA base [] h₀)
    (hA : A = callerA.deeper (envOf nm sc L fa cd)) (hk : sc.kind = .function) (hp : pre s.heap)
    (k : ∀ v h' tk, s.heap.StaysIn h' → post s.heap h' v → Q v { s with heap := h', toks := tk }) :
    wpAny (model PySem.Challenge.rw_ff5031_01.row.prog w) A (call (.ref f) vs) Q E s := by
  have B' := B.push (name := nm) (a := fa) (cd := cd) Fx hk
  subst hA
  refine wpAny_mono (C p loose mean mg mb (callerA.depth + 1) (callerA.units + 3) callerA.guards _ base s B' (X.keeps Fx.keep) (T.keeps Fx.keep) hp (by decide) (by decide)) ?_ fun _ _ q => q.elim
  rintro v s' ⟨h', tk', rfl, st, hq⟩
  exact k v h' tk' st hq
theorem new_apart {u : Addr} (N : News h₀ L s.heap news) (hf : s.heap.get? u = none) : ∀ q ∈ news, q.1 ≠ u := fun q hq e' => by
  have := (N q hq).1
  rw [e', hf] at this
  cases this
theorem law_sign {x : Int} {t : Tok} (Fx : Fr h₀ L s.heap m) (N : News h₀ L s.heap news) (X : (hd.heap_39 w.params).In h₀) (T : Top p loose mean mg mb h₀) (B : Below callerA base [] h₀)
    (hA : A = callerA.deeper (envOf nm sc L fa cd)) (hk : sc.kind = .function)
    (k : ∀ h' tk t', Fr h₀ L h' m → News h₀ L h' news → Q (.str (signS x) t') { s with heap := h', toks := tk }) :
    wpAny (model PySem.Challenge.rw_ff5031_01.row.prog w) A (call (.ref 131) [.int x t]) Q E s :=
  law_con (sign_ok w x t).b Fx X T B hA hk trivial fun v h' tk st ⟨t', e⟩ => e ▸ k h' tk t' (fr_grow Fx st) (news_grow N st)
theorem law_units {x : Str} {t : Tok} (Fx : Fr h₀ L s.heap m) (N : News h₀ L s.heap news) (X : (hd.heap_39 w.params).In h₀) (T : Top p loose mean mg mb h₀) (B : Below callerA base [] h₀)
    (hA : A = callerA.deeper (envOf nm sc L fa cd)) (hk : sc.kind = .function) (h1 : x.length ≤ 100) (h2 : ∀ c ∈ KStt.codes x, c ≤ 1114111)
    (k : ∀ u us n h' tk, Fr h₀ L h' m → News h₀ L h' ((u, listOf us.toArray n) :: news) → (∀ q ∈ news, q.1 ≠ u) → IntsAre us (unitsI (KStt.codes x)) → Q (.ref u) { s with heap := h', toks := tk }) :
    wpAny (model PySem.Challenge.rw_ff5031_01.row.prog w) A (call (.ref 138) [.str x t]) Q E s :=
  law_con (units_ok w x t).b Fx X T B hA hk ⟨h1, h2⟩ fun v h' tk st ⟨u, us, n, e, hu, hf, hi⟩ => e ▸ k u us n h' tk (fr_grow Fx st) (news_more Fx N st hu hf) (new_apart N hf) hi
theorem law_joined {u : Addr} {us : List Value} {n : Nat} {ns : List Int} (Fx : Fr h₀ L s.heap m) (N : News h₀ L s.heap news) (X : (hd.heap_39 w.params).In h₀) (T : Top p loose mean mg mb h₀) (B : Below callerA base [] h₀)
    (hA : A = callerA.deeper (envOf nm sc L fa cd)) (hk : sc.kind = .function) (hm : (u, listOf us.toArray n) ∈ news) (hi : IntsAre us ns) (h1 : ns.length ≤ 200) (h2 : ∀ n ∈ ns, 0 ≤ n ∧ n ≤ 65535)
    (k : ∀ h' tk t', Fr h₀ L h' m → News h₀ L h' news → Q (.str (KStt.txt (joinI ns)) t') { s with heap := h', toks := tk }) :
    wpAny (model PySem.Challenge.rw_ff5031_01.row.prog w) A (call (.ref 145) [.ref u]) Q E s :=
  law_con (joined_ok w u us ns).b Fx X T B hA hk ⟨⟨_, (N _ hm).1, rfl, _, rfl⟩, hi, h1, fun i => by
    rw [List.getD_eq_getElem?_getD]
    cases q : ns[i]? with
    | none => exact ⟨Int.le_refl 0, by decide⟩
    | some v => exact h2 v (List.mem_of_getElem? q)⟩ fun v h' tk st ⟨t', e⟩ => e ▸ k h' tk t' (fr_grow Fx st) (news_grow N st)
theorem law_spelled {u : Addr} {us : List Value} {n : Nat} {ns : List Int} (Fx : Fr h₀ L s.heap m) (N : News h₀ L s.heap news) (X : (hd.heap_39 w.params).In h₀) (T : Top p loose mean mg mb h₀) (B : Below callerA base [] h₀)
    (hA : A = callerA.deeper (envOf nm sc L fa cd)) (hk : sc.kind = .function) (hm : (u, listOf us.toArray n) ∈ news) (hi : IntsAre us ns) (h1 : ns.length ≤ 200) (h2 : ∀ n ∈ ns, 0 ≤ n ∧ n ≤ 65535)
    (k : ∀ h' tk t', Fr h₀ L h' m → News h₀ L h' news → Q (.str (KStt.txt (34 :: spellI ns ++ [34])) t') { s with heap := h', toks := tk }) :
    wpAny (model PySem.Challenge.rw_ff5031_01.row.prog w) A (call (.ref 152) [.ref u]) Q E s :=
  law_con (spelled_ok w u us ns).b Fx X T B hA hk ⟨⟨_, (N _ hm).1, rfl, _, rfl⟩, hi, h1, h2⟩ fun v h' tk st ⟨t', e⟩ => e ▸ k h' tk t' (fr_grow Fx st) (news_grow N st)
/-- x is a document whose text reads as r -/
def ReadsAs (big : Bool) (x r : Str) : Prop := ∃ all, x.cps.size ≤ 3000 ∧ x.cps.toList = 34 :: (flatT all ++ [34]) ∧ (∀ t ∈ all, t.Ok) ∧ (⟨(scanT big all).toArray⟩ : Str) = r
theorem law_scan {x r : Str} {t u : Tok} (Fx : Fr h₀ L s.heap m) (N : News h₀ L s.heap news) (X : (hd.heap_39 w.params).In h₀) (T : Top p loose mean mg mb h₀) (B : Below callerA base [] h₀)
    (hA : A = callerA.deeper (envOf nm sc L fa cd)) (hk : sc.kind = .function) (hr : ReadsAs true x r)
    (k : ∀ D h' tk t' u' n, Fr h₀ L h' m → News h₀ L h' ((D, { cls := .type "tuple", data := .seq #[.str r t', .int (x.length : Int) u'] n }) :: news) → (∀ q ∈ news, q.1 ≠ D) → Q (.ref D) { s with heap := h', toks := tk }) :
    wpAny (model PySem.Challenge.rw_ff5031_01.row.prog w) A (call (.ref 123) [.str x t, .int 1 u]) Q E s := by
  obtain ⟨all, h1, h2, h3, rfl⟩ := hr
  exact law_con (scan_ok w x t u all) Fx X T B hA hk ⟨h1, h2, h3⟩ fun v h' tk st ⟨r, t', u', n, e, hu, hf⟩ => e ▸ k r h' tk t' u' n (fr_grow Fx st) (news_more Fx N st hu hf) (new_apart N hf)
theorem law_near {x r : Str} {t u u2 : Tok} (Fx : Fr h₀ L s.heap m) (N : News h₀ L s.heap news) (X : (hd.heap_39 w.params).In h₀) (T : Top p loose mean mg mb h₀) (B : Below callerA base [] h₀)
    (hA : A = callerA.deeper (envOf nm sc L fa cd)) (hk : sc.kind = .function) (hr : ReadsAs false x r)
    (k : ∀ D h' tk t' u' n, Fr h₀ L h' m → News h₀ L h' ((D, { cls := .type "tuple", data := .seq #[.str r t', .int (x.length : Int) u'] n }) :: news) → (∀ q ∈ news, q.1 ≠ D) → Q (.ref D) { s with heap := h', toks := tk }) :
    wpAny (model PySem.Challenge.rw_ff5031_01.row.prog w) A (call (.ref 123) [.str x t, .int 1 u, .bool true, .int 65535 u2]) Q E s := by
  obtain ⟨all, h1, h2, h3, rfl⟩ := hr
  exact law_con (scan_near w x t u u2 all) Fx X T B hA hk ⟨h1, h2, h3⟩ fun v h' tk st ⟨r, t', u', n, e, hu, hf⟩ => e ▸ k r h' tk t' u' n (fr_grow Fx st) (news_more Fx N st hu hf) (new_apart N hf)
end
section
variable {w : World} {A : Around} {E : Value → Shared → Prop} {s : Shared} {h₀ : Heap} {L : Addr} {m : Str → Option Value} {news : List (Addr × Obj)} {p : Program} {loose : List Str} {mean : ExcName → Option Value} {mg mb : Str → Option Value}
  {nm : Str} {sc : Scope} {fa : Addr} {cd : Value} {Q : Value → Shared → Prop}
/-- what a frame is, seen as an entry of the ledger -/
theorem fr_entry (Fx : Fr h₀ L s.heap m) (hk : sc.kind = .function) : ∃ oL, s.heap.get? L = some oL ∧ h₀.get? L = none ∧ TI.Frs [envOf nm sc L fa cd] [(L, oL)] ∧ h₀.objs.size ≤ s.heap.objs.size ∧
    ∀ h' frs', TI.SameUp [(L, oL)] frs' → h₀.StaysIn h' → (∀ p ∈ frs', h'.get? p.1 = some p.2) → Fr h₀ L h' m := by
  obtain ⟨oL, es, ep, hL, hLd, hLk, hLf⟩ := Fx.ns
  refine ⟨oL, hL, Heap.get?_none_of_le Fx.above, ⟨by show sc.kind ≠ .module; rw [hk]; decide, rfl, ⟨es, ep, hLd⟩, trivial⟩, Nat.le_of_lt (Nat.lt_of_le_of_lt Fx.above (Heap.lt_size hL)), fun h' frs' SU st hp => ?_⟩
  cases frs' with
  | nil => exact False.elim SU
  | cons p9 frs9 =>
    obtain ⟨y1, ⟨sl, y2⟩, _⟩ := SU
    have y1' : p9.1 = L := y1
    have y2' : p9.2 = { oL with slots := sl } := y2
    have hL' := hp p9 List.mem_cons_self
    rw [y1', y2'] at hL'
    exact ⟨⟨_, es, ep, hL', hLd, hLk, hLf⟩, st, Fx.above⟩
theorem law_encA_miss {x r : Str} {t : Tok} {g : Obj → List (Addr × Obj)} (Fx : Fr h₀ L s.heap m) (N : News h₀ L s.heap news) (X : (hd.heap_39 w.params).In h₀) (T : Top p loose mean mg mb h₀) (C : CodeHd h₀ 56 52) (U : UpdF 52 (tabObj #[]) news g)
    (hA : A = callerA.deeper (envOf nm sc L fa cd)) (hk : sc.kind = .function) (hr : strA x = r) (hx : x.cps.size ≤ 200) (hch : ∀ i, x.cps.getD i 0 ≤ 1114111)
    (t2 : PySem.Str.ofString "KeyError" ∉ loose) (t3 : PySem.Str.ofString "KeyError" ∉ (recsOf p).map (·.name)) (t4 : PySem.Str.ofString "KeyError" ∉ (litsOf p).map (·.1)) (t5 : PySem.Str.ofString "KeyError" ∉ (clssOf p loose).map (·.name))
    (k : ∀ h' tk c' oc vs t7 t', Fr h₀ L h' m → News h₀ L h' ((c', oc) :: g (tabA c')) → (∀ q ∈ news, q.1 < c') → oc.data = .fields vs → vs[1]? = some (.str qA t7) → Q (.str r t') { s with heap := h', toks := tk }) :
    wpAny (model PySem.Challenge.rw_ff5031_01.row.prog w) A (call (.ref 57) [.str x t]) Q E s := by
  subst hr
  obtain ⟨oL, hL, hLn, Fs, hsz, back⟩ := fr_entry (nm := nm) (fa := fa) (cd := cd) Fx hk
  obtain ⟨pre, post, rfl, hg, hp1, hp2⟩ := U.split
  subst hA
  have hin : ∀ p ∈ pre ++ post, p ∈ pre ++ (52, tabObj #[]) :: post := fun p hp => by
    rcases List.mem_append.mp hp with hp | hp
    · exact List.mem_append_left _ hp
    · exact List.mem_append_right _ (List.mem_cons_of_mem _ hp)
  have h52 : (52, tabObj #[]) ∈ pre ++ (52, tabObj #[]) :: post := List.mem_append_right _ List.mem_cons_self
  refine wpAny_mono (encA_miss (w := w) (dp := callerA.depth + 1) (un := callerA.units + 3) (gd := callerA.guards) (rest := pre ++ post) (frs := [(L, oL)]) (t := t) hx Fx.keep hsz X T C Fs ?_ ?_ hch ?_ t2 t3 t4 t5 (by decide) (by decide)) ?_ fun _ _ q => q.elim
  · intro p hp
    rcases List.mem_cons.mp hp with rfl | hp
    · exact ⟨(N _ h52).1, (N _ h52).2.2⟩
    · rcases List.mem_append.mp hp with hp | hp
      · exact ⟨(N _ (hin p hp)).1, (N _ (hin p hp)).2.2⟩
      · rw [List.mem_singleton.mp hp]; exact ⟨hL, hLn⟩
  · intro p hp hm
    have e : p.1 = L := by simpa using hm
    rcases List.mem_cons.mp hp with rfl | hp
    · exact (N _ h52).2.1 e
    · exact (N _ (hin p hp)).2.1 e
  · intro p hp
    rcases List.mem_append.mp hp with hp | hp
    · rcases List.mem_append.mp hp with hp | hp
      · exact hp1 p hp
      · exact hp2 p hp
    · rw [List.mem_singleton.mp hp]; exact fun e => (N _ h52).2.1 e.symm
  · rintro v s' ⟨h', tk', frs', c', oc, vs, t7, rfl, st, SU, hp, hc0, ⟨hl1, hl2⟩, d1, d2, t', rfl⟩
    have F' := back h' frs' SU st fun p hq => hp p (List.mem_cons_of_mem _ (List.mem_cons_of_mem _ (List.mem_append_right _ hq)))
    refine k h' tk' c' oc vs t7 t' F' (fun p hq => ?_) (fun q hq => ?_) d1 d2
    · rcases List.mem_cons.mp hq with rfl | hq
      · have hLc : L < c' := hl2 (L, oL) (List.mem_append_right _ (List.mem_singleton.mpr rfl))
        exact ⟨hp _ List.mem_cons_self, Nat.ne_of_gt hLc, hc0⟩
      · rw [hg] at hq
        rcases List.mem_append.mp hq with hq | hq
        · exact ⟨hp p (List.mem_cons_of_mem _ (List.mem_cons_of_mem _ (List.mem_append_left _ (List.mem_append_left _ hq)))), (N p (List.mem_append_left _ hq)).2⟩
        · rcases List.mem_cons.mp hq with rfl | hq
          · exact ⟨hp _ (List.mem_cons_of_mem _ List.mem_cons_self), (N _ h52).2⟩
          · exact ⟨hp p (List.mem_cons_of_mem _ (List.mem_cons_of_mem _ (List.mem_append_left _ (List.mem_append_right _ hq)))), (N p (List.mem_append_right _ (List.mem_cons_of_mem _ hq))).2⟩
    · rcases List.mem_append.mp hq with hq | hq
      · exact hl2 q (List.mem_append_left _ (List.mem_append_left _ hq))
      · rcases List.mem_cons.mp hq with rfl | hq
        · exact hl1
        · exact hl2 q (List.mem_append_left _ (List.mem_append_right _ hq))
theorem law_encA_hit {x r : Str} {t : Tok} {c' : Addr} {oc : Obj} {vs : Array Value} {t7 : Tok} {g : Obj → List (Addr × Obj)} (Fx : Fr h₀ L s.heap m) (N : News h₀ L s.heap news) (X : (hd.heap_39 w.params).In h₀) (T : Top p loose mean mg mb h₀) (C : CodeHd h₀ 56 52) (U : UpdF 52 (tabA c') news g)
    (hA : A = callerA.deeper (envOf nm sc L fa cd)) (hk : sc.kind = .function) (hr : strA x = r) (hx : x.cps.size ≤ 200) (hco : (c', oc) ∈ news) (hlt : @LT.lt Nat _ 52 c') (d1 : oc.data = .fields vs) (d2 : vs[1]? = some (.str qA t7)) (hch : ∀ i, x.cps.getD i 0 ≤ 1114111)
    (t2 : PySem.Str.ofString "KeyError" ∉ loose) (t3 : PySem.Str.ofString "KeyError" ∉ (recsOf p).map (·.name)) (t4 : PySem.Str.ofString "KeyError" ∉ (litsOf p).map (·.1)) (t5 : PySem.Str.ofString "KeyError" ∉ (clssOf p loose).map (·.name))
    (k : ∀ h' tk t', Fr h₀ L h' m → News h₀ L h' news → Q (.str r t') { s with heap := h', toks := tk }) :
    wpAny (model PySem.Challenge.rw_ff5031_01.row.prog w) A (call (.ref 57) [.str x t]) Q E s := by
  subst hr
  obtain ⟨oL, hL, hLn, Fs, hsz, back⟩ := fr_entry (nm := nm) (fa := fa) (cd := cd) Fx hk
  obtain ⟨pre, post, rfl, hg, hp1, hp2⟩ := U.split
  subst hA
  have hin : ∀ p ∈ pre ++ post, p ∈ pre ++ (52, tabA c') :: post := fun p hp => by
    rcases List.mem_append.mp hp with hp | hp
    · exact List.mem_append_left _ hp
    · exact List.mem_append_right _ (List.mem_cons_of_mem _ hp)
  have h52 : (52, tabA c') ∈ pre ++ (52, tabA c') :: post := List.mem_append_right _ List.mem_cons_self
  have hco' : (c', oc) ∈ (pre ++ post) := by
    rcases List.mem_append.mp hco with h | h
    · exact List.mem_append_left _ h
    · rcases List.mem_cons.mp h with e | h
      · exact absurd (congrArg Prod.fst e) (Nat.ne_of_gt hlt)
      · exact List.mem_append_right _ h
  refine wpAny_mono (encA_hit (w := w) (dp := callerA.depth + 1) (un := callerA.units + 3) (gd := callerA.guards) (rest := pre ++ post) (frs := [(L, oL)]) (t := t) hx hco' d1 d2 Fx.keep hsz X T C Fs ?_ ?_ hch ?_ t2 t3 t4 t5 (by decide) (by decide)) ?_ fun _ _ q => q.elim
  · intro p hp
    rcases List.mem_cons.mp hp with rfl | hp
    · exact ⟨(N _ h52).1, (N _ h52).2.2⟩
    · rcases List.mem_append.mp hp with hp | hp
      · exact ⟨(N _ (hin p hp)).1, (N _ (hin p hp)).2.2⟩
      · rw [List.mem_singleton.mp hp]; exact ⟨hL, hLn⟩
  · intro p hp hm
    have e : p.1 = L := by simpa using hm
    rcases List.mem_cons.mp hp with rfl | hp
    · exact (N _ h52).2.1 e
    · exact (N _ (hin p hp)).2.1 e
  · intro p hp
    rcases List.mem_append.mp hp with hp | hp
    · rcases List.mem_append.mp hp with hp | hp
      · exact hp1 p hp
      · exact hp2 p hp
    · rw [List.mem_singleton.mp hp]; exact fun e => (N _ h52).2.1 e.symm
  · rintro v s' ⟨h', tk', frs', rfl, st, SU, hp, t', rfl⟩
    have F' := back h' frs' SU st fun p hq => hp p (List.mem_append_right _ hq)
    refine k h' tk' t' F' fun p hq => ?_
    refine ⟨hp p (List.mem_append_left _ ?_), (N p hq).2⟩
    rcases List.mem_append.mp hq with hq | hq
    · exact List.mem_cons_of_mem _ (List.mem_append_left _ hq)
    · rcases List.mem_cons.mp hq with rfl | hq
      · exact List.mem_cons_self
      · exact List.mem_cons_of_mem _ (List.mem_append_right _ hq)
theorem law_encW_miss {x r : Str} {t : Tok} {g : Obj → List (Addr × Obj)} (Fx : Fr h₀ L s.heap m) (N : News h₀ L s.heap news) (X : (hd.heap_39 w.params).In h₀) (T : Top p loose mean mg mb h₀) (C : CodeHd h₀ 49 45) (U : UpdF 45 (tabObj #[]) news g)
    (hA : A = callerA.deeper (envOf nm sc L fa cd)) (hk : sc.kind = .function) (hr : strW x = r) (hx : x.cps.size ≤ 200)
    (k : ∀ h' tk c' oc vs t7 t', Fr h₀ L h' m → News h₀ L h' ((c', oc) :: g (tabW c')) → (∀ q ∈ news, q.1 < c') → oc.data = .fields vs → vs[1]? = some (.str qW t7) → Q (.str r t') { s with heap := h', toks := tk }) :
    wpAny (model PySem.Challenge.rw_ff5031_01.row.prog w) A (call (.ref 50) [.str x t]) Q E s := by
  subst hr
  obtain ⟨oL, hL, hLn, Fs, hsz, back⟩ := fr_entry (nm := nm) (fa := fa) (cd := cd) Fx hk
  obtain ⟨pre, post, rfl, hg, hp1, hp2⟩ := U.split
  subst hA
  have hin : ∀ p ∈ pre ++ post, p ∈ pre ++ (45, tabObj #[]) :: post := fun p hp => by
    rcases List.mem_append.mp hp with hp | hp
    · exact List.mem_append_left _ hp
    · exact List.mem_append_right _ (List.mem_cons_of_mem _ hp)
  have h45 : (45, tabObj #[]) ∈ pre ++ (45, tabObj #[]) :: post := List.mem_append_right _ List.mem_cons_self
  refine wpAny_mono (encW_miss (w := w) (dp := callerA.depth + 1) (un := callerA.units + 3) (gd := callerA.guards) (rest := pre ++ post) (frs := [(L, oL)]) (t := t) hx Fx.keep hsz X T C Fs ?_ ?_ ?_ (by decide) (by decide)) ?_ fun _ _ q => q.elim
  · intro p hp
    rcases List.mem_cons.mp hp with rfl | hp
    · exact ⟨(N _ h45).1, (N _ h45).2.2⟩
    · rcases List.mem_append.mp hp with hp | hp
      · exact ⟨(N _ (hin p hp)).1, (N _ (hin p hp)).2.2⟩
      · rw [List.mem_singleton.mp hp]; exact ⟨hL, hLn⟩
  · intro p hp hm
    have e : p.1 = L := by simpa using hm
    rcases List.mem_cons.mp hp with rfl | hp
    · exact (N _ h45).2.1 e
    · exact (N _ (hin p hp)).2.1 e
  · intro p hp
    rcases List.mem_append.mp hp with hp | hp
    · rcases List.mem_append.mp hp with hp | hp
      · exact hp1 p hp
      · exact hp2 p hp
    · rw [List.mem_singleton.mp hp]; exact fun e => (N _ h45).2.1 e.symm
  · rintro v s' ⟨h', tk', frs', c', oc, vs, t7, rfl, st, SU, hp, hc0, ⟨hl1, hl2⟩, d1, d2, t', rfl⟩
    have F' := back h' frs' SU st fun p hq => hp p (List.mem_cons_of_mem _ (List.mem_cons_of_mem _ (List.mem_append_right _ hq)))
    refine k h' tk' c' oc vs t7 t' F' (fun p hq => ?_) (fun q hq => ?_) d1 d2
    · rcases List.mem_cons.mp hq with rfl | hq
      · have hLc : L < c' := hl2 (L, oL) (List.mem_append_right _ (List.mem_singleton.mpr rfl))
        exact ⟨hp _ List.mem_cons_self, Nat.ne_of_gt hLc, hc0⟩
      · rw [hg] at hq
        rcases List.mem_append.mp hq with hq | hq
        · exact ⟨hp p (List.mem_cons_of_mem _ (List.mem_cons_of_mem _ (List.mem_append_left _ (List.mem_append_left _ hq)))), (N p (List.mem_append_left _ hq)).2⟩
        · rcases List.mem_cons.mp hq with rfl | hq
          · exact ⟨hp _ (List.mem_cons_of_mem _ List.mem_cons_self), (N _ h45).2⟩
          · exact ⟨hp p (List.mem_cons_of_mem _ (List.mem_cons_of_mem _ (List.mem_append_left _ (List.mem_append_right _ hq)))), (N p (List.mem_append_right _ (List.mem_cons_of_mem _ hq))).2⟩
    · rcases List.mem_append.mp hq with hq | hq
      · exact hl2 q (List.mem_append_left _ (List.mem_append_left _ hq))
      · rcases List.mem_cons.mp hq with rfl | hq
        · exact hl1
        · exact hl2 q (List.mem_append_left _ (List.mem_append_right _ hq))
theorem law_encW_hit {x r : Str} {t : Tok} {c' : Addr} {oc : Obj} {vs : Array Value} {t7 : Tok} {g : Obj → List (Addr × Obj)} (Fx : Fr h₀ L s.heap m) (N : News h₀ L s.heap news) (X : (hd.heap_39 w.params).In h₀) (T : Top p loose mean mg mb h₀) (C : CodeHd h₀ 49 45) (U : UpdF 45 (tabW c') news g)
    (hA : A = callerA.deeper (envOf nm sc L fa cd)) (hk : sc.kind = .function) (hr : strW x = r) (hx : x.cps.size ≤ 200) (hco : (c', oc) ∈ news) (hlt : @LT.lt Nat _ 45 c') (d1 : oc.data = .fields vs) (d2 : vs[1]? = some (.str qW t7))
    (k : ∀ h' tk t', Fr h₀ L h' m → News h₀ L h' news → Q (.str r t') { s with heap := h', toks := tk }) :
    wpAny (model PySem.Challenge.rw_ff5031_01.row.prog w) A (call (.ref 50) [.str x t]) Q E s := by
  subst hr
  obtain ⟨oL, hL, hLn, Fs, hsz, back⟩ := fr_entry (nm := nm) (fa := fa) (cd := cd) Fx hk
  obtain ⟨pre, post, rfl, hg, hp1, hp2⟩ := U.split
  subst hA
  have hin : ∀ p ∈ pre ++ post, p ∈ pre ++ (45, tabW c') :: post := fun p hp => by
    rcases List.mem_append.mp hp with hp | hp
    · exact List.mem_append_left _ hp
    · exact List.mem_append_right _ (List.mem_cons_of_mem _ hp)
  have h45 : (45, tabW c') ∈ pre ++ (45, tabW c') :: post := List.mem_append_right _ List.mem_cons_self
  have hco' : (c', oc) ∈ (pre ++ post) := by
    rcases List.mem_append.mp hco with h | h
    · exact List.mem_append_left _ h
    · rcases List.mem_cons.mp h with e | h
      · exact absurd (congrArg Prod.fst e) (Nat.ne_of_gt hlt)
      · exact List.mem_append_right _ h
  refine wpAny_mono (encW_hit (w := w) (dp := callerA.depth + 1) (un := callerA.units + 3) (gd := callerA.guards) (rest := pre ++ post) (frs := [(L, oL)]) (t := t) hx hco' d1 d2 Fx.keep hsz X T C Fs ?_ ?_ ?_ (by decide) (by decide)) ?_ fun _ _ q => q.elim
  · intro p hp
    rcases List.mem_cons.mp hp with rfl | hp
    · exact ⟨(N _ h45).1, (N _ h45).2.2⟩
    · rcases List.mem_append.mp hp with hp | hp
      · exact ⟨(N _ (hin p hp)).1, (N _ (hin p hp)).2.2⟩
      · rw [List.mem_singleton.mp hp]; exact ⟨hL, hLn⟩
  · intro p hp hm
    have e : p.1 = L := by simpa using hm
    rcases List.mem_cons.mp hp with rfl | hp
    · exact (N _ h45).2.1 e
    · exact (N _ (hin p hp)).2.1 e
  · intro p hp
    rcases List.mem_append.mp hp with hp | hp
    · rcases List.mem_append.mp hp with hp | hp
      · exact hp1 p hp
      · exact hp2 p hp
    · rw [List.mem_singleton.mp hp]; exact fun e => (N _ h45).2.1 e.symm
  · rintro v s' ⟨h', tk', frs', rfl, st, SU, hp, t', rfl⟩
    have F' := back h' frs' SU st fun p hq => hp p (List.mem_append_right _ hq)
    refine k h' tk' t' F' fun p hq => ?_
    refine ⟨hp p (List.mem_append_left _ ?_), (N p hq).2⟩
    rcases List.mem_append.mp hq with hq | hq
    · exact List.mem_cons_of_mem _ (List.mem_append_left _ hq)
    · rcases List.mem_cons.mp hq with rfl | hq
      · exact List.mem_cons_self
      · exact List.mem_cons_of_mem _ (List.mem_append_right _ hq)
theorem flat_sign : ∀ l : List Int, flatS (l.map signS) = l.map signC
  | [] => rfl
  | a :: r => by
    have := flat_sign r
    unfold flatS at this ⊢
    simp only [List.map_cons, List.flatMap_cons] at this ⊢
    rw [this]; rfl
theorem flat_one : ∀ l : List Int, flatS (l.map oneS) = l.map Int.toNat
  | [] => rfl
  | a :: r => by
    have := flat_one r
    unfold flatS at this ⊢
    simp only [List.map_cons, List.flatMap_cons] at this ⊢
    rw [this]; rfl
theorem law_join {D : Addr} {ys : List Value} {zs : List Str} {e r : Str} {t : Tok} {n : Nat} (N : News h₀ L s.heap news) (he : e = ⟨#[]⟩) (hm : (D, ({ cls := .type "list", data := .seq ys.toArray n } : Obj)) ∈ news) (hi : StrsAre ys zs) (hr : (⟨(flatS zs).toArray⟩ : Str) = r) (hz : (flatS zs).length ≤ 1000)
    (h : ∀ t' k, Q (.str r t') { s with toks := k }) : wpAny (model PySem.Challenge.rw_ff5031_01.row.prog w) A (call (.builtin "str.join") [.str e t, .ref D]) Q E s := by
  subst he
  subst hr
  refine join_list (items := ys.toArray) (ys := zs) ⟨_, (N _ hm).1, rfl, _, rfl⟩ hi (by rw [← flatS_len]; show _ + _ * 0 ≤ _; omega) fun t' k => ?_
  rw [join_empty]
  exact h t' k
theorem law_joinT {D : Addr} {ys : List Value} {l : List Int} {e : Str} {t : Tok} {n : Nat} (N : News h₀ L s.heap news) (he : e = ⟨#[]⟩) (hm : (D, ({ cls := .type "list", data := .seq ys.toArray n } : Obj)) ∈ news) (hi : StrsAre ys ((l.take 12).map signS))
    (h : ∀ t' k, Q (.str ⟨((l.take 12).map signC).toArray⟩ t') { s with toks := k }) : wpAny (model PySem.Challenge.rw_ff5031_01.row.prog w) A (call (.builtin "str.join") [.str e t, .ref D]) Q E s :=
  law_join N he hm hi (by rw [flat_sign]) (by rw [flat_sign, List.length_map, List.length_take]; omega) h
end
end Mine
end
-- part PlainA
section
open PySem PySem.Spec PySem.Calls PySem.W PyProof.Rows
namespace Mine
theorem units_cons (c : Int) (r : List Int) : unitsI (c :: r) = unitsI [c] ++ unitsI r := by
  simp only [unitsI]
  split <;> rfl
theorem spell_append (a b : List Int) : spellI (a ++ b) = spellI a ++ spellI b := by unfold spellI; rw [List.flatMap_append]
theorem units_all : ∀ l : List Int, (∀ c ∈ l, 0 ≤ c ∧ c ≤ 1114111) → ∀ n ∈ unitsI l, 0 ≤ n ∧ n ≤ 65535
  | [], _, n, hn => nomatch hn
  | c :: r, h, n, hn => by
    have hc := h c List.mem_cons_self
    have ih := units_all r fun d hd => h d (List.mem_cons_of_mem _ hd)
    simp only [unitsI] at hn
    split at hn
    · rename_i hb
      rw [Int.fdiv_eq_ediv_of_nonneg _ (by omega), Int.fmod_eq_emod_of_nonneg _ (by omega)] at hn
      rcases List.mem_cons.mp hn with rfl | hn
      · omega
      · rcases List.mem_cons.mp hn with rfl | hn
        · omega
        · exact ih n hn
    · rcases List.mem_cons.mp hn with rfl | hn
      · omega
      · exact ih n hn
theorem units_near : ∀ l : List Int, (∀ n ∈ l, 0 ≤ n ∧ n ≤ 65535) → unitsI l = l
  | [], _ => rfl
  | c :: r, h => by
    have hc := h c List.mem_cons_self
    simp only [unitsI]
    rw [if_neg (by omega), units_near r fun d hd => h d (List.mem_cons_of_mem _ hd)]
theorem codes_txt {l : List Int} (h : ∀ n ∈ l, 0 ≤ n) : KStt.codes (KStt.txt l) = l := by
  show ((l.map Int.toNat).toArray.toList).map (fun c : Nat => (c : Int)) = l
  rw [List.toList_toArray, List.map_map]
  have : ∀ n ∈ l, ((fun c : Nat => (c : Int)) ∘ Int.toNat) n = n := fun n hn => Int.toNat_of_nonneg (h n hn)
  rw [List.map_congr_left this, List.map_id']
theorem join_all : ∀ l : List Int, (∀ n ∈ l, 0 ≤ n ∧ n ≤ 65535) → ∀ c ∈ joinI l, 0 ≤ c ∧ c ≤ 1114111
  | [], _, c, hc => nomatch hc
  | [n], h, c, hc => by
    have := h n List.mem_cons_self
    rw [joinI, List.mem_singleton] at hc
    omega
  | n :: m :: r, h, c, hc => by
    have hn := h n List.mem_cons_self
    have hm := h m (List.mem_cons_of_mem _ List.mem_cons_self)
    rw [joinI] at hc
    split at hc
    · rename_i hp
      obtain ⟨⟨p1, p2⟩, p3, p4⟩ := hp
      rcases List.mem_cons.mp hc with rfl | hc
      · omega
      · exact join_all r (fun d hd => h d (List.mem_cons_of_mem _ (List.mem_cons_of_mem _ hd))) c hc
    · rcases List.mem_cons.mp hc with rfl | hc
      · omega
      · exact join_all (m :: r) (fun d hd => h d (List.mem_cons_of_mem _ hd)) c hc
theorem join_len : ∀ l : List Int, (joinI l).length ≤ l.length
  | [] => Nat.le_refl _
  | [n] => Nat.le_refl _
  | n :: m :: r => by
    have h1 := join_len r
    have h2 := join_len (m :: r)
    rw [joinI]
    simp only [List.length_cons] at h2
    split <;> simp only [List.length_cons] <;> omega
theorem units_join : ∀ l : List Int, (∀ n ∈ l, 0 ≤ n ∧ n ≤ 65535) → unitsI (joinI l) = l
  | [], _ => rfl
  | [n], h => by
    have := h n List.mem_cons_self
    rw [joinI]; simp only [unitsI]; rw [if_neg (by omega)]
  | n :: m :: r, h => by
    have hn := h n List.mem_cons_self
    have hm := h m (List.mem_cons_of_mem _ List.mem_cons_self)
    have i1 := units_join r fun d hd => h d (List.mem_cons_of_mem _ (List.mem_cons_of_mem _ hd))
    have i2 := units_join (m :: r) fun d hd => h d (List.mem_cons_of_mem _ hd)
    rw [joinI]
    split
    · rename_i hp
      obtain ⟨⟨p1, p2⟩, p3, p4⟩ := hp
      rw [units_cons, i1]
      simp only [unitsI]
      rw [if_pos (by omega), Int.fdiv_eq_ediv_of_nonneg _ (by omega), Int.fmod_eq_emod_of_nonneg _ (by omega)]
      have e1 : 55296 + (65536 + (n - 55296) * 1024 + m - 56320 - 65536) / 1024 = n := by omega
      have e2 : 56320 + (65536 + (n - 55296) * 1024 + m - 56320 - 65536) % 1024 = m := by omega
      rw [e1, e2]; rfl
    · rw [units_cons, i2]
      simp only [unitsI]
      rw [if_neg (by omega)]; rfl
theorem fA_list (c : Nat) : (fA c).cps.toList = (spellI (unitsI [(c : Int)])).map Int.toNat := by
  unfold fA
  show ((spellI (unitsI [(c : Int)])).map Int.toNat).toArray.toList = _
  rw [List.toList_toArray]
theorem nice_spell {c : Nat} (h : badA c = false) : (spellI (unitsI [(c : Int)])).map Int.toNat = [c] := by
  unfold badA at h
  have h1 : ¬ (c = 92 ∨ c = 34) := fun e => by rw [decide_eq_true e] at h; exact absurd h (by simp)
  have h2 : 32 ≤ c ∧ c ≤ 126 := by
    by_cases e : 32 ≤ c ∧ c ≤ 126
    · exact e
    · rw [decide_eq_false e, decide_eq_false h1] at h; exact absurd h (by decide)
  have e1 : unitsI [(c : Int)] = [(c : Int)] := by simp only [unitsI]; rw [if_neg (by omega)]
  rw [e1]
  unfold spellI
  rw [List.flatMap_cons, List.flatMap_nil, List.append_nil, spell_else (by omega), if_pos (by omega)]
  simp
theorem sub_spell : ∀ l : List Nat, subF badA (fun c => (fA c).cps.toList) l = (spellI (unitsI (l.map fun c : Nat => (c : Int)))).map Int.toNat
  | [] => rfl
  | c :: r => by
    have ih := sub_spell r
    rw [List.map_cons, units_cons, spell_append, List.map_append, ← ih]
    unfold subF
    rw [List.flatMap_cons]
    cases hb : badA c with
    | true =>
      rw [← fA_list c]; rfl
    | false =>
      rw [nice_spell hb]; rfl
theorem strA_eq (x : Str) : strA x = KStt.txt (34 :: spellI (unitsI (KStt.codes x)) ++ [34]) := by
  have e : subA x = KStt.txt (spellI (unitsI (KStt.codes x))) := by
    refine PySem.Str.ext' (Array.toList_inj.mp ?_)
    show (subF badA (fun c => (fA c).cps.toList) x.cps.toList).toArray.toList = ((spellI (unitsI (KStt.codes x))).map Int.toNat).toArray.toList
    rw [List.toList_toArray, List.toList_toArray, sub_spell]
    rfl
  unfold strA
  rw [e, ← txt_append, ← txt_append]
  rfl
theorem flat_one' (l : List Int) : (⟨(flatS (l.map oneS)).toArray⟩ : Str) = KStt.txt l := by rw [flat_one]; rfl
end Mine
end
-- part PlainB
section
open PySem PySem.Spec PySem.Calls PySem.W PyProof.Rows
namespace Mine
def tok1 (n : Nat) : Tk :=
  if n = 34 then .esc 34 34 else if n = 92 then .esc 92 92 else if n = 10 then .esc 110 10 else if n = 9 then .esc 116 9 else if n = 13 then .esc 114 13 else if n = 8 then .esc 98 8 else if n = 12 then .esc 102 12
  else if 32 ≤ n ∧ n < 127 then .lit n else .hex (n / 4096) (n / 256 % 16) (n / 16 % 16) (n % 16)
def Tk.val : Tk → Nat
  | .lit c => c
  | .esc _ c => c
  | .hex a b c d => hexV a b c d
theorem tok1_else {n : Nat} (h : n ≠ 34 ∧ n ≠ 92 ∧ n ≠ 10 ∧ n ≠ 9 ∧ n ≠ 13 ∧ n ≠ 8 ∧ n ≠ 12) : tok1 n = if 32 ≤ n ∧ n < 127 then .lit n else .hex (n / 4096) (n / 256 % 16) (n / 16 % 16) (n % 16) := by
  obtain ⟨h1, h2, h3, h4, h5, h6, h7⟩ := h
  unfold tok1
  rw [if_neg h1, if_neg h2, if_neg h3, if_neg h4, if_neg h5, if_neg h6, if_neg h7]
theorem tok1_hex {n : Nat} (h : 127 ≤ n) : tok1 n = .hex (n / 4096) (n / 256 % 16) (n / 16 % 16) (n % 16) := by
  rw [tok1_else (by omega), if_neg (by omega)]
theorem hexV_eq {n : Nat} : hexV (n / 4096) (n / 256 % 16) (n / 16 % 16) (n % 16) = n := by unfold hexV; omega
theorem tok_cases (n : Nat) : n = 34 ∨ n = 92 ∨ n = 10 ∨ n = 9 ∨ n = 13 ∨ n = 8 ∨ n = 12 ∨ (n ≠ 34 ∧ n ≠ 92 ∧ n ≠ 10 ∧ n ≠ 9 ∧ n ≠ 13 ∧ n ≠ 8 ∧ n ≠ 12) := by omega
theorem tok1_val (n : Nat) : (tok1 n).val = n := by
  rcases tok_cases n with rfl | rfl | rfl | rfl | rfl | rfl | rfl | h
  all_goals first | rfl | skip
  rw [tok1_else h]
  split
  · rfl
  · exact hexV_eq
theorem tok1_ok {n : Nat} (hn : n < 65536) : (tok1 n).Ok := by
  rcases tok_cases n with rfl | rfl | rfl | rfl | rfl | rfl | rfl | h
  all_goals first | (show (_, _) ∈ escP; decide) | skip
  rw [tok1_else h]
  split
  · rename_i h1
    show stops n = false
    unfold stops
    rw [decide_eq_false (show ¬ n < 32 by omega), beq_eq_false_iff_ne.mpr h.1, beq_eq_false_iff_ne.mpr h.2.1]; rfl
  · show _ < 16 ∧ _ < 16 ∧ _ < 16 ∧ _ < 16
    omega
theorem tok1_text {n : Nat} (hn : n < 65536) : (tok1 n).text = (spell1 (n : Int)).map Int.toNat := by
  rcases tok_cases n with rfl | rfl | rfl | rfl | rfl | rfl | rfl | h
  all_goals first | decide +kernel | skip
  rw [tok1_else h, spell_else (by omega)]
  by_cases h1 : 32 ≤ n ∧ n < 127
  · rw [if_pos h1, if_pos (by omega)]; simp [Tk.text]
  · rw [if_neg h1, if_neg (by omega)]
    have := fig4_D hn
    unfold fig4 at this
    show [92, 117, _, _, _, _] = 92 :: 117 :: List.map Int.toNat [_, _, _, _]
    rw [this]
theorem scan_cons {big : Bool} {t : Tk} {r : List Tk} (h : ∀ a' b' c' d' r', r = .hex a' b' c' d' :: r' → (big && hiN t.val && loN (hexV a' b' c' d')) = false) : scanT big (t :: r) = t.val :: scanT big r := by
  cases t with
  | lit c => rw [scanT]; rfl
  | esc k c => rw [scanT_esc]; rfl
  | hex a b c d => exact scanT_one rfl h
theorem scan_vals : ∀ ts : List Tk, scanT false ts = ts.map Tk.val
  | [] => rfl
  | t :: r => by rw [scan_cons (fun _ _ _ _ _ _ => rfl), scan_vals r]; rfl
def tokI (n : Int) : Tk := tok1 n.toNat
theorem flat_cons (t : Tk) (r : List Tk) : flatT (t :: r) = t.text ++ flatT r := by unfold flatT; rw [List.flatMap_cons]
theorem flat_spell : ∀ l : List Int, (∀ n ∈ l, 0 ≤ n ∧ n ≤ 65535) → flatT (l.map tokI) = (spellI l).map Int.toNat
  | [], _ => rfl
  | n :: r, h => by
    have hn := h n List.mem_cons_self
    rw [List.map_cons, flat_cons, flat_spell r fun d hd => h d (List.mem_cons_of_mem _ hd)]
    unfold spellI
    rw [List.flatMap_cons, List.map_append]
    unfold tokI
    rw [tok1_text (by omega), Int.toNat_of_nonneg hn.1]
theorem vals_near : ∀ l : List Int, (l.map tokI).map Tk.val = l.map Int.toNat
  | [] => rfl
  | n :: r => by
    have ih := vals_near r
    simp only [List.map_cons] at ih ⊢
    rw [ih]
    unfold tokI
    rw [tok1_val]
theorem scan_join : ∀ l : List Int, (∀ n ∈ l, 0 ≤ n ∧ n ≤ 65535) → scanT true (l.map tokI) = (joinI l).map Int.toNat
  | [], _ => rfl
  | [n], h => by
    rw [joinI]
    show scanT true [tokI n] = [n.toNat]
    have e := scan_cons (big := true) (t := tokI n) (r := []) (fun _ _ _ _ _ e => nomatch e)
    rw [e]
    unfold tokI
    rw [tok1_val]; rfl
  | n :: m :: r, h => by
    have hn := h n List.mem_cons_self
    have hm := h m (List.mem_cons_of_mem _ List.mem_cons_self)
    have i1 := scan_join r fun d hd => h d (List.mem_cons_of_mem _ (List.mem_cons_of_mem _ hd))
    have i2 := scan_join (m :: r) fun d hd => h d (List.mem_cons_of_mem _ hd)
    rw [joinI]
    split
    · rename_i hp
      obtain ⟨⟨p1, p2⟩, p3, p4⟩ := hp
      show scanT true (tok1 n.toNat :: tok1 m.toNat :: r.map tokI) = _
      rw [tok1_hex (by omega), tok1_hex (by omega), scanT_two (n := n.toNat) (n' := m.toNat) hexV_eq hexV_eq (by omega) (by omega) (by omega) (by omega), i1, List.map_cons,
        show (65536 + (((n.toNat - 55296) * 1024 + (m.toNat - 56320) : Nat) : Int)).toNat = (65536 + (n - 55296) * 1024 + m - 56320).toNat by omega]
    · rename_i hp
      show scanT true (tokI n :: (m :: r).map tokI) = _
      have hv : (tokI n).val = n.toNat := tok1_val _
      rw [scan_cons, i2, List.map_cons, hv]
      intro a' b' c' d' r' e
      rw [hv]
      have e1 : tokI m = .hex a' b' c' d' := (List.cons.inj e).1
      have e2 : hexV a' b' c' d' = m.toNat := by
        have := tok1_val m.toNat
        rw [show tok1 m.toNat = .hex a' b' c' d' from e1] at this
        exact this
      rw [e2]
      by_cases q1 : isHi n
      · have q2 : ¬ isLo m := fun q => hp ⟨q1, q⟩
        rw [show loN m.toNat = false from decide_eq_false (by unfold isLo at q2; omega), Bool.and_false]
      · rw [show hiN n.toNat = false from decide_eq_false (by unfold isHi at q1; omega)]; rfl
/-- the wide encoder's pieces -/
def tokW (c : Nat) : Tk := if stops c = true then tok1 c else .lit c
def encW (c : Nat) : List Nat := if stops c = true then (fA c).cps.toList else [c]
theorem stops_lt {c : Nat} (h : stops c = true) : c < 93 := by
  unfold stops at h
  by_cases h1 : c < 32
  · omega
  · rw [decide_eq_false h1, Bool.false_or, Bool.or_eq_true, beq_iff_eq, beq_iff_eq] at h
    omega
theorem fA_tok {c : Nat} (h : c < 65536) : (fA c).cps.toList = (tok1 c).text := by
  rw [fA_list, tok1_text h, show unitsI [(c : Int)] = [(c : Int)] by simp only [unitsI]; rw [if_neg (by omega)]]
  unfold spellI
  rw [List.flatMap_cons, List.flatMap_nil, List.append_nil]
theorem encW_tok (c : Nat) : encW c = (tokW c).text := by
  unfold encW tokW
  cases h : stops c with
  | true =>
    have := stops_lt h
    rw [if_pos rfl, if_pos rfl, fA_tok (by omega)]
  | false => rfl
theorem tokW_ok (c : Nat) : (tokW c).Ok := by
  unfold tokW
  cases h : stops c with
  | true =>
    have := stops_lt h
    rw [if_pos rfl]; exact tok1_ok (by omega)
  | false => exact h
theorem flatW : ∀ l : List Nat, flatT (l.map tokW) = subF stops (fun c => (fA c).cps.toList) l
  | [] => rfl
  | c :: r => by
    rw [List.map_cons, flat_cons, flatW r, ← encW_tok]; rfl
theorem scanW : ∀ l : List Nat, scanT true (l.map tokW) = l
  | [] => rfl
  | c :: r => by
    have ih := scanW r
    rw [List.map_cons]
    unfold tokW
    cases h : stops c with
    | true =>
      have := stops_lt h
      rw [if_pos rfl]
      have hv := tok1_val c
      rw [scan_cons, hv]
      · show c :: scanT true (List.map tokW r) = _
        rw [ih]
      · intro a' b' c' d' r' _
        rw [hv, show hiN c = false from decide_eq_false (by omega)]; rfl
    | false =>
      show scanT true (.lit c :: List.map tokW r) = _
      rw [scanT, ih]
def unk (k : Nat) : Nat := if k = 110 then 10 else if k = 116 then 9 else if k = 114 then 13 else if k = 98 then 8 else if k = 102 then 12 else k
def unh (a b : Nat) : Nat := (if a = 49 then 16 else 0) + (if 97 ≤ b then b - 87 else b - 48)
/-- the first sign that a wide text stands for, and what is left -/
def unW (l : List Nat) : Option (Nat × List Nat) := match l with
  | [] => none
  | c :: r => if c = 92 then (match r with
    | [] => none
    | k :: r2 => if k = 117 then (match r2 with
      | _ :: _ :: a :: b :: r3 => some (unh a b, r3)
      | _ => none) else some (unk k, r2)) else some (c, r)
def shapeOk (c : Nat) (l : List Nat) : Bool := match l with
  | [x, k] => x == 92 && (k != 117 && unk k == c)
  | [x, y, _, _, a, b] => x == 92 && (y == 117 && unh a b == c)
  | _ => false
theorem shape_all : ∀ c : Fin 93, stops c.val = true → shapeOk c.val (tok1 c.val).text = true := by decide +kernel
theorem unW_shape {c : Nat} {l u : List Nat} (h : shapeOk c l = true) : unW (l ++ u) = some (c, u) := by
  unfold shapeOk at h
  split at h
  · rename_i x k
    rw [Bool.and_eq_true, Bool.and_eq_true, beq_iff_eq, beq_iff_eq, bne_iff_ne] at h
    obtain ⟨rfl, h1, rfl⟩ := h
    show unW (92 :: k :: u) = _
    simp only [unW, if_pos, if_neg h1]
  · rename_i x y p q a b
    rw [Bool.and_eq_true, Bool.and_eq_true, beq_iff_eq, beq_iff_eq, beq_iff_eq] at h
    obtain ⟨rfl, rfl, rfl⟩ := h
    rfl
  · exact absurd h (by decide)
theorem unW_enc (c : Nat) (u : List Nat) : unW (encW c ++ u) = some (c, u) := by
  rw [encW_tok]
  unfold tokW
  cases h : stops c with
  | true =>
    rw [if_pos rfl]
    exact unW_shape (shape_all ⟨c, stops_lt h⟩ h)
  | false =>
    show unW (c :: u) = _
    unfold unW
    have : c ≠ 92 := fun e => by subst e; exact absurd h (by decide)
    show (if c = 92 then _ else some (c, u)) = _
    rw [if_neg this]
theorem enc_inj : ∀ l l' : List Nat, subF stops (fun c => (fA c).cps.toList) l = subF stops (fun c => (fA c).cps.toList) l' → l = l'
  | [], [], _ => rfl
  | [], c :: r, e => by
    have h := unW_enc c (subF stops (fun c => (fA c).cps.toList) r)
    have e2 : encW c ++ subF stops (fun c => (fA c).cps.toList) r = [] := e.symm
    rw [e2] at h; cases h
  | c :: r, [], e => by
    have h := unW_enc c (subF stops (fun c => (fA c).cps.toList) r)
    have e2 : encW c ++ subF stops (fun c => (fA c).cps.toList) r = [] := e
    rw [e2] at h; cases h
  | c :: r, c' :: r', e => by
    have h := unW_enc c (subF stops (fun c => (fA c).cps.toList) r)
    have h' := unW_enc c' (subF stops (fun c => (fA c).cps.toList) r')
    have e2 : encW c ++ subF stops (fun c => (fA c).cps.toList) r = encW c' ++ subF stops (fun c => (fA c).cps.toList) r' := e
    rw [e2, h'] at h
    have h3 := Option.some.inj h
    have h4 := (Prod.mk.inj h3).1
    have h5 := (Prod.mk.inj h3).2
    rw [h4, enc_inj r r' h5.symm]
theorem strW_list (x : Str) : (strW x).cps.toList = 34 :: (subF stops (fun c => (fA c).cps.toList) x.cps.toList ++ [34]) := by
  unfold strW subW
  rw [PySem.Str.cps_append, PySem.Str.cps_append, Array.toList_append, Array.toList_append]
  rfl
theorem strW_inj {x y : Str} (h : strW x = strW y) : x = y := by
  have h1 := strW_list x
  rw [h, strW_list y] at h1
  have h2 := (List.cons.inj h1).2
  exact PySem.Str.ext' (Array.toList_inj.mp (enc_inj _ _ (List.append_cancel_right h2).symm))
theorem strW_beq (x y : Str) : (strW x == strW y) = (x == y) := by
  by_cases h : x = y
  · subst h; rw [beq_self_eq_true, beq_self_eq_true]
  · rw [beq_eq_false_iff_ne.mpr h, beq_eq_false_iff_ne.mpr fun e => h (strW_inj e)]
theorem readsW {x : Str} (hx : x.cps.size ≤ 200) : ReadsAs true (strW x) x := by
  refine ⟨x.cps.toList.map tokW, ?_, ?_, ?_, ?_⟩
  · have h1 := congrArg List.length (strW_list x)
    have h2 := subW_size x
    have h3 : (subW x).length = (subF stops (fun c => (fA c).cps.toList) x.cps.toList).length := rfl
    rw [Array.length_toList, List.length_cons, List.length_append, List.length_cons, List.length_nil, ← h3] at h1
    omega
  · rw [strW_list, flatW]
  · intro t ht
    obtain ⟨c, _, rfl⟩ := List.mem_map.mp ht
    exact tokW_ok c
  · rw [scanW]
theorem spellI_size (l : List Int) : (KStt.txt (34 :: spellI l ++ [34])).cps.size ≤ 6 * l.length + 2 := by
  have := spellI_len l
  show ((34 :: spellI l ++ [34]).map Int.toNat).toArray.size ≤ _
  rw [List.size_toArray, List.length_map, List.length_append, List.length_cons, List.length_cons, List.length_nil]
  omega
theorem readsA {l : List Int} (big : Bool) {r : Str} (h : ∀ n ∈ l, 0 ≤ n ∧ n ≤ 65535) (hl : l.length ≤ 200) (hr : (⟨(scanT big (l.map tokI)).toArray⟩ : Str) = r) : ReadsAs big (KStt.txt (34 :: spellI l ++ [34])) r := by
  refine ⟨l.map tokI, ?_, ?_, ?_, hr⟩
  · have := spellI_size l
    omega
  · rw [flat_spell l h]
    show ((34 :: spellI l ++ [34]).map Int.toNat).toArray.toList = _
    rw [List.toList_toArray, List.map_append, List.map_cons]
    rfl
  · intro t ht
    obtain ⟨n, hn, rfl⟩ := List.mem_map.mp ht
    exact tok1_ok (by have := h n hn; omega)
end Mine
end
-- part Plain
section
open PySem PySem.Spec PySem.Calls PySem.W PyProof.Rows
namespace Mine
def SmallT (x : Str) : Prop := x.cps.size ≤ 14 ∧ ∀ c ∈ x.cps.toList, c ≤ 1114111
/-- what the law leans on, of a text x, its units, its two other forms, its narrow text and the wide texts -/
structure LawFacts (x : Str) (ns : List Int) (j a d w1 w2 : Str) : Prop where
  len : x.length ≤ 100
  top : ∀ c ∈ KStt.codes x, c ≤ 1114111
  uns : unitsI (KStt.codes x) = ns
  size : x.cps.size ≤ 200
  each : ∀ i, x.cps.getD i 0 ≤ 1114111
  ulen : ns.length ≤ 200
  uall : ∀ n ∈ ns, 0 ≤ n ∧ n ≤ 65535
  flat : (flatS (ns.map oneS)).length ≤ 1000
  hj : KStt.txt (joinI ns) = j
  ha : (⟨(flatS (ns.map oneS)).toArray⟩ : Str) = a
  hd : KStt.txt (34 :: spellI ns ++ [34]) = d
  h1 : strW x = w1
  h2 : strW j = w2
  jsize : j.cps.size ≤ 200
  jeach : ∀ i, j.cps.getD i 0 ≤ 1114111
  asize : a.cps.size ≤ 200
  aeach : ∀ i, a.cps.getD i 0 ≤ 1114111
  nA : strA x = d
  jA : strA j = d
  aA : strA a = d
  rJ : ReadsAs true d j
  rA : ReadsAs false d a
  rW : ReadsAs true w1 x
  inj : (w1 == w2) = (x == j)
  dlen : d.length ≤ 3000
  wlen : w1.length ≤ 3000
theorem txt_size (l : List Int) : (KStt.txt l).cps.size = l.length := by
  show (l.map Int.toNat).toArray.size = _
  rw [List.size_toArray, List.length_map]
theorem txt_each {l : List Int} (h : ∀ n ∈ l, 0 ≤ n ∧ n ≤ 1114111) (i : Nat) : (KStt.txt l).cps.getD i 0 ≤ 1114111 := by
  rw [getD_list, List.getD_eq_getElem?_getD]
  show ((l.map Int.toNat).toArray.toList[i]?.getD 0) ≤ _
  rw [List.toList_toArray]
  cases q : (l.map Int.toNat)[i]? with
  | none => exact Nat.zero_le _
  | some v =>
    obtain ⟨n, hn, rfl⟩ := List.mem_map.mp (List.mem_of_getElem? q)
    have := h n hn
    show n.toNat ≤ _
    omega
theorem plain {x : Str} (h : SmallT x) : ∃ ns j a d w1 w2, LawFacts x ns j a d w1 w2 := by
  obtain ⟨hz, hc⟩ := h
  have hcs : ∀ c ∈ KStt.codes x, 0 ≤ c ∧ c ≤ 1114111 := fun c hm => by
    obtain ⟨n, hn, rfl⟩ := List.mem_map.mp hm
    have := hc n hn
    show 0 ≤ (n : Int) ∧ (n : Int) ≤ 1114111
    omega
  have hlen : (KStt.codes x).length = x.cps.size := KStt.codes_length x
  have hul : (unitsI (KStt.codes x)).length ≤ 28 := by
    have := unitsI_length (KStt.codes x)
    omega
  have hua := units_all (KStt.codes x) hcs
  have hja := join_all _ hua
  have hjl := join_len (unitsI (KStt.codes x))
  have hjc : KStt.codes (KStt.txt (joinI (unitsI (KStt.codes x)))) = joinI (unitsI (KStt.codes x)) := codes_txt fun n hn => (hja n hn).1
  have hac : KStt.codes (KStt.txt (unitsI (KStt.codes x))) = unitsI (KStt.codes x) := codes_txt fun n hn => (hua n hn).1
  refine ⟨unitsI (KStt.codes x), KStt.txt (joinI (unitsI (KStt.codes x))), KStt.txt (unitsI (KStt.codes x)), KStt.txt (34 :: spellI (unitsI (KStt.codes x)) ++ [34]), strW x, strW (KStt.txt (joinI (unitsI (KStt.codes x)))), ?_⟩
  refine { len := ?_, top := fun c hm => (hcs c hm).2, uns := rfl, size := by omega, each := ?_, ulen := by omega, uall := hua, flat := ?_, hj := rfl, ha := flat_one' _, hd := rfl, h1 := rfl, h2 := rfl, jsize := ?_, jeach := txt_each hja, asize := ?_, aeach := txt_each fun n hn => ?_, nA := strA_eq x, jA := ?_, aA := ?_, rJ := ?_, rA := ?_, rW := readsW (by omega), inj := strW_beq _ _, dlen := ?_, wlen := ?_ }
  · have : x.length = x.cps.size := rfl
    omega
  · intro i
    rw [getD_list, List.getD_eq_getElem?_getD]
    cases q : x.cps.toList[i]? with
    | none => exact Nat.zero_le _
    | some v => exact hc v (List.mem_of_getElem? q)
  · rw [flat_one, List.length_map]; omega
  · rw [txt_size]; omega
  · rw [txt_size]; omega
  · have := hua n hn
    omega
  · rw [strA_eq, hjc, units_join _ hua]
  · rw [strA_eq, hac, units_near _ hua]
  · exact readsA true hua (by omega) (by rw [scan_join _ hua]; rfl)
  · exact readsA false hua (by omega) (by rw [scan_vals, vals_near]; rfl)
  · have h1 := spellI_size (unitsI (KStt.codes x))
    have h2 : (KStt.txt (34 :: spellI (unitsI (KStt.codes x)) ++ [34])).length = (KStt.txt (34 :: spellI (unitsI (KStt.codes x)) ++ [34])).cps.size := rfl
    omega
  · have h1 := congrArg List.length (strW_list x)
    have h2 := subW_size x
    have h3 : (subW x).length = (subF stops (fun c => (fA c).cps.toList) x.cps.toList).length := rfl
    have h4 : (strW x).length = (strW x).cps.size := rfl
    rw [Array.length_toList, List.length_cons, List.length_append, List.length_cons, List.length_nil, ← h3] at h1
    omega
theorem small_a {l : List Int} : SmallT ⟨((l.take 12).map signC).toArray⟩ := by
  refine ⟨?_, ?_⟩
  · show ((l.take 12).map signC).toArray.size ≤ 14
    rw [List.size_toArray, List.length_map, List.length_take]; omega
  · intro c hc
    have hc' : c ∈ ((l.take 12).map signC).toArray.toList := hc
    rw [List.toList_toArray] at hc'
    obtain ⟨n, _, rfl⟩ := List.mem_map.mp hc'
    exact signC_le n
theorem small_b {l : List Int} : SmallT (⟨((l.take 12).map signC).toArray⟩ ++ (⟨#[Int.toNat 55357]⟩ ++ ⟨#[Int.toNat 56832]⟩)) := by
  have e : (((⟨((l.take 12).map signC).toArray⟩ : Str) ++ ((⟨#[Int.toNat 55357]⟩ : Str) ++ (⟨#[Int.toNat 56832]⟩ : Str))) : Str).cps.toList = (l.take 12).map signC ++ [55357, 56832] := by
    rw [PySem.Str.cps_append, PySem.Str.cps_append, Array.toList_append, Array.toList_append]
    rfl
  refine ⟨?_, ?_⟩
  · rw [← Array.length_toList, e, List.length_append, List.length_map, List.length_take]
    show _ + 2 ≤ 14
    omega
  · intro c hc
    rw [e] at hc
    rcases List.mem_append.mp hc with hc | hc
    · obtain ⟨n, _, rfl⟩ := List.mem_map.mp hc
      exact signC_le n
    · simp only [List.mem_cons, List.not_mem_nil, or_false] at hc
      omega
end Mine
end
-- part Keys
section
open PySem PySem.Spec PySem.Calls PySem.W PyProof.Rows
namespace Mine
set_option maxRecDepth 100000
theorem key3 : PySem.Str.ofString "KeyError" ∉ (recsOf topProg).map (·.name) := by decide +kernel
theorem key4 : PySem.Str.ofString "KeyError" ∉ (litsOf topProg).map (·.1) := by decide +kernel
theorem key5 {l : List Str} : PySem.Str.ofString "KeyError" ∉ (clssOf topProg l).map (·.name) := by
  have e : clssOf topProg l = [] := by with_unfolding_all rfl
  rw [e]; exact List.not_mem_nil
theorem key6 : PySem.Str.ofString "KeyError" ∉ (recsOf hd.view_39).map (·.name) := by decide +kernel
theorem key7 : PySem.Str.ofString "KeyError" ∉ (litsOf hd.view_39).map (·.1) := by decide +kernel
theorem key8 : PySem.Str.ofString "KeyError" ∉ looseW hd.view_39 [Str.ofString "ESCAPE", Str.ofString "ESCAPE_ASCII", Str.ofString "ESCAPE_DCT", Str.ofString "py_encode_basestring", Str.ofString "errmsg", Str.ofString "JSONDecodeError", Str.ofString "STRINGCHUNK", Str.ofString "BACKSLASH", Str.ofString "FOUR_DIGIT_HEX", Str.ofString "scan_four_digit_hex", Str.ofString "py_scanstring", Str.ofString "unichr", Str.ofString "_law_short"] := by decide +kernel
theorem key9 : PySem.Str.ofString "KeyError" ∉ (clssOf hd.view_39 (looseW hd.view_39 [Str.ofString "ESCAPE", Str.ofString "ESCAPE_ASCII", Str.ofString "ESCAPE_DCT", Str.ofString "py_encode_basestring", Str.ofString "errmsg", Str.ofString "JSONDecodeError", Str.ofString "STRINGCHUNK", Str.ofString "BACKSLASH", Str.ofString "FOUR_DIGIT_HEX", Str.ofString "scan_four_digit_hex", Str.ofString "py_scanstring", Str.ofString "unichr", Str.ofString "_law_short"])).map (·.name) := by decide +kernel
theorem key2 : PySem.Str.ofString "KeyError" ∉ looseW hd.view_39 [Str.ofString "ESCAPE", Str.ofString "ESCAPE_ASCII", Str.ofString "ESCAPE_DCT", Str.ofString "py_encode_basestring", Str.ofString "errmsg", Str.ofString "JSONDecodeError", Str.ofString "STRINGCHUNK", Str.ofString "BACKSLASH", Str.ofString "FOUR_DIGIT_HEX", Str.ofString "scan_four_digit_hex", Str.ofString "py_scanstring", Str.ofString "unichr", Str.ofString "_law_short"] ++ (recsOf hd.view_39).map (·.name) ++ (litsOf hd.view_39).map (·.1) ++ (clssOf hd.view_39 (looseW hd.view_39 [Str.ofString "ESCAPE", Str.ofString "ESCAPE_ASCII", Str.ofString "ESCAPE_DCT", Str.ofString "py_encode_basestring", Str.ofString "errmsg", Str.ofString "JSONDecodeError", Str.ofString "STRINGCHUNK", Str.ofString "BACKSLASH", Str.ofString "FOUR_DIGIT_HEX", Str.ofString "scan_four_digit_hex", Str.ofString "py_scanstring", Str.ofString "unichr", Str.ofString "_law_short"])).map (·.name) := fun h => by
  rcases List.mem_append.mp h with h | h
  · rcases List.mem_append.mp h with h | h
    · rcases List.mem_append.mp h with h | h
      · exact key8 h
      · exact key6 h
    · exact key7 h
  · exact key9 h
end Mine
end
-- part FLawM
section
open PySem PySem.Spec PySem.Calls PySem.W PyProof.Rows PySem.SeqAt
namespace Mine
section
variable {w : World} {A : Around} {E : Value → Shared → Prop} {s : Shared} {h₀ : Heap} {L : Addr} {m : Str → Option Value} {news : List (Addr × Obj)} {p : Program} {loose : List Str} {mean : ExcName → Option Value} {mg mb : Str → Option Value} {base : Heap}
    {nm : Str} {sc : Scope} {fa : Addr} {cd : Value} {Q : Value → Shared → Prop} {x : Str} {t : Tok}
theorem law_chr {i : Int} {l : List Int} (hm : i ∈ l) (ha : ∀ n ∈ l, 0 ≤ n ∧ n ≤ 65535) (h : Q (.str (oneS i) s.toks) { s with toks := s.toks + 1 }) :
    wpAny (model PySem.Challenge.rw_ff5031_01.row.prog w) A (call (.builtin "chr") [.int i t]) Q E s :=
  chr_of_range (ha i hm).1 (by have := (ha i hm).2; omega) h
theorem law_len (hx : x.length ≤ 3000) (h : Q (.int x.length (s.toks + 1)) { s with toks := s.toks + 1 + 1 }) : wpAny (model PySem.Challenge.rw_ff5031_01.row.prog w) A (call (.builtin "len") [.str x t]) Q E s :=
  P.len_str (fits63 (by omega) (Int.le_refl _)) h
/-- the first signs of the script as a text of its own name -/
theorem law_text {D : Addr} {ys : List Value} {l : List Int} {e : Str} {n : Nat} (N : News h₀ L s.heap news) (he : e = ⟨#[]⟩) (hm : (D, ({ cls := .type "list", data := .seq ys.toArray n } : Obj)) ∈ news) (hi : StrsAre ys ((l.take 12).map signS))
    (h : ∀ y t' k, y = (⟨((l.take 12).map signC).toArray⟩ : Str) → SmallT y → Q (.str y t') { s with toks := k }) : wpAny (model PySem.Challenge.rw_ff5031_01.row.prog w) A (call (.builtin "str.join") [.str e t, .ref D]) Q E s :=
  law_joinT N he hm hi fun t' k => h _ t' k rfl small_a
theorem law_iadd {l : List Int} {u : Tok} (hx : x = (⟨((l.take 12).map signC).toArray⟩ : Str)) (h : ∀ y t' k, SmallT y → Q (.str y t') { s with toks := k }) :
    wpAny (model PySem.Challenge.rw_ff5031_01.row.prog w) A (inplaceOp .Add (.str x t) (.str (⟨#[Int.toNat 55357]⟩ ++ ⟨#[Int.toNat 56832]⟩) u)) Q E s := by
  subst hx
  refine SB.iadd (fun t' k => h _ t' k small_b) ?_
  rw [Str.length_append]
  show (List.map signC (List.take 12 l)).toArray.size + _ ≤ _
  rw [List.size_toArray, List.length_map, List.length_take, PySem.sizeLine_eq]
  show _ + (1 + 1) ≤ _
  omega
theorem law_unitsF (Fx : Fr h₀ L s.heap m) (N : News h₀ L s.heap news) (X : (hd.heap_39 w.params).In h₀) (T : Top p loose mean mg mb h₀) (B : Below callerA base [] h₀)
    (hA : A = callerA.deeper (envOf nm sc L fa cd)) (hk : sc.kind = .function) (hs : SmallT x)
    (k : ∀ u us n h' tk, Fr h₀ L h' m → News h₀ L h' ((u, listOf us.toArray n) :: news) → (∀ q ∈ news, q.1 ≠ u) → ∀ ns j a d w1 w2, IntsAre us ns → LawFacts x ns j a d w1 w2 → Q (.ref u) { s with heap := h', toks := tk }) :
    wpAny (model PySem.Challenge.rw_ff5031_01.row.prog w) A (call (.ref 138) [.str x t]) Q E s := by
  obtain ⟨ns, j, a, d, w1, w2, f⟩ := plain hs
  exact law_units Fx N X T B hA hk f.len f.top fun u us n h' tk F' N' h1 h2 => k u us n h' tk F' N' h1 ns j a d w1 w2 (f.uns ▸ h2) f
theorem law_joinedF {u : Addr} {us : List Value} {n : Nat} {ns : List Int} {j : Str} (Fx : Fr h₀ L s.heap m) (N : News h₀ L s.heap news) (X : (hd.heap_39 w.params).In h₀) (T : Top p loose mean mg mb h₀) (B : Below callerA base [] h₀)
    (hA : A = callerA.deeper (envOf nm sc L fa cd)) (hk : sc.kind = .function) (hm : (u, listOf us.toArray n) ∈ news) (hi : IntsAre us ns) (h1 : ns.length ≤ 200) (h2 : ∀ n ∈ ns, 0 ≤ n ∧ n ≤ 65535) (hj : KStt.txt (joinI ns) = j)
    (k : ∀ h' tk t', Fr h₀ L h' m → News h₀ L h' news → Q (.str j t') { s with heap := h', toks := tk }) :
    wpAny (model PySem.Challenge.rw_ff5031_01.row.prog w) A (call (.ref 145) [.ref u]) Q E s :=
  law_joined Fx N X T B hA hk hm hi h1 h2 (hj ▸ k)
theorem law_spelledF {u : Addr} {us : List Value} {n : Nat} {ns : List Int} {d : Str} (Fx : Fr h₀ L s.heap m) (N : News h₀ L s.heap news) (X : (hd.heap_39 w.params).In h₀) (T : Top p loose mean mg mb h₀) (B : Below callerA base [] h₀)
    (hA : A = callerA.deeper (envOf nm sc L fa cd)) (hk : sc.kind = .function) (hm : (u, listOf us.toArray n) ∈ news) (hi : IntsAre us ns) (h1 : ns.length ≤ 200) (h2 : ∀ n ∈ ns, 0 ≤ n ∧ n ≤ 65535) (hd' : KStt.txt (34 :: spellI ns ++ [34]) = d)
    (k : ∀ h' tk t', Fr h₀ L h' m → News h₀ L h' news → Q (.str d t') { s with heap := h', toks := tk }) :
    wpAny (model PySem.Challenge.rw_ff5031_01.row.prog w) A (call (.ref 152) [.ref u]) Q E s :=
  law_spelled Fx N X T B hA hk hm hi h1 h2 (hd' ▸ k)
theorem eqAt_str (a : Str) (t u : Tok) : EqAt A s (.str a t) (.str a u) true := fun _ _ _ _ h => eqGives_str a a t u _ _ _ _ _ _ (by rw [beq_self_eq_true]; exact h)
theorem eqAt_int (a : Int) (t u : Tok) : EqAt A s (.int a t) (.int a u) true := fun _ _ _ _ h => MeetsSeq.EqGives.int a a t u _ _ _ _ _ _ (by rw [beq_self_eq_true]; exact h)
theorem sub_news {news' : List (Addr × Obj)} (N : News h₀ L s.heap news) (h : ∀ p ∈ news', p ∈ news) : News h₀ L s.heap news' := fun p hp => N p (h p hp)
theorem two_in {a b : Addr × Obj} {N : List (Addr × Obj)} (h1 : a ∈ N) (h2 : b ∈ N) : ∀ p ∈ [a, b], p ∈ N := two_mem h1 h2
theorem three_in {a b c : Addr × Obj} {N : List (Addr × Obj)} (h1 : a ∈ N) (h2 : b ∈ N) (h3 : c ∈ N) : ∀ p ∈ [a, b, c], p ∈ N := fun p hp => by
  rcases List.mem_cons.mp hp with rfl | hp
  · exact h1
  · exact two_mem h2 h3 p hp
theorem encA_first {r : Str} {o45 : Obj} (Fx : Fr h₀ L s.heap m) (N : News h₀ L s.heap news) (X : (hd.heap_39 w.params).In h₀) (T : Top p loose mean mg mb h₀) (C : CodeHd h₀ 56 52) (h52 : (52, tabObj #[]) ∈ news) (h45 : (45, o45) ∈ news)
    (hA : A = callerA.deeper (envOf nm sc L fa cd)) (hk : sc.kind = .function) (hr : strA x = r) (hx : x.cps.size ≤ 200) (hch : ∀ i, x.cps.getD i 0 ≤ 1114111) (t2 : PySem.Str.ofString "KeyError" ∉ loose) (t3 : PySem.Str.ofString "KeyError" ∉ (recsOf p).map (·.name)) (t4 : PySem.Str.ofString "KeyError" ∉ (litsOf p).map (·.1)) (t5 : PySem.Str.ofString "KeyError" ∉ (clssOf p loose).map (·.name))
    (k : ∀ h' tk c' oc vs t7 t', Fr h₀ L h' m → News h₀ L h' [(c', oc), (52, tabA c'), (45, o45)] → @LT.lt Nat _ 52 c' → oc.data = .fields vs → vs[1]? = some (.str qA t7) → Q (.str r t') { s with heap := h', toks := tk }) :
    wpAny (model PySem.Challenge.rw_ff5031_01.row.prog w) A (call (.ref 57) [.str x t]) Q E s :=
  law_encA_miss (news := [(52, tabObj #[]), (45, o45)]) Fx (sub_news N (two_in h52 h45)) X T C (UpdF.head (by intro p hp; rw [List.mem_singleton.mp hp]; show (45 : Nat) ≠ 52; decide)) hA hk hr hx hch t2 t3 t4 t5 fun h' tk c' oc vs t7 t' F' N' hl d1 d2 => k h' tk c' oc vs t7 t' F' N' (hl _ List.mem_cons_self) d1 d2
theorem encA_again {r : Str} {o45 oc : Obj} {c' : Addr} {vs : Array Value} {t7 : Tok} (Fx : Fr h₀ L s.heap m) (N : News h₀ L s.heap news) (X : (hd.heap_39 w.params).In h₀) (T : Top p loose mean mg mb h₀) (C : CodeHd h₀ 56 52) (h52 : (52, tabA c') ∈ news) (hc : (c', oc) ∈ news) (h45 : (45, o45) ∈ news)
    (hA : A = callerA.deeper (envOf nm sc L fa cd)) (hk : sc.kind = .function) (hr : strA x = r) (hx : x.cps.size ≤ 200) (hlt : @LT.lt Nat _ 52 c') (d1 : oc.data = .fields vs) (d2 : vs[1]? = some (.str qA t7)) (hch : ∀ i, x.cps.getD i 0 ≤ 1114111) (t2 : PySem.Str.ofString "KeyError" ∉ loose) (t3 : PySem.Str.ofString "KeyError" ∉ (recsOf p).map (·.name)) (t4 : PySem.Str.ofString "KeyError" ∉ (litsOf p).map (·.1)) (t5 : PySem.Str.ofString "KeyError" ∉ (clssOf p loose).map (·.name))
    (k : ∀ h' tk t', Fr h₀ L h' m → News h₀ L h' [(52, tabA c'), (c', oc), (45, o45)] → Q (.str r t') { s with heap := h', toks := tk }) :
    wpAny (model PySem.Challenge.rw_ff5031_01.row.prog w) A (call (.ref 57) [.str x t]) Q E s :=
  law_encA_hit (news := [(52, tabA c'), (c', oc), (45, o45)]) Fx (sub_news N (three_in h52 hc h45)) X T C (UpdF.head (by
    intro p hp
    rcases List.mem_cons.mp hp with rfl | hp
    · exact Nat.ne_of_gt hlt
    · rw [List.mem_singleton.mp hp]; show (45 : Nat) ≠ 52; decide)) hA hk hr hx (List.mem_cons_of_mem _ List.mem_cons_self) hlt d1 d2 hch t2 t3 t4 t5 k
theorem encW_first {r : Str} {o52 : Obj} (Fx : Fr h₀ L s.heap m) (N : News h₀ L s.heap news) (X : (hd.heap_39 w.params).In h₀) (T : Top p loose mean mg mb h₀) (C : CodeHd h₀ 49 45) (h45 : (45, tabObj #[]) ∈ news) (h52 : (52, o52) ∈ news)
    (hA : A = callerA.deeper (envOf nm sc L fa cd)) (hk : sc.kind = .function) (hr : strW x = r) (hx : x.cps.size ≤ 200)
    (k : ∀ h' tk c' oc vs t7 t', Fr h₀ L h' m → News h₀ L h' [(c', oc), (45, tabW c'), (52, o52)] → @LT.lt Nat _ 45 c' → oc.data = .fields vs → vs[1]? = some (.str qW t7) → Q (.str r t') { s with heap := h', toks := tk }) :
    wpAny (model PySem.Challenge.rw_ff5031_01.row.prog w) A (call (.ref 50) [.str x t]) Q E s :=
  law_encW_miss (news := [(45, tabObj #[]), (52, o52)]) Fx (sub_news N (two_in h45 h52)) X T C (UpdF.head (by intro p hp; rw [List.mem_singleton.mp hp]; show (52 : Nat) ≠ 45; decide)) hA hk hr hx fun h' tk c' oc vs t7 t' F' N' hl d1 d2 => k h' tk c' oc vs t7 t' F' N' (hl _ List.mem_cons_self) d1 d2
theorem encW_again {r : Str} {o52 oc : Obj} {c' : Addr} {vs : Array Value} {t7 : Tok} (Fx : Fr h₀ L s.heap m) (N : News h₀ L s.heap news) (X : (hd.heap_39 w.params).In h₀) (T : Top p loose mean mg mb h₀) (C : CodeHd h₀ 49 45) (h45 : (45, tabW c') ∈ news) (hc : (c', oc) ∈ news) (h52 : (52, o52) ∈ news)
    (hA : A = callerA.deeper (envOf nm sc L fa cd)) (hk : sc.kind = .function) (hr : strW x = r) (hx : x.cps.size ≤ 200) (hlt : @LT.lt Nat _ 45 c') (d1 : oc.data = .fields vs) (d2 : vs[1]? = some (.str qW t7))
    (k : ∀ h' tk t', Fr h₀ L h' m → News h₀ L h' [(45, tabW c'), (c', oc), (52, o52)] → Q (.str r t') { s with heap := h', toks := tk }) :
    wpAny (model PySem.Challenge.rw_ff5031_01.row.prog w) A (call (.ref 50) [.str x t]) Q E s :=
  law_encW_hit (news := [(45, tabW c'), (c', oc), (52, o52)]) Fx (sub_news N (three_in h45 hc h52)) X T C (UpdF.head (by
    intro p hp
    rcases List.mem_cons.mp hp with rfl | hp
    · exact Nat.ne_of_gt hlt
    · rw [List.mem_singleton.mp hp]; show (52 : Nat) ≠ 45; decide)) hA hk hr hx (List.mem_cons_of_mem _ List.mem_cons_self) hlt d1 d2 k
theorem law_same {prog : Program} {r : Str} {t1 t2 : Tok} (h : Q (.bool true) s) : wpAny (model prog w) A (compareOp .Eq (.str r t1) (.str r t2)) Q E s :=
  PyProof.Rows.eq_str (by rw [beq_self_eq_true]; exact h)
theorem law_bools {prog : Program} {a b : Bool} (e : a = b) (h : Q (.bool true) s) : wpAny (model prog w) A (compareOp .Eq (.bool a) (.bool b)) Q E s := by
  subst e
  refine PyProof.Rows.eq_bool ?_
  rw [beq_self_eq_true]; exact h
/-- two pairs that hold the same text and the same number -/
theorem law_pair {D1 D2 : Addr} {r : Str} {z : Int} {t1 t2 u1 u2 : Tok} {n1 n2 : Nat} (N : News h₀ L s.heap news) (hA : A = callerA.deeper (envOf nm sc L fa cd)) (m1 : (D1, ({ cls := .type "tuple", data := .seq #[.str r t1, .int z u1] n1 } : Obj)) ∈ news) (m2 : (D2, ({ cls := .type "tuple", data := .seq #[.str r t2, .int z u2] n2 } : Obj)) ∈ news)
    (h : Q (.bool true) s) : wpAny (model PySem.Challenge.rw_ff5031_01.row.prog w) A (compareOp .Eq (.ref D1) (.ref D2)) Q E s := by
  subst hA
  refine eq_tupleAt (items := #[.str r t1, .int z u1]) (items2 := #[.str r t2, .int z u2]) (e := fun _ => true) ⟨_, (N _ m1).1, rfl, _, rfl⟩ ⟨_, (N _ m2).1, rfl, _, rfl⟩ (by show callerA.units + 3 < cLine; decide) ?_ h
  intro j h1 h2
  have hj : j = 0 ∨ j = 1 := by
    have : j < 2 := h1
    omega
  rcases hj with rfl | rfl
  · exact eqAt_str r t1 t2
  · exact eqAt_int z u1 u2
end
end Mine
end
-- part FLaw
section
open PySem PySem.Spec PySem.Calls PySem.W PyProof.Rows
namespace Mine
local macro_rules | `(tactic| walk_at "CompSrc") => `(tactic| (k_here; k_dflt (refine LCg.CompSrc.ledger (by rfl) (by k_asm) (by k_asm) (by k_mem) (by kcf_size) ?_; intro g'; (refine' kcs_list oneS (by assumption) (fun k' t' I' oI' C' oC' D' m' ys' h' tk' E' hk' hC' hx' F' N' off' ne' => ?_) ?_); (all_goals (try (simp only [LCg.Off3, and_true] at off'))); (all_goals (try k_fold)))))
local macro_rules | `(tactic| walk_at "CompSrc") => `(tactic| (k_here; (with_reducible show LCg.CompSrc _ _ _ _ _ _ _ (Expr.Call (Expr.Name ("_law_sign" : PySem.Str) _) _ _ _) _ _ _ _ _ _); k_dflt (refine LCg.CompSrc.ledger (by rfl) (by k_asm) (by k_asm) (by k_mem) (by kcf_size) ?_; intro g'; (refine' kcs_list signS (by first | with_reducible assumption | l_ints) (fun k' t' I' oI' C' oC' D' m' ys' h' tk' E' hk' hC' hx' F' N' off' ne' => ?_) ?_); (all_goals (try (simp only [LCg.Off3, and_true] at off'))); (all_goals (try k_fold)))))
local macro_rules | `(tactic| walk_at "call ref") => `(tactic| (k_here; (with_reducible show wpAny _ _ (call (Value.ref 131) _) _ _ _); k_dflt (refine' law_sign ?F ?N ?X ?T ?B rfl ?hk ?_; (case F => k_asm); (case N => k_asm); (case X => k_asm); (case T => k_asm); (case B => k_asm); (case hk => rfl)); intro h9' tk9' t9' F' N'))
local macro_rules | `(tactic| walk_at "call ref") => `(tactic| (k_here; (with_reducible show wpAny _ _ (call (Value.ref 138) [Value.str _ _]) _ _ _); k_dflt (refine' law_unitsF ?F ?N ?X ?T ?B rfl ?hk ?h1 ?_; (case F => k_asm); (case N => k_asm); (case X => k_asm); (case T => k_asm); (case B => k_asm); (case hk => rfl); (case h1 => with_reducible assumption)); intro u9' us9' n9' h9' tk9' F' N' l1 ns9 j9 a9 d9 v9 w9 hi9' ⟨f1, f2, f3, f4, f5, f6, f7, f8, f9, f10, f11, f12, f13, f14, f15, f16, f17, f18, f19, f20, f21, f22, f23, f24, f25, f26⟩; clear l1))
local macro_rules | `(tactic| walk_at "call ref") => `(tactic| (k_here; (with_reducible show wpAny _ _ (call (Value.ref 145) _) _ _ _); k_dflt (refine' law_joinedF ?F ?N ?X ?T ?B rfl ?hk ?hm ?hi ?h1 ?h2 ?h3 ?_; (case F => k_asm); (case N => k_asm); (case X => k_asm); (case T => k_asm); (case B => k_asm); (case hk => rfl); (case hm => k_mem); (case hi => with_reducible assumption); (case h1 => with_reducible assumption); (case h2 => with_reducible assumption); (case h3 => with_reducible assumption)); intro h9' tk9' t9' F' N'))
local macro_rules | `(tactic| walk_at "call ref") => `(tactic| (k_here; (with_reducible show wpAny _ _ (call (Value.ref 152) _) _ _ _); k_dflt (refine' law_spelledF ?F ?N ?X ?T ?B rfl ?hk ?hm ?hi ?h1 ?h2 ?h3 ?_; (case F => k_asm); (case N => k_asm); (case X => k_asm); (case T => k_asm); (case B => k_asm); (case hk => rfl); (case hm => k_mem); (case hi => with_reducible assumption); (case h1 => with_reducible assumption); (case h2 => with_reducible assumption); (case h3 => with_reducible assumption)); intro h9' tk9' t9' F' N'))
local macro_rules | `(tactic| walk_at "call ref") => `(tactic| (k_here; (with_reducible show wpAny _ _ (call (Value.ref 123) [Value.str _ _, Value.int _ _]) _ _ _); k_dflt (refine' law_scan ?F ?N ?X ?T ?B rfl ?hk ?hr ?_; (case F => k_asm); (case N => k_asm); (case X => k_asm); (case T => k_asm); (case B => k_asm); (case hk => rfl); (case hr => with_reducible assumption)); intro D9' h9' tk9' t9' u9' n9' F' N' l1; clear l1))
local macro_rules | `(tactic| walk_at "call ref") => `(tactic| (k_here; (with_reducible show wpAny _ _ (call (Value.ref 123) [Value.str _ _, Value.int _ _, _, _]) _ _ _); k_dflt (refine' law_near ?F ?N ?X ?T ?B rfl ?hk ?hr ?_; (case F => k_asm); (case N => k_asm); (case X => k_asm); (case T => k_asm); (case B => k_asm); (case hk => rfl); (case hr => with_reducible assumption)); intro D9' h9' tk9' t9' u9' n9' F' N' l1; clear l1))
local macro_rules | `(tactic| walk_at "call builtin:str.join") => `(tactic| (k_here; (with_reducible show wpAny _ _ (call (Value.builtin "str.join") [Value.str _ _, Value.ref _]) _ _ _); (refine' law_join ?N ?e ?m ?i ?r ?z ?_; (case N => k_asm); (case e => decide +kernel); (case i => with_reducible assumption); (case m => k_mem); (case r => with_reducible assumption); (case z => with_reducible assumption)); intro t9' k9'))
local macro_rules | `(tactic| walk_at "call builtin:str.join") => `(tactic| (k_here; (with_reducible show wpAny _ _ (call (Value.builtin "str.join") [Value.str _ _, Value.ref _]) _ _ _); (refine' law_text ?N ?e ?m ?i ?_; (case N => k_asm); (case e => decide +kernel); (case i => with_reducible assumption); (case m => k_mem)); intro y9 t9' k9' hy9 hs9'))
local macro_rules | `(tactic| walk_at "call ref") => `(tactic| (k_here; (with_reducible show wpAny _ _ (call (Value.ref 57) _) _ _ _); k_dflt (refine' encA_again ?F ?N ?X ?T ?C ?h52 ?hc ?h45 rfl ?hk ?hr ?x ?lt ?d1 ?d2 ?ch ?t2 ?t3 ?t4 ?t5 ?_; (case F => k_asm); (case N => k_asm); (case X => k_asm); (case T => k_asm); (case C => with_reducible assumption); (case h52 => k_mem); (case hc => k_mem); (case h45 => k_mem); (case hk => rfl); (case hr => with_reducible assumption); (case x => with_reducible assumption); (case lt => with_reducible assumption); (case d1 => with_reducible assumption); (case d2 => with_reducible assumption); (case ch => with_reducible assumption); (case t2 => exact key2); (case t3 => exact key3); (case t4 => exact key4); (case t5 => exact key5)); intro h9' tk9' t9' F' N'))
local macro_rules | `(tactic| walk_at "call ref") => `(tactic| (k_here; (with_reducible show wpAny _ _ (call (Value.ref 57) _) _ _ _); k_dflt (refine' encA_first ?F ?N ?X ?T ?C ?h52 ?h45 rfl ?hk ?hr ?x ?ch ?t2 ?t3 ?t4 ?t5 ?_; (case F => k_asm); (case N => k_asm); (case X => k_asm); (case T => k_asm); (case C => with_reducible assumption); (case h52 => k_mem); (case h45 => k_mem); (case hk => rfl); (case hr => with_reducible assumption); (case x => with_reducible assumption); (case ch => with_reducible assumption); (case t2 => exact key2); (case t3 => exact key3); (case t4 => exact key4); (case t5 => exact key5)); intro h9' tk9' c9' oc9' vs9' t7' t9' F' N' l1 d1' d2'))
local macro_rules | `(tactic| walk_at "call ref") => `(tactic| (k_here; (with_reducible show wpAny _ _ (call (Value.ref 50) _) _ _ _); k_dflt (refine' encW_again ?F ?N ?X ?T ?C ?h45 ?hc ?h52 rfl ?hk ?hr ?x ?lt ?d1 ?d2 ?_; (case F => k_asm); (case N => k_asm); (case X => k_asm); (case T => k_asm); (case C => with_reducible assumption); (case h45 => k_mem); (case hc => k_mem); (case h52 => k_mem); (case hk => rfl); (case hr => with_reducible assumption); (case x => with_reducible assumption); (case lt => with_reducible assumption); (case d1 => with_reducible assumption); (case d2 => with_reducible assumption)); intro h9' tk9' t9' F' N'))
local macro_rules | `(tactic| walk_at "call ref") => `(tactic| (k_here; (with_reducible show wpAny _ _ (call (Value.ref 50) _) _ _ _); k_dflt (refine' encW_first ?F ?N ?X ?T ?C ?h45 ?h52 rfl ?hk ?hr ?x ?_; (case F => k_asm); (case N => k_asm); (case X => k_asm); (case T => k_asm); (case C => with_reducible assumption); (case h45 => k_mem); (case h52 => k_mem); (case hk => rfl); (case hr => with_reducible assumption); (case x => with_reducible assumption)); intro h9' tk9' c9' oc9' vs9' t7' t9' F' N' l1 d1' d2'))
local macro_rules | `(tactic| walk_at "KCsEl") => `(tactic| exact kcs_el rfl)
local macro_rules | `(tactic| walk_at "CompEnd") => `(tactic| (refine' LCg.CompEnd.intro ?F ?N _ ?sub ?off ?hS (kcs_el rfl); (case F => k_asm); (case N => k_asm); (case sub => kcf_all); (case off => first | with_reducible assumption | (simp only [LCg.Off3, and_true]; done) | (simp only [LCg.Off3, and_true]; assumption)); (case hS => first | lcg_src | assumption)))
local macro_rules | `(tactic| walk_at "call builtin:chr") => `(tactic| (k_here; (refine' law_chr ?m ?a ?_; (case m => with_reducible assumption); (case a => with_reducible assumption))))
local macro_rules | `(tactic| walk_at "call builtin:len") => `(tactic| (k_here; (with_reducible show wpAny _ _ (call _ [Value.str _ _]) _ _ _); refine' law_len ?h ?_; (case h => with_reducible assumption)))
local macro_rules | `(tactic| walk_at "inplaceOp Add str str") => `(tactic| (k_here; refine' law_iadd ?h ?_; (case h => with_reducible assumption); intro y9 t9' k9' hs9'))
local macro_rules | `(tactic| walk_at "compareOp Eq ref ref") => `(tactic| (k_here; refine' law_pair ?N rfl ?a ?b ?_; (case N => k_asm); (case a => k_mem); (case b => k_mem)))
local macro_rules | `(tactic| walk_at "compareOp Eq str str") => `(tactic| (k_here; with_reducible refine law_same ?_))
local macro_rules | `(tactic| walk_at "compareOp Eq bool bool") => `(tactic| (k_here; refine law_bools (by with_reducible assumption) ?_))
set_option maxRecDepth 100000 in
set_option maxHeartbeats 8000000 in
theorem law0 : PySem.Challenge.rw_ff5031_01.Holds := hd (by
  k_with_none
  w_top off
  k_go0
  all_goals try k_fold
  k_steps)
end Mine
end
theorem PySem.Challenge.cw_ff5031_01_holds : PySem.Challenge.rw_ff5031_01.Holds := by
  exact Mine.law0

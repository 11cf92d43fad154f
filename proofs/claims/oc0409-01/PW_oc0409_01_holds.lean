import PyProof.Rows.All
import Wide.All
import OpenK.AllK
import Wide.FinOn
import PySem.Builtin.Re_Pattern.W2All
import PySem.Challenge.RW_oc0409_01
set_option Elab.async false
namespace Mine
open PySem PySem.Sre

def Go (n : Nat) (m m' : M) : Prop := M.runFor n m = m'

theorem runFor_done {m : M} (h : m.outcome.isSome = true) : ∀ n, M.runFor n m = m
  | 0 => rfl
  | n + 1 => by simp [M.runFor, h]

theorem runFor_add (m : M) : ∀ (a b : Nat), M.runFor (a + b) m = M.runFor b (M.runFor a m)
  | 0, b => by rw [Nat.zero_add]; rfl
  | a + 1, b => by
    rw [Nat.succ_add]
    by_cases h : m.outcome.isSome = true
    · simp [M.runFor, h, runFor_done h]
    · simp only [M.runFor, h, Bool.false_eq_true, if_false]
      exact runFor_add m.step a b

theorem Go.trans {a b : Nat} {m m' m'' : M} (h : Go a m m') (h' : Go b m' m'') : Go (a + b) m m'' := by
  unfold Go at *
  rw [runFor_add, h, h']

theorem Go.one {m m' : M} (h0 : m.outcome = none) (e : m.step = m') : Go 1 m m' := by
  unfold Go
  simp [M.runFor, h0, e]

theorem Go.nil (m : M) : Go 0 m m := rfl

theorem lit_ok {m : M} (c : Nat) (h0 : m.outcome = none) (h1 : m.answer = none) (h2 : m.pc < m.code.size) (h3 : m.code.getD m.pc 0 = 16) (hc : m.code.getD (m.pc + 1) 0 = c)
    (h4 : m.pos < m.lim) (h5 : m.text.getD m.pos 0 = c) : Go 1 m { m with seen := m.seen.add 16, pc := m.pc + 2, pos := m.pos + 1 } := by
  refine Go.one h0 ?_
  have h4' : ¬ m.lim ≤ m.pos := by omega
  have e3 : (ops[16]? : Option Op) = some .LITERAL := rfl
  simp [M.step, h0, h1, h2, M.exec, M.word, h3, h4', accepts, itemWidth, e3, hc, h5, -Array.getD_eq_getD_getElem?]

theorem lit_no {m : M} (c : Nat) (h0 : m.outcome = none) (h1 : m.answer = none) (h2 : m.pc < m.code.size) (h3 : m.code.getD m.pc 0 = 16) (hc : m.code.getD (m.pc + 1) 0 = c)
    (h5 : m.pos < m.lim → m.text.getD m.pos 0 ≠ c) : Go 1 m { m with seen := m.seen.add 16, answer := some false } := by
  refine Go.one h0 ?_
  have e3 : (ops[16]? : Option Op) = some .LITERAL := rfl
  by_cases h4 : m.lim ≤ m.pos
  · simp [M.step, h0, h1, h2, M.exec, M.word, h3, h4, e3, M.say, -Array.getD_eq_getD_getElem?]
  · have h5' : (m.text.getD m.pos 0 == c) = false := by simpa using h5 (by omega)
    simp [M.step, h0, h1, h2, M.exec, M.word, h3, h4, accepts, e3, hc, h5', M.say, -Array.getD_eq_getD_getElem?]

theorem jump {m : M} (h0 : m.outcome = none) (h1 : m.answer = none) (h2 : m.pc < m.code.size) (h3 : m.code.getD m.pc 0 = 15) :
    Go 1 m { m with seen := m.seen.add 15, pc := m.pc + 1 + m.code.getD (m.pc + 1) 0 } := by
  refine Go.one h0 ?_
  have e3 : (ops[15]? : Option Op) = some .JUMP := rfl
  simp [M.step, h0, h1, h2, M.exec, M.word, h3, e3, -Array.getD_eq_getD_getElem?]

theorem success {m : M} (h0 : m.outcome = none) (h1 : m.answer = none) (h2 : m.pc < m.code.size) (h3 : m.code.getD m.pc 0 = 1) (h4 : m.wholeText = false)
    (h5 : m.mustAdvance = false ∨ m.pos ≠ m.start) :
    Go 1 m { m with seen := m.seen.add 1, handed := m.pos, answer := some true } := by
  refine Go.one h0 ?_
  have e3 : (ops[1]? : Option Op) = some .SUCCESS := rfl
  have h5' : (m.mustAdvance && m.pos == m.start) = false := by
    rcases h5 with h | h
    · rw [h]; rfl
    · simp [h]
  simp [M.step, h0, h1, h2, M.exec, M.word, h3, e3, h4, h5', M.say, -Array.getD_eq_getD_getElem?]

theorem at_line {m : M} (b : Bool) (h0 : m.outcome = none) (h1 : m.answer = none) (h2 : m.pc < m.code.size) (h3 : m.code.getD m.pc 0 = 6) (hc : m.code.getD (m.pc + 1) 0 = 1)
    (hb : (m.pos == 0 || m.text.getD (m.pos - 1) 0 == 10) = b) :
    Go 1 m (if b then { m with seen := (m.seen.add 6).add 44, pc := m.pc + 2 } else { m with seen := (m.seen.add 6).add 44, answer := some false }) := by
  refine Go.one h0 ?_
  have e3 : (ops[6]? : Option Op) = some .AT := rfl
  simp only [M.step, h0, h1, h2, M.exec, M.word, Nat.add_zero, h3, e3, hc, M.isAt, hb, M.say, Option.isSome_none, Bool.false_eq_true, if_false, if_true]

theorem ended {m : M} (b : Bool) (h0 : m.outcome = none) (h1 : m.answer = some b) (h2 : m.frames = []) : Go 1 m { m with outcome := some (if b then .matched else .failed) } := by
  refine Go.one h0 ?_
  simp [M.step, h0, h1, h2]

theorem branch {m : M} (h0 : m.outcome = none) (h1 : m.answer = none) (h2 : m.pc < m.code.size) (h3 : m.code.getD m.pc 0 = 7) (h4 : m.code.getD (m.pc + 1) 0 ≠ 0) (hi : m.inner = none) (hw : m.weight < 1000) :
    Go 1 m { m with seen := m.seen.add 7, frames := { wait := .nextBranch, pc := m.pc + 1, pos := m.pos, outermost := m.outermost, kept := { lastmark := m.lastmark, lastindex := m.lastindex } } :: m.frames, weight := m.weight + 1, pc := m.pc + 2, handed := m.pos } := by
  refine Go.one h0 ?_
  have e3 : (ops[7]? : Option Op) = some .BRANCH := rfl
  have hw' : ¬ 16777216 < m.weight + 1 := by omega
  simp [M.step, h0, h1, h2, M.exec, M.word, h3, e3, M.alternative, h4, M.attempt, M.keep, hi, hw', M.frame, -Array.getD_eq_getD_getElem?]

theorem assertNot {m : M} (h0 : m.outcome = none) (h1 : m.answer = none) (h2 : m.pc < m.code.size) (h3 : m.code.getD m.pc 0 = 5) (h4 : m.code.getD (m.pc + 2) 0 = 0) (hi : m.inner = none) (hw : m.weight < 1000) :
    Go 1 m { m with seen := m.seen.add 5, frames := { wait := .lookNot, pc := m.pc, pos := m.pos, outermost := m.outermost, kept := { lastmark := m.lastmark, lastindex := m.lastindex } } :: m.frames, weight := m.weight + 1, pc := m.pc + 3, handed := m.pos, outermost := false } := by
  refine Go.one h0 ?_
  have e3 : (ops[5]? : Option Op) = some .ASSERT_NOT := rfl
  have hw' : ¬ 16777216 < m.weight + 1 := by omega
  simp [M.step, h0, h1, h2, M.exec, M.word, h3, e3, h4, M.attempt, M.keep, hi, hw', M.frame, -Array.getD_eq_getD_getElem?]

theorem back_branch_yes {m : M} {f : PySem.Sre.Frame} {fs : List PySem.Sre.Frame} (h0 : m.outcome = none) (h1 : m.answer = some true) (hf : m.frames = f :: fs) (hw : f.wait = .nextBranch ∨ f.wait = .nextStart) (hk : f.kept.marks = #[]) :
    Go 1 m { m with answer := some true, frames := fs, weight := m.weight - 1, pc := f.pc, pos := f.pos, outermost := f.outermost } := by
  refine Go.one h0 ?_
  rcases hw with hw | hw <;> simp [M.step, h0, h1, hf, M.resume, hw, M.say, hk]

theorem back_branch_no {m : M} {f : PySem.Sre.Frame} {fs : List PySem.Sre.Frame} (h0 : m.outcome = none) (h1 : m.answer = some false) (hf : m.frames = f :: fs) (hw : f.wait = .nextBranch) (hk : f.kept = { lastmark := m.lastmark, lastindex := m.lastindex })
    (j : Nat) (hj : f.pc + m.code.getD f.pc 0 = j) (hn : m.code.getD j 0 ≠ 0) (hw1 : 0 < m.weight) (hw2 : m.weight < 1000) :
    Go 1 m { m with answer := none, frames := { wait := .nextBranch, pc := j, pos := f.pos, outermost := f.outermost, kept := { lastmark := m.lastmark, lastindex := m.lastindex } } :: fs, weight := m.weight - 1 + 1, pc := j + 1, pos := f.pos, handed := f.pos, outermost := f.outermost } := by
  refine Go.one h0 ?_
  have hw' : ¬ 16777216 < m.weight - 1 + 1 := by omega
  simp [M.step, h0, h1, hf, M.resume, hw, M.putBack, hk, M.alternative, hj, hn, M.attempt, hw', M.frame, -Array.getD_eq_getD_getElem?]

theorem back_lookNot {m : M} {f : PySem.Sre.Frame} {fs : List PySem.Sre.Frame} (h0 : m.outcome = none) (h1 : m.answer = some false) (hf : m.frames = f :: fs) (hw : f.wait = .lookNot) (hk : f.kept = { lastmark := m.lastmark, lastindex := m.lastindex })
    (j : Nat) (hj : m.code.getD (f.pc + 1) 0 = j) :
    Go 1 m { m with answer := none, frames := fs, weight := m.weight - 1, pc := f.pc + 1 + j, pos := f.pos, outermost := f.outermost } := by
  refine Go.one h0 ?_
  simp [M.step, h0, h1, hf, M.resume, hw, M.putBack, hk, M.word, hj, -Array.getD_eq_getD_getElem?]

end Mine

namespace Mine
open PySem PySem.Sre

def code1 : Array Nat := #[14, 4, 0, 1, 1, 6, 1, 16, 46, 1]
def code2 : Array Nat := #[14, 9, 4, 1, 2, 16, 10, 16, 13, 0, 7, 7, 16, 13, 16, 10, 15, 18, 5, 16, 10, 15, 13, 11, 16, 13, 5, 5, 0, 16, 10, 1, 15, 2, 0, 1]

theorem inSet2 (c : Nat) (seen : Seen) : ∃ sn, inSet code2 c code2.size 5 true seen = .ok (c == 10 || c == 13, sn) := by
  have e1 : inSet code2 c code2.size 5 true seen = (if c == 10 then .ok (true, seen.add 16) else
      if c == 13 then .ok (true, (seen.add 16).add 16) else .ok (false, ((seen.add 16).add 16).add 0)) := rfl
  rw [e1]
  cases h : c == 10
  · cases h' : c == 13
    · exact ⟨_, rfl⟩
    · exact ⟨_, rfl⟩
  · exact ⟨_, rfl⟩

theorem admitted_some {m : M} (hc : m.code = code2) {s : Nat} (hs : s < m.lim) (he : (m.text.getD s 0 == 10 || m.text.getD s 0 == 13) = true) :
    ∀ (k p fuel : Nat) (seen : Seen), p + k = s → k < fuel → (∀ j, p ≤ j → j < s → (m.text.getD j 0 == 10 || m.text.getD j 0 == 13) = false) → ∃ sn, M.admitted m fuel p seen = .ok (some s, sn)
  | k, p, 0, seen, _, h, _ => absurd h (Nat.not_lt_zero _)
  | 0, p, fuel + 1, seen, e, _, _ => by
    obtain rfl : p = s := by omega
    obtain ⟨sn, h⟩ := inSet2 (m.text.getD p 0) seen
    have h4 : ¬ p ≥ m.lim := by omega
    refine ⟨sn, ?_⟩
    simp only [M.admitted, if_neg h4]
    rw [hc, h, he]
  | k + 1, p, fuel + 1, seen, e, hf, hno => by
    obtain ⟨sn, h⟩ := inSet2 (m.text.getD p 0) seen
    have h4 : ¬ p ≥ m.lim := by omega
    obtain ⟨sn', h'⟩ := admitted_some hc hs he k (p + 1) fuel sn (by omega) (by omega) fun j h1 h2 => hno j (by omega) h2
    refine ⟨sn', ?_⟩
    simp only [M.admitted, if_neg h4]
    rw [hc, h, hno p (Nat.le_refl _) (by omega)]
    exact h'

theorem admitted_none {m : M} (hc : m.code = code2) :
    ∀ (fuel p : Nat) (seen : Seen), (∀ j, p ≤ j → j < m.lim → (m.text.getD j 0 == 10 || m.text.getD j 0 == 13) = false) → ∃ sn, M.admitted m fuel p seen = .ok (none, sn)
  | 0, p, seen, _ => ⟨seen, rfl⟩
  | fuel + 1, p, seen, hno => by
    by_cases h4 : p ≥ m.lim
    · exact ⟨seen, by simp only [M.admitted, if_pos h4]⟩
    · obtain ⟨sn, h⟩ := inSet2 (m.text.getD p 0) seen
      obtain ⟨sn', h'⟩ := admitted_none hc fuel (p + 1) sn fun j h1 h2 => hno j (by omega) h2
      refine ⟨sn', ?_⟩
      simp only [M.admitted, if_neg h4]
      rw [hc, h, hno p (Nat.le_refl _) (by omega)]
      exact h'

/-- a machine's state, by the parts that turn -/
def mk (code text : Array Nat) (lim start : Nat) (must : Bool) (pc pos handed : Nat) (om : Bool) (fr : List PySem.Sre.Frame) (wt : Nat) (ans : Option Bool) (sn : Seen) : M :=
  { code, text, lim, start, lastStart := lim, mustAdvance := must, pc, pos, handed, outermost := om, marks := #[], frames := fr, weight := wt, answer := ans, seen := sn }
abbrev frB (pc pos : Nat) (om : Bool) : PySem.Sre.Frame := { wait := .nextBranch, pc, pos, outermost := om }
abbrev frN (pc pos : Nat) (om : Bool) : PySem.Sre.Frame := { wait := .lookNot, pc, pos, outermost := om }
abbrev frS (pc pos : Nat) (om : Bool) : PySem.Sre.Frame := { wait := .nextStart, pc, pos, outermost := om }

section
variable {code text : Array Nat} {lim start : Nat} {must : Bool} {pc pos handed : Nat} {om : Bool} {fr : List PySem.Sre.Frame} {wt : Nat} {sn : Seen}
theorem k_lit {m' : M} {n : Nat} (c : Nat) (h2 : pc < code.size) (h3 : code.getD pc 0 = 16) (hc : code.getD (pc + 1) 0 = c) (h4 : pos < lim) (h5 : text.getD pos 0 = c)
    (k : Go n (mk code text lim start must (pc + 2) (pos + 1) handed om fr wt none (sn.add 16)) m') : Go (1 + n) (mk code text lim start must pc pos handed om fr wt none sn) m' :=
  Go.trans (lit_ok (m := mk code text lim start must pc pos handed om fr wt none sn) c rfl rfl h2 h3 hc h4 h5) k
theorem k_litNo {m' : M} {n : Nat} (c : Nat) (h2 : pc < code.size) (h3 : code.getD pc 0 = 16) (hc : code.getD (pc + 1) 0 = c) (h5 : pos < lim → text.getD pos 0 ≠ c)
    (k : Go n (mk code text lim start must pc pos handed om fr wt (some false) (sn.add 16)) m') : Go (1 + n) (mk code text lim start must pc pos handed om fr wt none sn) m' :=
  Go.trans (lit_no (m := mk code text lim start must pc pos handed om fr wt none sn) c rfl rfl h2 h3 hc h5) k
theorem k_jump {m' : M} {n : Nat} (j : Nat) (h2 : pc < code.size) (h3 : code.getD pc 0 = 15) (hj : pc + 1 + code.getD (pc + 1) 0 = j)
    (k : Go n (mk code text lim start must j pos handed om fr wt none (sn.add 15)) m') : Go (1 + n) (mk code text lim start must pc pos handed om fr wt none sn) m' := by
  subst hj
  exact Go.trans (jump (m := mk code text lim start must pc pos handed om fr wt none sn) rfl rfl h2 h3) k
theorem k_success {m' : M} {n : Nat} (h2 : pc < code.size) (h3 : code.getD pc 0 = 1) (h5 : must = false ∨ pos ≠ start)
    (k : Go n (mk code text lim start must pc pos pos om fr wt (some true) (sn.add 1)) m') : Go (1 + n) (mk code text lim start must pc pos handed om fr wt none sn) m' :=
  Go.trans (success (m := mk code text lim start must pc pos handed om fr wt none sn) rfl rfl h2 h3 rfl h5) k
theorem k_at {m' : M} {n : Nat} (h2 : pc < code.size) (h3 : code.getD pc 0 = 6) (hc : code.getD (pc + 1) 0 = 1) (hb : (pos == 0 || text.getD (pos - 1) 0 == 10) = true)
    (k : Go n (mk code text lim start must (pc + 2) pos handed om fr wt none ((sn.add 6).add 44)) m') : Go (1 + n) (mk code text lim start must pc pos handed om fr wt none sn) m' :=
  Go.trans (at_line (m := mk code text lim start must pc pos handed om fr wt none sn) true rfl rfl h2 h3 hc hb) k
theorem k_atNo {m' : M} {n : Nat} (h2 : pc < code.size) (h3 : code.getD pc 0 = 6) (hc : code.getD (pc + 1) 0 = 1) (hb : (pos == 0 || text.getD (pos - 1) 0 == 10) = false)
    (k : Go n (mk code text lim start must pc pos handed om fr wt (some false) ((sn.add 6).add 44)) m') : Go (1 + n) (mk code text lim start must pc pos handed om fr wt none sn) m' :=
  Go.trans (at_line (m := mk code text lim start must pc pos handed om fr wt none sn) false rfl rfl h2 h3 hc hb) k
theorem k_branch {m' : M} {n : Nat} (h2 : pc < code.size) (h3 : code.getD pc 0 = 7) (h4 : code.getD (pc + 1) 0 ≠ 0) (hw : wt < 1000)
    (k : Go n (mk code text lim start must (pc + 2) pos pos om (frB (pc + 1) pos om :: fr) (wt + 1) none (sn.add 7)) m') : Go (1 + n) (mk code text lim start must pc pos handed om fr wt none sn) m' :=
  Go.trans (branch (m := mk code text lim start must pc pos handed om fr wt none sn) rfl rfl h2 h3 h4 rfl hw) k
theorem k_not {m' : M} {n : Nat} (h2 : pc < code.size) (h3 : code.getD pc 0 = 5) (h4 : code.getD (pc + 2) 0 = 0) (hw : wt < 1000)
    (k : Go n (mk code text lim start must (pc + 3) pos pos false (frN pc pos om :: fr) (wt + 1) none (sn.add 5)) m') : Go (1 + n) (mk code text lim start must pc pos handed om fr wt none sn) m' :=
  Go.trans (assertNot (m := mk code text lim start must pc pos handed om fr wt none sn) rfl rfl h2 h3 h4 rfl hw) k
theorem k_yesB {m' : M} {n pc' pos' : Nat} {om' : Bool} (k : Go n (mk code text lim start must pc' pos' handed om' fr (wt - 1) (some true) sn) m') :
    Go (1 + n) (mk code text lim start must pc pos handed om (frB pc' pos' om' :: fr) wt (some true) sn) m' :=
  Go.trans (back_branch_yes (m := mk code text lim start must pc pos handed om (frB pc' pos' om' :: fr) wt (some true) sn) rfl rfl rfl (.inl rfl) rfl) k
theorem k_yesS {m' : M} {n pc' pos' : Nat} {om' : Bool} (k : Go n (mk code text lim start must pc' pos' handed om' fr (wt - 1) (some true) sn) m') :
    Go (1 + n) (mk code text lim start must pc pos handed om (frS pc' pos' om' :: fr) wt (some true) sn) m' :=
  Go.trans (back_branch_yes (m := mk code text lim start must pc pos handed om (frS pc' pos' om' :: fr) wt (some true) sn) rfl rfl rfl (.inr rfl) rfl) k
theorem k_noB {m' : M} {n pc' pos' : Nat} {om' : Bool} (j : Nat) (hj : pc' + code.getD pc' 0 = j) (hn : code.getD j 0 ≠ 0) (hw1 : 0 < wt) (hw2 : wt < 1000)
    (k : Go n (mk code text lim start must (j + 1) pos' pos' om' (frB j pos' om' :: fr) (wt - 1 + 1) none sn) m') :
    Go (1 + n) (mk code text lim start must pc pos handed om (frB pc' pos' om' :: fr) wt (some false) sn) m' :=
  Go.trans (back_branch_no (m := mk code text lim start must pc pos handed om (frB pc' pos' om' :: fr) wt (some false) sn) rfl rfl rfl rfl rfl j hj hn hw1 hw2) k
theorem k_noN {m' : M} {n pc' pos' : Nat} {om' : Bool} (j : Nat) (hj : pc' + 1 + code.getD (pc' + 1) 0 = j)
    (k : Go n (mk code text lim start must j pos' handed om' fr (wt - 1) none sn) m') :
    Go (1 + n) (mk code text lim start must pc pos handed om (frN pc' pos' om' :: fr) wt (some false) sn) m' := by
  subst hj
  exact Go.trans (back_lookNot (m := mk code text lim start must pc pos handed om (frN pc' pos' om' :: fr) wt (some false) sn) rfl rfl rfl rfl rfl _ rfl) k
theorem k_end (b : Bool) : Go 1 (mk code text lim start must pc pos handed om [] wt (some b) sn) { mk code text lim start must pc pos handed om [] wt (some b) sn with outcome := some (if b then .matched else .failed) } :=
  ended (m := mk code text lim start must pc pos handed om [] wt (some b) sn) b rfl rfl rfl
end

/-- the machine that looks for an end of a row, at its first place -/
def at2 (text : Array Nat) (lim s : Nat) (sn : Seen) : M := mk code2 text lim s false 10 s s true [frS 10 s true] 1 none sn

theorem forSearch2 (text : Array Nat) (pos lim : Nat) (must : Bool) (h : pos < lim) : ∃ m : M, m.code = code2 ∧ m.text = text ∧ m.lim = lim ∧
    (∀ s sn, M.admitted m (lim + 1 - pos) pos m.seen = .ok (some s, sn) → forSearch code2 text 0 pos lim must = at2 text lim s sn) ∧
    (∀ sn, M.admitted m (lim + 1 - pos) pos m.seen = .ok (none, sn) → (forSearch code2 text 0 pos lim must).outcome = none ∧ (forSearch code2 text 0 pos lim must).answer = some false ∧ (forSearch code2 text 0 pos lim must).frames = []) := by
  have h1 : (pos > lim || lim - pos < 1) = false := by simp; omega
  let m : M := { code := code2, text := text, lim := lim, start := pos, lastStart := lim, pc := 10, pos := pos, handed := pos, marks := #[], mustAdvance := must, seen := ({} : Seen).add 14 }
  have e : forSearch code2 text 0 pos lim must = m.attemptFrom pos true := by
    have e0 : forSearch code2 text 0 pos lim must = if (pos > lim || lim - pos < 1) = true then ({ m with lastStart := 0 } : M).say false else m.attemptFrom pos true := rfl
    rw [e0, h1]
    rfl
  have hf : m.hasFirstSet = true := rfl
  refine ⟨m, rfl, rfl, rfl, fun s sn ha => ?_, fun sn ha => ?_⟩
  · rw [e]
    unfold M.attemptFrom
    rw [hf]
    show (match M.admitted m (lim + 1 - pos) pos m.seen with | .ok (some s, seen) => _ | .ok (none, seen) => _ | .error why => _) = _
    rw [ha]
    rfl
  · have e4 : m.attemptFrom pos true = ({ m with seen := sn } : M).say false := by
      unfold M.attemptFrom
      rw [hf]
      show (match M.admitted m (lim + 1 - pos) pos m.seen with | .ok (some s, seen) => _ | .ok (none, seen) => _ | .error why => _) = _
      rw [ha]
    rw [e, e4]
    exact ⟨rfl, rfl, rfl⟩

/-- what a search hands on: it has met from s up to e -/
def Found (N : Nat) (m : M) (s e : Nat) : Prop := ∃ n m', n ≤ N ∧ Go n m m' ∧ m'.outcome = some .matched ∧ m'.start = s ∧ m'.handed = e
theorem Found.of {m m' : M} {N n s e : Nat} (g : Go n m m') (hn : n ≤ N) (ho : m'.outcome = some .matched) (h1 : m'.start = s) (h2 : m'.handed = e) : Found N m s e := ⟨n, m', hn, g, ho, h1, h2⟩

theorem run2_crlf {text : Array Nat} {lim s : Nat} {sn : Seen} (h1 : s + 1 < lim) (h2 : text.getD s 0 = 13) (h3 : text.getD (s + 1) 0 = 10) : Found 40 (at2 text lim s sn) s (s + 2) :=
  Found.of (
    k_branch (by decide) rfl (by decide) (by decide) <|
    k_lit 13 (by decide) rfl rfl (by omega) h2 <|
    k_lit 10 (by decide) rfl rfl (by omega) h3 <|
    k_jump 35 (by decide) rfl rfl <|
    k_success (by decide) rfl (.inl rfl) <|
    k_yesB <| k_yesS <| k_end true) (by decide) rfl rfl rfl

theorem run2_lf {text : Array Nat} {lim s : Nat} {sn : Seen} (h1 : s < lim) (h2 : text.getD s 0 = 10) : Found 40 (at2 text lim s sn) s (s + 1) :=
  Found.of (
    k_branch (by decide) rfl (by decide) (by decide) <|
    k_litNo 13 (by decide) rfl rfl (fun _ => by rw [h2]; decide) <|
    k_noB 18 rfl (by decide) (by decide) (by decide) <|
    k_lit 10 (by decide) rfl rfl h1 h2 <|
    k_jump 35 (by decide) rfl rfl <|
    k_success (by decide) rfl (.inl rfl) <|
    k_yesB <| k_yesS <| k_end true) (by decide) rfl rfl rfl

theorem run2_cr {text : Array Nat} {lim s : Nat} {sn : Seen} (h1 : s < lim) (h2 : text.getD s 0 = 13) (h3 : s + 1 < lim → text.getD (s + 1) 0 ≠ 10) : Found 40 (at2 text lim s sn) s (s + 1) :=
  Found.of (
    k_branch (by decide) rfl (by decide) (by decide) <|
    k_lit 13 (by decide) rfl rfl h1 h2 <|
    k_litNo 10 (by decide) rfl rfl h3 <|
    k_noB 18 rfl (by decide) (by decide) (by decide) <|
    k_litNo 10 (by decide) rfl rfl (fun _ => by rw [h2]; decide) <|
    k_noB 23 rfl (by decide) (by decide) (by decide) <|
    k_lit 13 (by decide) rfl rfl h1 h2 <|
    k_not (by decide) rfl rfl (by decide) <|
    k_litNo 10 (by decide) rfl rfl h3 <|
    k_noN 32 rfl <|
    k_jump 35 (by decide) rfl rfl <|
    k_success (by decide) rfl (.inl rfl) <|
    k_yesB <| k_yesS <| k_end true) (by decide) rfl rfl rfl
def Lost (N : Nat) (m : M) : Prop := ∃ n m', n ≤ N ∧ Go n m m' ∧ m'.outcome = some .failed

/-- the machine that looks for a dot at a row's beginning, at the place s -/
def at1 (text : Array Nat) (lim s : Nat) (must om : Bool) (sn : Seen) : M := mk code1 text lim s must 5 s s om [frS 5 s om] 1 none sn

theorem k_noS {text : Array Nat} {lim start : Nat} {must : Bool} {pc pos handed : Nat} {om : Bool} {sn : Seen} {m' : M} {n p : Nat} {om' : Bool} (hp : p < lim)
    (k : Go n (at1 text lim (p + 1) false false sn) m') : Go (1 + n) (mk code1 text lim start must pc pos handed om [frS 5 p om'] 1 (some false) sn) m' := by
  refine Go.trans (Go.one rfl ?_) k
  have e1 : (mk code1 text lim start must pc pos handed om [frS 5 p om'] 1 (some false) sn).step =
      if p < lim then at1 text lim (p + 1) false false sn else (mk code1 text lim start must 5 p handed om' [] 0 none sn).say false := rfl
  rw [e1, if_pos hp]
theorem k_noSEnd {text : Array Nat} {lim start : Nat} {must : Bool} {pc pos handed : Nat} {om : Bool} {sn : Seen} {m' : M} {n p : Nat} {om' : Bool} (hp : ¬ p < lim)
    (k : Go n (mk code1 text lim start must 5 p handed om' [] 0 (some false) sn) m') : Go (1 + n) (mk code1 text lim start must pc pos handed om [frS 5 p om'] 1 (some false) sn) m' := by
  refine Go.trans (Go.one rfl ?_) k
  have e1 : (mk code1 text lim start must pc pos handed om [frS 5 p om'] 1 (some false) sn).step =
      if p < lim then at1 text lim (p + 1) false false sn else (mk code1 text lim start must 5 p handed om' [] 0 none sn).say false := rfl
  rw [e1, if_neg hp]
  rfl

/-- a dot stands at s, at the text's beginning or behind a feed -/
def dotAt (text : Array Nat) (lim s : Nat) : Bool := (s == 0 || text.getD (s - 1) 0 == 10) && (decide (s < lim) && text.getD s 0 == 46)

theorem run1_yes {text : Array Nat} {lim s : Nat} {must om : Bool} {sn : Seen} (h : dotAt text lim s = true) : Found 8 (at1 text lim s must om sn) s (s + 1) := by
  simp only [dotAt, Bool.and_eq_true, decide_eq_true_eq, beq_iff_eq] at h
  exact Found.of (
    k_at (by decide) rfl rfl h.1 <|
    k_lit 46 (by decide) rfl rfl h.2.1 h.2.2 <|
    k_success (by decide) rfl (.inr (Nat.succ_ne_self s)) <|
    k_yesS <| k_end true) (by decide) rfl rfl rfl

theorem run1_no {text : Array Nat} {lim s : Nat} {must om : Bool} {sn : Seen} (h : dotAt text lim s = false) : ∃ n pc sn', n ≤ 2 ∧ ∀ n' m', Go n' (mk code1 text lim s must pc s s om [frS 5 s om] 1 (some false) sn') m' → Go (n + n') (at1 text lim s must om sn) m' := by
  by_cases ha : (s == 0 || text.getD (s - 1) 0 == 10) = true
  · refine ⟨2, 7, ((sn.add 6).add 44).add 16, Nat.le_refl _, fun n' m' k => ?_⟩
    rw [show 2 + n' = 1 + (1 + n') by omega]
    refine k_at (by decide) rfl rfl ha <| k_litNo 46 (by decide) rfl rfl (fun hl hc => ?_) k
    simp [dotAt, hl, hc, -Array.getD_eq_getD_getElem?] at h
    simp [h, -Array.getD_eq_getD_getElem?] at ha
  · exact ⟨1, 5, (sn.add 6).add 44, by decide, fun n' m' k => k_atNo (by decide) rfl rfl (by simpa using ha) k⟩

theorem search1_found {text : Array Nat} {lim : Nat} {s : Nat} (hs : dotAt text lim s = true) : ∀ (k p : Nat) (must om : Bool) (sn : Seen), p + k = s → (∀ j, p ≤ j → j < s → dotAt text lim j = false) →
    Found (3 * k + 8) (at1 text lim p must om sn) s (s + 1)
  | 0, p, must, om, sn, e, _ => by
    obtain rfl : p = s := by omega
    exact run1_yes hs
  | k + 1, p, must, om, sn, e, hno => by
    have hlim : s < lim := by simp only [dotAt, Bool.and_eq_true, decide_eq_true_eq] at hs; exact hs.2.1
    obtain ⟨n, pc, sn', hn, hk⟩ := run1_no (must := must) (om := om) (sn := sn) (hno p (Nat.le_refl _) (by omega))
    obtain ⟨n', m', hn', g, r⟩ := search1_found hs k (p + 1) false false sn' (by omega) fun j h1 h2 => hno j (by omega) h2
    exact ⟨n + (1 + n'), m', by omega, hk _ _ (k_noS (by omega) g), r⟩

theorem search1_lost {text : Array Nat} {lim : Nat} : ∀ (k p : Nat) (must om : Bool) (sn : Seen), p + k = lim → (∀ j, p ≤ j → j < lim → dotAt text lim j = false) → Lost (3 * k + 8) (at1 text lim p must om sn)
  | 0, p, must, om, sn, e, _ => by
    have hd : dotAt text lim p = false := by
      have : ¬ p < lim := by omega
      simp [dotAt, this]
    obtain ⟨n, pc, sn', hn, hk⟩ := run1_no (must := must) (om := om) (sn := sn) hd
    exact ⟨n + (1 + 1), _, by omega, hk _ _ (k_noSEnd (by omega) (k_end false)), rfl⟩
  | k + 1, p, must, om, sn, e, hno => by
    obtain ⟨n, pc, sn', hn, hk⟩ := run1_no (must := must) (om := om) (sn := sn) (hno p (Nat.le_refl _) (by omega))
    obtain ⟨n', m', hn', g, r⟩ := search1_lost k (p + 1) false false sn' (by omega) fun j h1 h2 => hno j (by omega) h2
    exact ⟨n + (1 + n'), m', by omega, hk _ _ (k_noS (by omega) g), r⟩

theorem forSearch1 (text : Array Nat) (pos lim : Nat) (must : Bool) (h : pos < lim) : forSearch code1 text 0 pos lim must = at1 text lim pos must true (({} : Seen).add 14) := by
  have h1 : (pos > lim || lim - pos < 1) = false := by simp; omega
  have e0 : forSearch code1 text 0 pos lim must = if (pos > lim || lim - pos < 1) = true then ({ code := code1, text, lim, start := pos, pc := 5, pos, handed := pos, marks := #[], mustAdvance := must, seen := ({} : Seen).add 14 } : M).say false else at1 text lim pos must true (({} : Seen).add 14) := rfl
  rw [e0, h1]
  rfl

theorem lost_of {m : M} (h0 : m.outcome = none) (h1 : m.answer = some false) (h2 : m.frames = []) : Lost 1 m := ⟨1, _, Nat.le_refl _, ended false h0 h1 h2, rfl⟩

theorem forSearch_short {code : Array Nat} (hc : code = code1 ∨ code = code2) (text : Array Nat) (pos lim : Nat) (must : Bool) (h : lim ≤ pos) : Lost 1 (forSearch code text 0 pos lim must) := by
  have h1 : (pos > lim || lim - pos < 1) = true := by simp; omega
  rcases hc with rfl | rfl
  · have e0 : forSearch code1 text 0 pos lim must = if (pos > lim || lim - pos < 1) = true then ({ code := code1, text, lim, start := pos, pc := 5, pos, handed := pos, marks := #[], mustAdvance := must, seen := ({} : Seen).add 14 } : M).say false else at1 text lim pos must true (({} : Seen).add 14) := rfl
    rw [e0, h1]
    exact lost_of rfl rfl rfl
  · have e0 : forSearch code2 text 0 pos lim must = if (pos > lim || lim - pos < 1) = true then ({ code := code2, text, lim, start := pos, pc := 10, pos, handed := pos, marks := #[], mustAdvance := must, seen := ({} : Seen).add 14 } : M).say false else
      ({ code := code2, text, lim, start := pos, lastStart := lim, pc := 10, pos, handed := pos, marks := #[], mustAdvance := must, seen := ({} : Seen).add 14 } : M).attemptFrom pos true := rfl
    rw [e0, h1]
    exact lost_of rfl rfl rfl

/-- the next end of a row -/
def endAt (text : Array Nat) (s : Nat) : Bool := text.getD s 0 == 10 || text.getD s 0 == 13
def endLen (text : Array Nat) (lim s : Nat) : Nat := if text.getD s 0 = 13 ∧ s + 1 < lim ∧ text.getD (s + 1) 0 = 10 then 2 else 1

theorem search2_found {text : Array Nat} {lim pos s : Nat} {must : Bool} (hp : pos ≤ s) (hs : s < lim) (he : endAt text s = true) (hno : ∀ j, pos ≤ j → j < s → endAt text j = false) :
    Found 40 (forSearch code2 text 0 pos lim must) s (s + endLen text lim s) := by
  obtain ⟨m, hc, ht, hl, hy, _⟩ := forSearch2 text pos lim must (by omega)
  obtain ⟨sn, ha⟩ := admitted_some (m := m) hc (s := s) (by rw [hl]; exact hs) (by rw [ht]; exact he) (s - pos) pos (lim + 1 - pos) m.seen (by omega) (by omega) (by rw [ht]; exact hno)
  rw [hy s sn ha]
  unfold endLen
  simp only [endAt, Bool.or_eq_true, beq_iff_eq] at he
  split
  · rename_i h; exact run2_crlf h.2.1 h.1 h.2.2
  · rename_i h
    rcases he with he | he
    · exact run2_lf hs he
    · exact run2_cr hs he fun h1 h2 => h ⟨he, h1, h2⟩

theorem search2_lost {text : Array Nat} {lim pos : Nat} {must : Bool} (hno : ∀ j, pos ≤ j → j < lim → endAt text j = false) : Lost 1 (forSearch code2 text 0 pos lim must) := by
  by_cases h : pos < lim
  · obtain ⟨m, hc, ht, hl, _, hn⟩ := forSearch2 text pos lim must h
    obtain ⟨sn, ha⟩ := admitted_none (m := m) hc (lim + 1 - pos) pos m.seen (by rw [ht, hl]; exact hno)
    obtain ⟨a, b, c⟩ := hn sn ha
    exact lost_of a b c
  · exact forSearch_short (.inr rfl) _ _ _ _ (by omega)
end Mine

namespace Mine
open PySem PySem.Sre PySem.Builtin PySem.Builtin.Re

section
variable {M : Model} {A : Around} {E : Value → Shared → Prop} {s : Shared}

theorem wpAny_reDrive : ∀ (turns N : Nat) (m m' : Sre.M) {Q : Sre.M → Shared → Prop}, Go N m m' → m'.outcome.isSome = true → N < 4 * turns → Q m' s → wpAny M A (reDrive turns m) Q E s
  | 0, N, m, m', Q, _, _, h, _ => absurd h (by omega)
  | t + 1, N, m, m', Q, g, ho, hN, hq => by
    unfold reDrive
    show wpAny M A (if (Sre.M.runFor 4 m).outcome.isSome = true then pure (Sre.M.runFor 4 m) else do rule "sre.turn"; reDrive t (Sre.M.runFor 4 m)) Q E s
    unfold Go at g
    by_cases h4 : (Sre.M.runFor 4 m).outcome.isSome = true
    · rw [if_pos h4]
      have e : Sre.M.runFor 4 m = m' := by
        by_cases hle : N ≤ 4
        · have : (4 : Nat) = N + (4 - N) := by omega
          rw [this, runFor_add, g, runFor_done ho]
        · have : N = 4 + (N - 4) := by omega
          rw [this, runFor_add, runFor_done h4] at g
          exact g
      rw [e]
      exact wpAny_pure hq
    · rw [if_neg h4]
      have hge : 4 ≤ N := by
        refine Nat.le_of_not_lt fun hlt => h4 ?_
        have : (4 : Nat) = N + (4 - N) := by omega
        rw [this, runFor_add, g, runFor_done ho]
        exact ho
      refine wpAny_bind (wpAny_rule ?_)
      refine wpAny_reDrive t (N - 4) _ m' ?_ ho (by omega) hq
      unfold Go
      have : N = 4 + (N - 4) := by omega
      rw [this, runFor_add] at g
      exact g

theorem wpAny_forRules {f : Nat → Bool} {g : Nat → String} {Q : PUnit → Shared → Prop} (h : Q ⟨⟩ s) : ∀ l : List Nat,
    wpAny M A (forIn l PUnit.unit fun i _ => (if f i = true then do rule (g i); pure (ForInStep.yield PUnit.unit) else pure (ForInStep.yield PUnit.unit))) Q E s
  | [] => wpAny_pure h
  | i :: l => by
    rw [List.forIn_cons]
    refine wpAny_bind ?_
    by_cases hf : f i = true
    · rw [if_pos hf]
      exact wpAny_bind (wpAny_rule (wpAny_pure (wpAny_forRules h l)))
    · rw [if_neg hf]
      exact wpAny_pure (wpAny_forRules h l)

theorem wpAny_reRun {m m' : Sre.M} {N : Nat} {Q : Option Sre.M → Shared → Prop} (g : Go N m m') (hN : N < 2 ^ 60) (h : (m'.outcome = some .matched ∧ Q (some m') s) ∨ (m'.outcome = some .failed ∧ Q none s)) :
    wpAny M A (reRunToEnd m) Q E s := by
  unfold reRunToEnd
  have hs : m'.outcome.isSome = true := by rcases h with h | h <;> rw [h.1] <;> rfl
  refine wpAny_bind (wpAny_reDrive (2 ^ 64) N m m' g hs (by omega) ?_)
  refine wpAny_bind ?_
  refine wpAny_forRules ?_ _
  rcases h with h | h
  · rw [h.1]; exact wpAny_pure h.2
  · rw [h.1]; exact wpAny_pure h.2
end
end Mine

namespace Mine
open PySem PySem.Sre PySem.Builtin PySem.Builtin.Re PyProof.Rows

def flat (l : List (Str × Tok)) : List Nat := l.flatMap fun p => p.1.cps.toList

theorem gluedFold_nil (e : Str) (he : e.cps = #[]) : ∀ (rest : List Str) (acc : Array Nat), (rest.foldl (fun acc p => acc ++ e.cps ++ p.cps) acc).toList = acc.toList ++ rest.flatMap (·.cps.toList)
  | [], acc => by simp
  | p :: r, acc => by
    rw [List.foldl_cons, gluedFold_nil e he r]
    simp [he]

theorem glued_nil (e : Str) (he : e.cps = #[]) (parts : List Str) : (Builtin.Str.glued e parts).cps.toList = parts.flatMap (·.cps.toList) := by
  cases parts with
  | nil => rfl
  | cons p r =>
    show (r.foldl (fun acc p => acc ++ e.cps ++ p.cps) p.cps).toList = _
    rw [gluedFold_nil e he]
    simp

theorem lens_le (e : Str) (he : e.cps = #[]) : ∀ (l : List (Str × Tok)) (n : Nat), ((l.map (·.1)).foldl (fun n s => n + s.length + e.length) n) = n + (flat l).length
  | [], n => by simp [flat]
  | p :: r, n => by
    rw [List.map_cons, List.foldl_cons, lens_le e he r]
    have : e.cps.size = 0 := by rw [he]; rfl
    simp [flat, this, Str.length]
    omega

section
variable {prog : Program} {w : World} {A : Around} {E : Value → Shared → Prop} {s : Shared}

theorem join_ok {e : Str} {t : Tok} {L : Addr} {l : List (Str × Tok)} {Q : Value → Shared → Prop} (he : e.cps = #[]) (hL : s.heap.IsList L (strValues l).toArray) (hn : (flat l).length ≤ sizeLine)
    (h : ∀ u tk, Q (.str ⟨(flat l).toArray⟩ u) { s with toks := tk }) : wpAny (model prog w) A (call (.builtin "str.join") [.str e t, .ref L]) Q E s := by
  have hl : Builtin.Str.tooLong ((l.map (·.1)).toArray.foldl (· + ·.length + e.length) 0) = false := by
    have := lens_le e he l 0
    simp only [Builtin.Str.tooLong, List.foldl_toArray]
    rw [this]
    simpa using hn
  refine call_meets (T := "str") F.slot_str_join (typeIs_str s e t) F.entry_str_join (F.args_str_join_2 _ _) (meets_str_join_list e t L l hl) ⟨hL, ?_⟩
  have hg : ∀ parts : List Str, Builtin.Str.glued e parts = ⟨(parts.flatMap (·.cps.toList)).toArray⟩ := fun parts => by
    have := glued_nil e he parts
    cases hq : Builtin.Str.glued e parts with
    | mk c => rw [hq] at this; simp only at this; rw [← this]
  have hm : ∀ l : List (Str × Tok), (l.map (·.1)).flatMap (fun p => p.cps.toList) = flat l := fun l => by simp [flat, List.flatMap_map]
  cases l with
  | nil =>
    refine ⟨by rw [hg]; decide, ?_⟩
    rw [hg]
    exact h _ _
  | cons p r =>
    cases r with
    | nil =>
      have : (⟨(flat [p]).toArray⟩ : Str) = p.1 := by simp [flat]
      rw [this] at h
      exact h p.2 s.toks
    | cons q r' =>
      refine ⟨?_, ?_⟩
      · rw [hg, hm]
        simpa [Str.length] using hn
      · rw [hg, hm]
        exact h _ _
end

/-- a compiled pattern without groups, over strs -/
structure IsPat (h : Heap) (pat : Addr) (code : Array Nat) : Prop where
  ok : ∃ o vs ct oc xs n, h.get? pat = some o ∧ o.cls = .type "re.Pattern" ∧ o.dict = none ∧ o.data = .fields vs ∧ reRawNat (vs.getD 2 .none) = 0 ∧ vs.getD 5 .none = .ref ct ∧ reRawNat (vs.getD 6 .none) = 0 ∧
    h.get? ct = some oc ∧ oc.data = .seq xs n ∧ (xs.map reRawOf).map (·.toNat) = code
theorem IsPat.keeps {h h' : Heap} {pat : Addr} {code : Array Nat} (x : IsPat h pat code) (k : ∀ b o, h.get? b = some o → h'.get? b = some o) : IsPat h' pat code := by
  obtain ⟨o, vs, ct, oc, xs, n, a, b, b', c, d, e, f, g, i, j⟩ := x.ok
  exact ⟨⟨o, vs, ct, oc, xs, n, k _ _ a, b, b', c, d, e, f, k _ _ g, i, j⟩⟩

def tgt (pat : Addr) (x : Str) (tx : Tok) (code : Array Nat) : ReTarget :=
  { pattern := .ref pat, string := .str x tx, code := code, text := x.cps, kind := 0, groups := 0, pos := 0, lim := x.cps.size }

theorem wpAny_target {M : Model} {A : Around} {E : Value → Shared → Prop} {s : Shared} {pat : Addr} {code : Array Nat} {x : Str} {tx : Tok} {Q : ReTarget → Shared → Prop} (P : IsPat s.heap pat code)
    (h : Q (tgt pat x tx code) s) : wpAny M A (reWholeTarget (.ref pat) (.str x tx)) Q E s := by
  obtain ⟨o, vs, ct, oc, xs, n, ho, hcls, hdict, hd, h2, h5, h6, hct, hcd, hcode⟩ := P.ok
  unfold reWholeTarget
  refine wpAny_bind ?_
  unfold fieldsOf
  refine wpAny_bind (wpAny_load ho ?_)
  rw [hd]
  refine wpAny_pure ?_
  refine wpAny_bind (m := reTextOf (.str x tx)) (wpAny_pure ?_)
  dsimp only
  rw [h6]
  refine wpAny_bind (m := reNoCollectionInside (.str x tx) 0) (wpAny_pure ?_)
  refine wpAny_bind ?_
  unfold reRawItems
  refine wpAny_bind ?_
  rw [h5]
  unfold seqItems?
  refine wpAny_bind (wpAny_load hct ?_)
  rw [hcd]
  refine wpAny_pure (wpAny_pure (wpAny_pure ?_))
  rw [h2]
  simp only [Option.getD_some]
  rw [hcode]
  exact h

/-- what the substitution makes of the text from each place on -/
structure SubSpec (code text repl : Array Nat) (F : Nat → List Nat) : Prop where
  step : ∀ p, p ≤ text.size → (∃ s e N, N < 2 ^ 60 ∧ Found N (forSearch code text 0 p text.size false) s e ∧ p ≤ s ∧ s < e ∧ e ≤ text.size ∧ F p = (text.extract p s).toList ++ repl.toList ++ F e) ∨
    (∃ N, N < 2 ^ 60 ∧ Lost N (forSearch code text 0 p text.size false) ∧ F p = (text.extract p text.size).toList)

theorem kind_subLoop : plainId "re.Pattern.sub.loop" = true := by decide +kernel
theorem entry_subLoop : entryFor table "re.Pattern.sub.loop" = some Builtin.«re.Pattern.sub.loop» := entryFor_of_fast (by kernel_rfl)

theorem flat_snoc (l : List (Str × Tok)) (p : Str × Tok) : flat (l ++ [p]) = flat l ++ p.1.cps.toList := by simp [flat]
theorem strValues_push (l : List (Str × Tok)) (x : Str) (t : Tok) : (strValues l).toArray.push (.str x t) = (strValues (l ++ [(x, t)])).toArray := by simp [strValues]

section
variable {prog : Program} {w : World} {A : Around} {E : Value → Shared → Prop}

theorem wpAny_pushStr {M : Model} {A : Around} {s : Shared} {L : Addr} {l : List (Str × Tok)} {x : Str} {t : Tok} {Q : Unit → Shared → Prop} (hL : s.heap.PlainList L (strValues l).toArray) (hn : l.length ≤ sizeLine)
    (h : ∀ h', h'.PlainList L (strValues (l ++ [(x, t)])).toArray → Heap.SameBut L s.heap h' → Q () { s with heap := h' }) : wpAny M A (updateSeq L (·.push (.str x t))) Q E s := by
  obtain ⟨n, ho⟩ := hL
  refine wpAny_updateSeq ho rfl (h _ ?_ (Heap.SameBut.update ..)) ?_ ?_
  · rw [← strValues_push]
    exact ⟨_, Heap.get?_update_self _ ho rfl⟩
  · simpa [strValues] using hn
  · simpa [strValues] using hn

theorem like_with {s₀ s : Shared} (x : ∃ h tk, s = { s₀ with heap := h, toks := tk }) (h : Heap) (tk : Nat) : ∃ h' tk', ({ s with heap := h, toks := tk } : Shared) = { s₀ with heap := h', toks := tk' } := by
  obtain ⟨a, b, rfl⟩ := x
  exact ⟨h, tk, rfl⟩

theorem subLoop {code : Array Nat} {pat L : Addr} {x repl : Str} {tx tr : Tok} {F : Nat → List Nat} (S : SubSpec code x.cps repl.cps F) (hx : x.cps.size ≤ sizeLine) (hr : 0 < repl.cps.size) {R : Result → Shared → Prop} {s₀ : Shared} (P₀ : IsPat s₀.heap pat code) (hLn : s₀.heap.get? L = none) :
    ∀ (k p : Nat) (c : Int) (l : List (Str × Tok)) (s : Shared), x.cps.size - p = k → p ≤ x.cps.size → (∃ h tk, s = { s₀ with heap := h, toks := tk }) → (∀ b o, s₀.heap.get? b = some o → s.heap.get? b = some o) →
      s.heap.PlainList L (strValues l).toArray → l.length ≤ (flat l).length → (flat l ++ F p).length ≤ sizeLine →
      (∀ u tk h', (∀ b o, s₀.heap.get? b = some o → h'.get? b = some o) → R (.ok (.ret (.str ⟨(flat l ++ F p).toArray⟩ u))) { s₀ with heap := h', toks := tk }) →
      codeAny (model prog w) A (.builtin "re.Pattern.sub.loop" ⟨[.ref pat, .str x tx, .str repl tr, rawInt 0, rawInt 0, rawInt c, rawInt p, rawInt p, .bool false, .ref L, .bool false], []⟩) R s := by
  intro k
  induction k using Nat.strongRecOn with
  | ind k ih =>
    intro p c l s hk hp hs hkeep hL hll hsz hR
    have P := P₀.keeps hkeep
    refine codeAny_builtin entry_subLoop ?_
    rw [Around.under_plainId kind_subLoop _]
    unfold Builtin.«re.Pattern.sub.loop»
    dsimp only [rawInt]
    refine wpAny_bind (wpAny_target P ?_)
    refine wpAny_bind (m := reLiteralCannotBeTurned (.str repl tr)) (wpAny_pure ?_)
    refine wpAny_bind ?_
    show wpAny _ _ (reNextFound (tgt pat x tx code) ((p : Int).toNat) false) _ _ s
    unfold reNextFound
    show wpAny _ _ (reRunToEnd (forSearch code x.cps 0 ((p : Int).toNat) x.cps.size false)) _ _ s
    rw [Int.toNat_natCast]
    have hlen : l.length ≤ sizeLine := by
      rw [List.length_append] at hsz
      omega
    rcases S.step p hp with ⟨st, e, N, hN, hf, h1, h2, h3, hF⟩ | ⟨N, hN, hf, hF⟩
    · obtain ⟨n, m', hn, g, ho, hst, hha⟩ := hf
      subst hst hha
      refine wpAny_reRun g (by omega) (.inl ⟨ho, ?_⟩)
      dsimp only
      have tail : ∀ (l' : List (Str × Tok)) (s' : Shared), l'.length ≤ (flat l').length → flat l' = flat l ++ (x.cps.extract p m'.start).toList → (∃ h tk, s' = { s₀ with heap := h, toks := tk }) → (∀ b o, s₀.heap.get? b = some o → s'.heap.get? b = some o) →
          s'.heap.PlainList L (strValues l').toArray → wpAny (model prog w) A.in1 (do
            let item ← (pure (.str repl tr) : Sem Value)
            if item != .none then updateSeq L (·.push item)
            again (.builtin "re.Pattern.sub.loop" ⟨[.ref pat, .str x tx, .str repl tr, .int 0 0, .int 0 0, .int (c + 1) 0, .int m'.handed 0, .int m'.handed 0, .bool (m'.handed == m'.start), .ref L, .bool false], []⟩))
            (fun fin s' => match fin with | .done f => R (.ok f) s' | .again c' => c'.quiet = true ∧ codeAny (model prog w) A c' R s') (fun e s' => R (.error e) s') s' := by
        intro l' s' hl' hfl hs' hk' hL'
        refine wpAny_bind (wpAny_pure ?_)
        have hne : ((Value.str repl tr) != Value.none) = true := rfl
        rw [hne]
        have hl's : l'.length ≤ sizeLine := by
          rw [hF] at hsz
          simp only [List.length_append] at hsz
          rw [hfl, List.length_append] at hl'
          omega
        refine wpAny_bind (wpAny_pushStr hL' hl's fun h' hL'' hsb => ?_)
        refine wpAny_pure ⟨plainId_quiet kind_subLoop _, ?_⟩
        have e1 : (m'.handed == m'.start) = false := by simp; omega
        rw [e1]
        have hkp : ∀ b o, s₀.heap.get? b = some o → h'.get? b = some o := fun b o q => hsb.extBut b o (fun hb => by rw [hb, hLn] at q; cases q) (hk' b o q)
        have hfl2 : flat (l' ++ [(repl, tr)]) ++ F m'.handed = flat l ++ F p := by
          rw [flat_snoc, hfl, hF]
          simp
        refine ih (x.cps.size - m'.handed) (by omega) m'.handed (c + 1) (l' ++ [(repl, tr)]) _ rfl h3 (like_with hs' h' s'.toks) hkp hL'' ?_ (by rw [hfl2]; exact hsz) (by rw [hfl2]; exact hR)
        · rw [flat_snoc, List.length_append, List.length_append]
          simp only [List.length_cons, List.length_nil, Array.length_toList]
          omega
      by_cases hlt : p < m'.start
      · rw [if_pos hlt]
        refine wpAny_bind ?_
        show wpAny _ _ (mkStr ⟨x.cps.extract p m'.start⟩) _ _ s
        refine wpAny_mkStr ?_ (by show (x.cps.extract p m'.start).size ≤ sizeLine; rw [Array.size_extract]; omega)
        refine wpAny_bind (wpAny_pushStr (s := { s with toks := s.toks + 1 }) hL hlen fun h' hL'' hsb => ?_)
        have hkp : ∀ b o, s₀.heap.get? b = some o → h'.get? b = some o := fun b o q => hsb.extBut b o (fun hb => by rw [hb, hLn] at q; cases q) (hkeep b o q)
        refine tail (l ++ [(⟨x.cps.extract p m'.start⟩, s.toks)]) _ ?_ (flat_snoc _ _) (like_with hs h' (s.toks + 1)) hkp hL''
        rw [flat_snoc, List.length_append, List.length_append]
        simp only [List.length_cons, List.length_nil, Array.length_toList, Array.size_extract]
        omega
      · rw [if_neg hlt]
        have hpe : p = m'.start := by omega
        refine tail l s hll ?_ hs hkeep hL
        rw [← hpe]
        simp
    · obtain ⟨n, m', hn, g, ho⟩ := hf
      refine wpAny_reRun g (by omega) (.inr ⟨ho, ?_⟩)
      dsimp only
      have tail : ∀ (l' : List (Str × Tok)) (s' : Shared), flat l' = flat l ++ F p → (∃ h tk, s' = { s₀ with heap := h, toks := tk }) → (∀ b o, s₀.heap.get? b = some o → s'.heap.get? b = some o) →
          s'.heap.PlainList L (strValues l').toArray → wpAny (model prog w) A.in1 (do
            let joiner ← reSlice (tgt pat x tx code).text (tgt pat x tx code).kind 0 0
            let text ← if ((← seqItems? (.ref L)).getD #[]).isEmpty then pure joiner
              else call (.builtin (if (tgt pat x tx code).kind == 0 then "str.join" else "bytes.join")) [joiner, .ref L]
            if false then ret (← holding [text] do newTuple [text, ← mkInt c]) else ret text)
            (fun fin s' => match fin with | .done f => R (.ok f) s' | .again c' => c'.quiet = true ∧ codeAny (model prog w) A c' R s') (fun e s' => R (.error e) s') s' := by
        intro l' s' hfl hs' hk' hL'
        refine wpAny_bind ?_
        show wpAny _ _ (mkStr ⟨x.cps.extract 0 0⟩) _ _ s'
        refine wpAny_mkStr ?_ (by show (x.cps.extract 0 0).size ≤ sizeLine; rw [Array.size_extract]; omega)
        refine wpAny_bind ?_
        unfold seqItems?
        obtain ⟨n', ho'⟩ := id hL'
        refine wpAny_bind (wpAny_load ho' (wpAny_pure ?_))
        have hend : ∀ u tk, R (.ok (.ret (.str ⟨(flat l').toArray⟩ u))) { s' with toks := tk } := fun u tk => by
          rw [hfl]
          obtain ⟨a, b, rfl⟩ := hs'
          exact hR u tk _ hk'
        cases l' with
        | nil =>
          refine wpAny_bind (wpAny_pure ?_)
          refine wpAny_pure ?_
          have := hend s'.toks (s'.toks + 1)
          simpa [flat] using this
        | cons q r =>
          refine wpAny_bind ?_
          refine join_ok (l := q :: r) (by simp) hL'.isList (by rw [hfl]; exact hsz) fun u tk => ?_
          exact wpAny_pure (hend u tk)
      by_cases hlt : p < x.cps.size
      · rw [if_pos (show p < (tgt pat x tx code).lim from hlt)]
        refine wpAny_bind ?_
        show wpAny _ _ (mkStr ⟨x.cps.extract p x.cps.size⟩) _ _ s
        refine wpAny_mkStr ?_ (by show (x.cps.extract p x.cps.size).size ≤ sizeLine; rw [Array.size_extract]; omega)
        refine wpAny_bind (wpAny_pushStr (s := { s with toks := s.toks + 1 }) hL hlen fun h' hL'' hsb => ?_)
        have hkp : ∀ b o, s₀.heap.get? b = some o → h'.get? b = some o := fun b o q => hsb.extBut b o (fun hb => by rw [hb, hLn] at q; cases q) (hkeep b o q)
        refine tail (l ++ [(⟨x.cps.extract p x.cps.size⟩, s.toks)]) _ ?_ (like_with hs h' (s.toks + 1)) hkp hL''
        rw [flat_snoc, hF]
      · rw [if_neg (show ¬ p < (tgt pat x tx code).lim from hlt)]
        refine tail l s ?_ hs hkeep hL
        have hpe : p = x.cps.size := by omega
        rw [hF, hpe]
        simp
end
end Mine

namespace Mine
open PySem PySem.Sre

/-- every end of a row a return and a feed -/
def crlfS : Bool → List Nat → List Nat
  | _, [] => []
  | b, c :: r => if c = 13 then 13 :: 10 :: crlfS true r else if c = 10 then (if b then crlfS false r else 13 :: 10 :: crlfS false r) else c :: crlfS false r
/-- a dot that stands first in a row twice -/
def dotsS : Bool → List Nat → List Nat
  | _, [] => []
  | b, c :: r => if b = true ∧ c = 46 then 46 :: 46 :: dotsS false r else c :: dotsS (c == 10) r
/-- the codes of a text: an end of a row is one sign -/
def codesS : Bool → List Nat → List Nat
  | _, [] => []
  | b, c :: r => if c = 13 then 13 :: codesS true r else if c = 10 then (if b then codesS false r else 13 :: codesS false r) else c :: codesS false r
/-- the codes as they are sent -/
def enc : Bool → List Nat → List Nat
  | _, [] => []
  | b, c :: r => if c = 13 then 13 :: 10 :: enc true r else if b = true ∧ c = 46 then 46 :: 46 :: enc false r else c :: enc false r

def quoted (l : List Nat) : List Nat := dotsS true (crlfS false l)
def codes (l : List Nat) : List Nat := codesS false l

theorem dots_crlf : ∀ (l : List Nat) (b q : Bool), dotsS b (crlfS q l) = enc b (codesS q l)
  | [], _, _ => rfl
  | c :: r, b, q => by
    by_cases h13 : c = 13
    · simp [crlfS, codesS, enc, dotsS, h13, dots_crlf r]
    · by_cases h10 : c = 10
      · cases q
        · simp [crlfS, codesS, enc, dotsS, h10, dots_crlf r]
        · simp [crlfS, codesS, h10, dots_crlf r]
      · by_cases hd : b = true ∧ c = 46
        · obtain ⟨rfl, rfl⟩ := hd
          simp [crlfS, codesS, enc, dotsS, dots_crlf r]
        · have e10 : (c == 10) = false := by simpa using h10
          simp only [crlfS, codesS, enc, dotsS, if_neg h13, if_neg h10, if_neg hd, e10, dots_crlf r]

theorem quoted_eq (l : List Nat) : quoted l = enc true (codes l) := dots_crlf l true false

theorem codes_no10 : ∀ (l : List Nat) (b : Bool), 10 ∉ codesS b l
  | [], _ => by simp [codesS]
  | c :: r, b => by
    simp only [codesS]
    split
    · simp [codes_no10 r]
    · split
      · split <;> simp [codes_no10 r]
      · rename_i h; simp [codes_no10 r, Ne.symm h]

theorem len_crlf : ∀ (l : List Nat) (b : Bool), (crlfS b l).length ≤ 2 * l.length
  | [], _ => by simp [crlfS]
  | c :: r, b => by
    have h1 := len_crlf r true
    have h2 := len_crlf r false
    simp only [crlfS]
    split
    · simp; omega
    · split
      · split <;> simp <;> omega
      · simp; omega
theorem len_dots : ∀ (l : List Nat) (b : Bool), (dotsS b l).length ≤ 2 * l.length
  | [], _ => by simp [dotsS]
  | c :: r, b => by
    have h1 := len_dots r (c == 10)
    have h2 := len_dots r false
    simp only [dotsS]
    split
    · simp; omega
    · simp; omega

/-- the first place where it holds -/
theorem first_or (P : Nat → Bool) (n : Nat) : ∀ (k p : Nat), p + k = n → (∃ s, p ≤ s ∧ s < n ∧ P s = true ∧ ∀ j, p ≤ j → j < s → P j = false) ∨ (∀ j, p ≤ j → j < n → P j = false)
  | 0, p, e => .inr fun j h1 h2 => absurd h2 (by omega)
  | k + 1, p, e => by
    cases hp : P p with
    | true => exact .inl ⟨p, Nat.le_refl _, by omega, hp, fun j h1 h2 => absurd h2 (by omega)⟩
    | false =>
      rcases first_or P n k (p + 1) (by omega) with ⟨s, h1, h2, h3, h4⟩ | h
      · exact .inl ⟨s, by omega, h2, h3, fun j q1 q2 => by
          by_cases hj : j = p
          · rw [hj]; exact hp
          · exact h4 j (by omega) q2⟩
      · exact .inr fun j q1 q2 => by
          by_cases hj : j = p
          · rw [hj]; exact hp
          · exact h j (by omega) q2

theorem drop_cons {t : Array Nat} {p : Nat} (h : p < t.size) : t.toList.drop p = t.getD p 0 :: t.toList.drop (p + 1) := by
  rw [List.drop_eq_getElem_cons (by simpa using h)]
  simp [Array.getD, h]
theorem extract_cons {t : Array Nat} {p s : Nat} (h : p < s) (hs : s ≤ t.size) : (t.extract p s).toList = t.getD p 0 :: (t.extract (p + 1) s).toList := by
  rw [Array.toList_extract, Array.toList_extract]
  simp only [List.extract_eq_take_drop]
  rw [drop_cons (by omega), show s - p = (s - (p + 1)) + 1 by omega, List.take_succ_cons]
theorem extract_self (t : Array Nat) (p : Nat) : (t.extract p p).toList = [] := by simp

theorem drop_all (t : Array Nat) : t.toList.drop t.size = [] := List.drop_eq_nil_of_le (by simp)

theorem crlf_skip {t : Array Nat} : ∀ (k p s : Nat), p + k = s → s ≤ t.size → (∀ j, p ≤ j → j < s → endAt t j = false) → crlfS false (t.toList.drop p) = (t.extract p s).toList ++ crlfS false (t.toList.drop s)
  | 0, p, s, e, hs, _ => by
    obtain rfl : p = s := by omega
    simp
  | k + 1, p, s, e, hs, hno => by
    have h0 := hno p (Nat.le_refl _) (by omega)
    simp only [endAt, Bool.or_eq_false_iff, beq_eq_false_iff_ne] at h0
    rw [drop_cons (by omega), extract_cons (by omega) hs, List.cons_append, ← crlf_skip k (p + 1) s (by omega) hs fun j h1 h2 => hno j (by omega) h2]
    simp [crlfS, h0.1, h0.2, -Array.getD_eq_getD_getElem?]

theorem crlf_spec (t : Array Nat) : SubSpec code2 t #[13, 10] fun p => crlfS false (t.toList.drop p) where
  step p hp := by
    rcases first_or (endAt t) t.size (t.size - p) p (by omega) with ⟨s, h1, h2, h3, h4⟩ | h
    · left
      have hlen : (t.getD s 0 = 13 ∧ s + 1 < t.size ∧ t.getD (s + 1) 0 = 10 ∧ endLen t t.size s = 2) ∨ (¬ (t.getD s 0 = 13 ∧ s + 1 < t.size ∧ t.getD (s + 1) 0 = 10) ∧ endLen t t.size s = 1) := by
        by_cases h : t.getD s 0 = 13 ∧ s + 1 < t.size ∧ t.getD (s + 1) 0 = 10
        · exact .inl ⟨h.1, h.2.1, h.2.2, if_pos h⟩
        · exact .inr ⟨h, if_neg h⟩
      have hle : s + endLen t t.size s ≤ t.size := by rcases hlen with h | h <;> omega
      have hpos : 0 < endLen t t.size s := by rcases hlen with h | h <;> omega
      refine ⟨s, s + endLen t t.size s, 40, by decide, search2_found h1 h2 h3 h4, h1, by omega, hle, ?_⟩
      show crlfS false (t.toList.drop p) = _
      rw [crlf_skip (s - p) p s (by omega) (by omega) h4, List.append_assoc]
      congr 1
      rw [drop_cons h2]
      simp only [endAt, Bool.or_eq_true, beq_iff_eq] at h3
      rcases hlen with h | ⟨h, hl1⟩
      · rw [h.2.2.2, h.1, drop_cons h.2.1, h.2.2.1]
        simp [crlfS]
      · rw [hl1]
        rcases h3 with h3 | h3
        · rw [h3]; simp [crlfS]
        · rw [h3]
          have e : crlfS true (t.toList.drop (s + 1)) = crlfS false (t.toList.drop (s + 1)) := by
            by_cases hl : s + 1 < t.size
            · have hn : t.getD (s + 1) 0 ≠ 10 := fun q => h ⟨h3, hl, q⟩
              rw [drop_cons hl]
              simp [crlfS, hn, -Array.getD_eq_getD_getElem?]
            · rw [List.drop_eq_nil_of_le (by simp; omega)]; rfl
          simp [crlfS, e]
    · right
      refine ⟨1, by decide, search2_lost h, ?_⟩
      show crlfS false (t.toList.drop p) = _
      rw [crlf_skip (t.size - p) p t.size (by omega) (Nat.le_refl _) h, drop_all]
      simp [crlfS]

def lineAt (t : Array Nat) (p : Nat) : Bool := p == 0 || t.getD (p - 1) 0 == 10
theorem lineAt_succ (t : Array Nat) (p : Nat) : lineAt t (p + 1) = (t.getD p 0 == 10) := by simp [lineAt, -Array.getD_eq_getD_getElem?]

theorem dots_skip {t : Array Nat} : ∀ (k p s : Nat), p + k = s → s ≤ t.size → (∀ j, p ≤ j → j < s → dotAt t t.size j = false) →
    dotsS (lineAt t p) (t.toList.drop p) = (t.extract p s).toList ++ dotsS (lineAt t s) (t.toList.drop s)
  | 0, p, s, e, hs, _ => by
    obtain rfl : p = s := by omega
    simp
  | k + 1, p, s, e, hs, hno => by
    have h0 := hno p (Nat.le_refl _) (by omega)
    have hlt : p < t.size := by omega
    have h0' : ¬ (lineAt t p = true ∧ t.getD p 0 = 46) := fun ⟨a, b⟩ => by
      have : dotAt t t.size p = true := by
        unfold dotAt
        show (lineAt t p && (decide (p < t.size) && t.getD p 0 == 46)) = true
        rw [a, b]
        simp [hlt]
      rw [this] at h0; cases h0
    rw [drop_cons (by omega), extract_cons (by omega) hs, List.cons_append, ← dots_skip k (p + 1) s (by omega) hs fun j h1 h2 => hno j (by omega) h2, lineAt_succ]
    simp only [dotsS, if_neg h0']

theorem dots_spec (t : Array Nat) (ht : t.size ≤ 2 ^ 30) : SubSpec code1 t #[46, 46] fun p => dotsS (lineAt t p) (t.toList.drop p) where
  step p hp := by
    rcases first_or (dotAt t t.size) t.size (t.size - p) p (by omega) with ⟨s, h1, h2, h3, h4⟩ | h
    · left
      have hf := search1_found h3 (s - p) p false true (({} : Seen).add 14) (by omega) h4
      rw [← forSearch1 t p t.size false (by omega)] at hf
      refine ⟨s, s + 1, _, ?_, hf, h1, by omega, h2, ?_⟩
      · omega
      show dotsS (lineAt t p) (t.toList.drop p) = _
      rw [dots_skip (s - p) p s (by omega) (by omega) h4, List.append_assoc]
      congr 1
      rw [drop_cons h2]
      have h3' : lineAt t s = true ∧ t.getD s 0 = 46 := by
        simp only [dotAt, Bool.and_eq_true, decide_eq_true_eq] at h3
        exact ⟨h3.1, by simpa using h3.2.2⟩
      rw [h3'.1, h3'.2]
      have e : lineAt t (s + 1) = false := by rw [lineAt_succ, h3'.2]; rfl
      simp [dotsS, e]
    · right
      by_cases hl : p < t.size
      · have hf := search1_lost (t.size - p) p false true (({} : Seen).add 14) (by omega) h
        rw [← forSearch1 t p t.size false hl] at hf
        refine ⟨_, ?_, hf, ?_⟩
        · omega
        show dotsS (lineAt t p) (t.toList.drop p) = _
        rw [dots_skip (t.size - p) p t.size (by omega) (Nat.le_refl _) h, drop_all]
        simp [dotsS]
      · refine ⟨1, by decide, forSearch_short (.inl rfl) _ _ _ _ (by omega), ?_⟩
        obtain rfl : p = t.size := by omega
        rw [drop_all]
        simp [dotsS]
end Mine

namespace Mine
open PySem PySem.W PyProof.Rows
set_option maxRecDepth 100000 in
set_option maxHeartbeats 8000000 in
open_top hd for PySem.Challenge.rw_oc0409_01
end Mine
namespace Mine
open PySem PySem.Calls PySem.W PyProof.Rows PySem.Builtin PySem.Builtin.Re PySem.Sre
set_option maxRecDepth 100000

abbrev P0 : Program := PySem.Challenge.pw_oc0409_01
noncomputable abbrev K0 (w : World) : Frag := Mine.hd.heap_39 w.params

/-- what every state of the call holds -/
structure Base (w : World) (h : Heap) : Prop where
  K : (K0 w).In h
  b : ∃ mb, h.Ns builtinsNs mb ∧ ∀ x : Str, x ≠ "__name__" → mb x = bootBuiltins x
  nolimit : h.NoLimit
theorem Base.keeps {w : World} {h h' : Heap} (x : Base w h) (k : ∀ b o, h.get? b = some o → h'.get? b = some o) : Base w h' :=
  ⟨x.K.keeps k, let ⟨mb, h1, h2⟩ := x.b; ⟨mb, h1.keeps k, h2⟩, x.nolimit.keeps k⟩

section
variable {w : World} {A : Around} {E : Value → Shared → Prop} {s : Shared} {env : Env}
theorem name_top {M : Model} {x : Str} {pos : Pos} {v : Value} {Q : Value → Shared → Prop} (B : Base w s.heap) (e : nsIn (K0 w) 3 x = some (some v)) (h : Q v s)
    (hk : env.scope.kind = .function := by rfl) (hx : env.kindOf x = some .globalImplicit := by rfl) (hg : env.globals = 3 := by rfl) (hd : (x == ("__debug__" : Str)) = false := by decide) :
    wpAny M A (eval (.Name x pos) env) Q E s := by
  refine wpAny_Name ?_ hd
  rw [loadName_read hk hx]
  unfold loadGlobal
  rw [hg]
  exact wpAny_bind (Looks.here (looks_nsIn B.K e) (wpAny_pure h))
theorem name_boot {M : Model} {x : Str} {pos : Pos} {v : Value} {Q : Value → Shared → Prop} (B : Base w s.heap) (e : nsIn (K0 w) 3 x = some none) (hv : bootBuiltins x = some v) (h : Q v s)
    (hk : env.scope.kind = .function := by rfl) (hx : env.kindOf x = some .globalImplicit := by rfl) (hg : env.globals = 3 := by rfl) (hb : env.builtins = builtinsNs := by rfl) (hd : (x == ("__debug__" : Str)) = false := by decide)
    (hn : x ≠ "__name__" := by decide) :
    wpAny M A (eval (.Name x pos) env) Q E s := by
  refine wpAny_Name ?_ hd
  rw [loadName_read hk hx]
  unfold loadGlobal
  rw [hg, hb]
  obtain ⟨mb, h1, h2⟩ := B.b
  refine wpAny_bind (Looks.here (looks_nsIn B.K e) ?_)
  refine wpAny_bind (wpAny_nsGet h1 ?_)
  rw [h2 x hn, hv]
  exact wpAny_pure h
end

theorem plainAttrs_pat : PlainAttrs "re.Pattern" :=
  ⟨⟨"object.__getattribute__", by rw [typeLookup_type, builtinLookup_eq_fast]; kernel_rfl, by decide +kernel⟩, by rw [typeLookup_type, builtinLookup_eq_fast]; kernel_rfl⟩
theorem slot_pat_sub : Slot "re.Pattern" "sub" "re.Pattern.sub" :=
  .of (owner := "re.Pattern") (n := "sub") (by rw [typeLookup_type, builtinLookup_eq_fast]; kernel_rfl) (by decide +kernel) (by decide +kernel) (by decide +kernel)
    (by first | exact .inl (by decide +kernel) | exact .inr (by decide +kernel)) (by rw [isSubtype_type]; kernel_rfl)
theorem type_pat_sub : typeOf (.builtin "re.Pattern.sub") = pure (.type "method_descriptor") := by show builtinType _ = _; rw [builtinType_eq_fast]; kernel_rfl
theorem entry_pat_sub : entryFor table "re.Pattern.sub" = some Builtin.«re.Pattern.sub» := entryFor_of_fast (by kernel_rfl)
theorem str_no_call : typeLookup (.type "str") "__call__" = pure none := by rw [typeLookup_type, builtinLookup_eq_fast]; kernel_rfl
theorem owner_pat : Manifest.owners.lookup (String.ofList ['n', 'r', 'e', 't', 't', 'a', 'P', '.', 'e', 'r'].reverse) = some Manifest.sig_re_Pattern := by kernel_rfl
theorem args_pat_sub (a b c : Value) : argsOk "re.Pattern.sub" ⟨[a, b, c], []⟩ := by
  unfold argsOk; rw [signature?_of (id := "re.Pattern.sub") (n := ['b', 'u', 's']) (o := ['n', 'r', 'e', 't', 't', 'a', 'P', '.', 'e', 'r']) (by kernel_rfl) owner_pat]; kernel_rfl

end Mine

namespace Mine
open PySem PySem.Calls PySem.W PyProof.Rows PySem.Builtin PySem.Builtin.Re PySem.Sre
set_option maxRecDepth 100000
theorem reNamed_sub (a b : Value) : reNamed "re.Pattern.sub" "sub" ["repl", "string", "count"] 2 [a, b] [] = pure [some a, some b, none] := rfl

section
variable {prog : Program} {w : World} {A : Around} {E : Value → Shared → Prop} {s : Shared}
theorem wpAny_newList_nil {M : Model} {Q : Value → Shared → Prop} (h : Q (.ref s.heap.objs.size) { s with heap := s.heap.push { cls := .type "list", data := .seq #[] } }) : wpAny M A (newList []) Q E s :=
  wpAny_newObj_type (T := "list") h (by show (0 : Nat) ≤ sizeLine; decide)

theorem sub_call {code : Array Nat} {pat : Addr} {x repl : Str} {tx tr : Tok} {F : Nat → List Nat} {Q : Value → Shared → Prop} (P : IsPat s.heap pat code) (S : SubSpec code x.cps repl.cps F) (hx : x.cps.size ≤ sizeLine) (hr : 0 < repl.cps.size)
    (hr2 : repl.cps.contains 92 = false) (hF : (F 0).length ≤ sizeLine)
    (h : ∀ u tk h', (∀ b o, s.heap.get? b = some o → h'.get? b = some o) → Q (.str ⟨(F 0).toArray⟩ u) { s with heap := h', toks := tk }) :
    wpAny (model prog w) A (call (.builtin "re.Pattern.sub") [.ref pat, .str repl tr, .str x tx]) Q E s := by
  obtain ⟨o, vs, ct, oc, xs, n, ho, hcls, hdict, hd, h2, h5, h6, hct, hcd, hcode⟩ := P.ok
  have hT : s.TypeIs (.ref pat) "re.Pattern" := ⟨o, ho, hcls⟩
  refine wpAny_call (codeAny_call_builtin slot_pat_sub.plain entry_pat_sub (slot_pat_sub.check _ _ _ _ _ _ _ _ hT (args_pat_sub _ _ _) ?_))
  unfold Builtin.«re.Pattern.sub» reSubstitute
  dsimp only
  rw [reNamed_sub]
  refine wpAny_bind (wpAny_pure ?_)
  dsimp only
  refine wpAny_bind (wpAny_pure ?_)
  refine wpAny_bind (wpAny_specialOf (typeIs_str s repl tr) str_no_call ?_)
  refine wpAny_bind (m := asStr? (.str repl tr)) (wpAny_pure ?_)
  dsimp only
  refine wpAny_bind (wpAny_pure ?_)
  rw [hr2, if_neg (by decide), if_pos (by decide)]
  refine wpAny_bind (wpAny_pure ?_)
  refine wpAny_bind (wpAny_holding (wpAny_target P ?_))
  rw [if_neg (by show ¬ ((0 : Int) == 1) = true; decide)]
  refine wpAny_bind (wpAny_newList_nil ?_)
  have hfr : s.heap.get? s.heap.objs.size = none := by
    cases q : s.heap.get? s.heap.objs.size with
    | none => rfl
    | some o => exact absurd (Heap.lt_size q) (Nat.lt_irrefl _)
  refine wpAny_pure ⟨plainId_quiet kind_subLoop _, ?_⟩
  refine subLoop (s₀ := s) (F := F) S hx hr P hfr _ 0 0 [] _ rfl (Nat.zero_le _) ⟨_, _, rfl⟩ (fun b o q => Heap.get?_push_of_some _ q) ⟨0, Heap.get?_push_size _ rfl⟩ (Nat.le_refl _) (by simpa [flat] using hF) ?_
  intro u tk h' hk
  have := h u tk h' hk
  simpa [flat] using this
end
end Mine

namespace Mine
open PySem PySem.Calls PySem.W PyProof.Rows PySem.Builtin PySem.Builtin.Re PySem.Sre
set_option maxRecDepth 100000

/-- the call leaves what stood as it was -/
abbrev KeepsH (h h' : Heap) : Prop := ∀ b o, h.get? b = some o → h'.get? b = some o

section
variable {w : World} {A : Around} {E : Value → Shared → Prop} {s : Shared}

theorem pat1 (B : Base w s.heap) : IsPat s.heap 36 code1 :=
  ⟨⟨_, _, 35, _, _, _, B.K 36 _ rfl, rfl, rfl, rfl, rfl, rfl, rfl, B.K 35 _ rfl, rfl, by decide +kernel⟩⟩
theorem pat2 (B : Base w s.heap) : IsPat s.heap 41 code2 :=
  ⟨⟨_, _, 40, _, _, _, B.K 41 _ rfl, rfl, rfl, rfl, rfl, rfl, rfl, B.K 40 _ rfl, rfl, by decide +kernel⟩⟩

theorem pat_method {M : Model} {prog : Program} {pat : Addr} {code : Array Nat} {pos : Pos} {t₁ t₂ : Sem Value} {Q : Value → Shared → Prop} (P : IsPat s.heap pat code)
    (h : wpAny (model prog w) A t₁ (fun v₁ s₁ => wpAny (model prog w) A t₂ (fun v₂ s₂ => wpAny (model prog w) A (call (.builtin "re.Pattern.sub") [.ref pat, v₁, v₂]) Q E s₂) E s₁) E s) :
    MethodOnS prog w A E "sub" (.ref pat) pos [(false, t₁), (false, t₂)] Q s := by
  obtain ⟨o, vs, ct, oc, xs, n, ho, hcls, hdict, _⟩ := P.ok
  refine ⟨"re.Pattern", "re.Pattern.sub", plainAttrs_pat, slot_pat_sub, type_pat_sub, ⟨o, ho, hcls⟩, fun a e => by cases e; exact ⟨o, ho, hdict⟩, ?_⟩
  exact Calls.callWith_builtin rfl (Calls.evalArgs_plain (Calls.spliced_cons (wpAny_mono h (fun _ _ h₁ => Calls.spliced_cons (wpAny_mono h₁ (fun _ _ h₂ => Calls.spliced_nil h₂) fun _ _ e => e)) fun _ _ e => e)))

theorem quotedata_ok {x : Str} {t : Tok} {Q : Value → Shared → Prop} (B : Base w s.heap) (hroom : A.depth < recursionLimit) (hx : x.cps.size ≤ 2 ^ 20)
    (h : ∀ u tk h', KeepsH s.heap h' → Q (.str ⟨(quoted x.cps.toList).toArray⟩ u) { s with heap := h', toks := tk }) :
    wpAny (model P0 w) A (call (.ref 48) [.str x t]) Q E s := by
  have hx' : x.cps.size ≤ sizeLine := by rw [sizeLine_eq]; omega
  refine wpAny_call (call_plain_ret (binds := [(Str.ofString "data", .str x t)]) hroom (B.K 48 _ rfl) rfl B.nolimit (codeRec_of (K := K0 w) B.K rfl) rfl (locs rfl) fun h₁ F => ?_)
  have B₁ : Base w h₁ := B.keeps F.keep
  refine wpAny_execs_cons (wpAny_Return_some ?_)
  refine Call_method2 rfl rfl rfl ?_
  refine name_top (v := .ref 36) B₁ rfl ?_
  refine pat_method (M := model P0 w) (pat1 (s := { s with heap := h₁ }) B₁) ?_
  refine wpAny_Constant_str ?_
  refine Call_method2 rfl rfl rfl ?_
  refine name_top (v := .ref 41) B₁ rfl ?_
  refine pat_method (M := model P0 w) (pat2 (s := { s with heap := h₁ }) B₁) ?_
  refine name_top (v := .str (Str.ofString "\r\n") 342) B₁ rfl ?_
  refine ld F rfl ?_
  have e2 : (Str.ofString "\r\n").cps = #[13, 10] := by decide
  have e1 : (Str.ofString "..").cps = #[46, 46] := by decide
  refine sub_call (code := code2) (F := fun p => crlfS false (x.cps.toList.drop p)) (pat2 (s := { s with heap := h₁ }) B₁) (by rw [e2]; exact crlf_spec x.cps) hx' (by rw [e2]; decide) (by rw [e2]; decide +kernel) ?_ ?_
  · show (crlfS false (x.cps.toList.drop 0)).length ≤ sizeLine
    have := len_crlf (x.cps.toList.drop 0) false
    rw [sizeLine_eq]
    simp at this ⊢
    omega
  intro u tk h₂ hk₂
  have B₂ : Base w h₂ := B₁.keeps hk₂
  have hl2 : (crlfS false (x.cps.toList.drop 0)).length ≤ 2 ^ 21 := by
    have := len_crlf (x.cps.toList.drop 0) false
    simp at this ⊢
    omega
  refine sub_call (code := code1) (x := ⟨(crlfS false (x.cps.toList.drop 0)).toArray⟩) (F := fun p => dotsS (lineAt (crlfS false (x.cps.toList.drop 0)).toArray p) ((crlfS false (x.cps.toList.drop 0)).toArray.toList.drop p))
    (pat1 (s := { s with heap := h₂ }) B₂) (by rw [e1]; exact dots_spec _ (by simp at hl2 ⊢; omega)) (by rw [sizeLine_eq]; simp at hl2 ⊢; omega) (by rw [e1]; decide) (by rw [e1]; decide +kernel) ?_ ?_
  · show (dotsS _ _).length ≤ sizeLine
    have := len_dots ((crlfS false (x.cps.toList.drop 0)).toArray.toList.drop 0) (lineAt (crlfS false (x.cps.toList.drop 0)).toArray 0)
    rw [sizeLine_eq]
    simp at this hl2 ⊢
    omega
  intro u' tk' h₃ hk₃
  have e3 : dotsS (lineAt (crlfS false (x.cps.toList.drop 0)).toArray 0) ((crlfS false (x.cps.toList.drop 0)).toArray.toList.drop 0) = quoted x.cps.toList := by
    simp [quoted, lineAt]
  have := h u' tk' h₃ (fun b o q => hk₃ b o (hk₂ b o (F.keep b o q)))
  rw [← e3] at this
  exact this
end
end Mine

namespace Mine
open PySem PySem.Calls PySem.W PyProof.Rows
set_option maxRecDepth 100000

def signs : List Nat := [10, 13, 46, 9, 11, 12, 32, 97]
/-- a number's figures to the base 9 as signs -/
def textF : Nat → Nat → List Nat
  | 0, _ => []
  | k + 1, n => if n = 0 then [] else if n % 9 = 8 then n / 9 % 55296 :: textF k (n / 9 / 55296) else signs.getD (n % 9) 0 :: textF k (n / 9)
def textOf (n : Nat) : List Nat := textF n n

theorem textF_zero : ∀ k, textF k 0 = []
  | 0 => rfl
  | _ + 1 => rfl
theorem textF_len : ∀ (j k n : Nat), n < 9 ^ j → (textF k n).length ≤ j
  | _, 0, _, _ => Nat.zero_le _
  | 0, k + 1, n, h => by
    have : n = 0 := by simpa using h
    rw [this, textF_zero]; exact Nat.le_refl _
  | j + 1, k + 1, n, h => by
    have h9 : n / 9 < 9 ^ j := by rw [Nat.pow_succ] at h; omega
    have h5 : n / 9 / 55296 < 9 ^ j := Nat.lt_of_le_of_lt (Nat.div_le_self _ _) h9
    have a := textF_len j k _ h9
    have b := textF_len j k _ h5
    simp only [textF]
    split
    · simp
    · split <;> simp <;> omega
theorem textOf_len {n : Nat} (h : n < 10 ^ 6) : (textOf n).length ≤ 7 := textF_len 7 n n (by omega)

theorem fr_mono {h₀ h h' : Heap} {L : Addr} {m : Str → Option Value} (F : Fr h₀ L h m) (k : ∀ b o, h.get? b = some o → h'.get? b = some o) : Fr h₀ L h' m :=
  ⟨F.ns.keeps k, fun b o e => k b o (F.keep b o e), F.above⟩
theorem ext_keeps {h h' : Heap} (x : Heap.ExtBut h.objs.size h h') : ∀ b o, h.get? b = some o → h'.get? b = some o := fun b o e => x b o (Nat.ne_of_lt (Heap.lt_size e)) e

theorem call_b1 {M : Model} {A : Around} {E : Value → Shared → Prop} {s : Shared} {id : String} {pos : Pos} {t₁ : Sem Value} {Q : Value → Shared → Prop}
    (h : wpAny M A t₁ (fun v₁ s₁ => wpAny M A (call (.builtin id) [v₁]) Q E s₁) E s) : wpAny M A (callWith pos (.builtin id) [] [(false, t₁)] []) Q E s :=
  Calls.callWith_builtin rfl (Calls.evalArgs_plain (Calls.spliced_cons (wpAny_mono h (fun _ _ h₁ => Calls.spliced_nil h₁) fun _ _ e => e)))
theorem call_b2 {M : Model} {A : Around} {E : Value → Shared → Prop} {s : Shared} {id : String} {pos : Pos} {t₁ t₂ : Sem Value} {Q : Value → Shared → Prop}
    (h : wpAny M A t₁ (fun v₁ s₁ => wpAny M A t₂ (fun v₂ s₂ => wpAny M A (call (.builtin id) [v₁, v₂]) Q E s₂) E s₁) E s) : wpAny M A (callWith pos (.builtin id) [] [(false, t₁), (false, t₂)] []) Q E s :=
  Calls.callWith_builtin rfl (Calls.evalArgs_plain (Calls.spliced_cons (wpAny_mono h (fun _ _ h₁ => Calls.spliced_cons (wpAny_mono h₁ (fun _ _ h₂ => Calls.spliced_nil h₂) fun _ _ e => e)) fun _ _ e => e)))

section
variable {prog : Program} {w : World} {A : Around} {E : Value → Shared → Prop} {s : Shared}
/-- a text grown by another -/
theorem grow_str {x y : Str} {t u : Tok} {Q : Value → Shared → Prop} (hsz : (x.cps.toList ++ y.cps.toList).length ≤ sizeLine) (h : ∀ v tk, Q (.str ⟨(x.cps.toList ++ y.cps.toList).toArray⟩ v) { s with toks := tk }) :
    wpAny (model prog w) A (inplaceOp .Add (.str x t) (.str y u)) Q E s := by
  refine P.iadd_str ?_
  have e : (⟨(x.cps.toList ++ y.cps.toList).toArray⟩ : Str) = x ++ y := by
    obtain ⟨⟨a⟩⟩ := x; obtain ⟨⟨b⟩⟩ := y
    show (⟨(a ++ b).toArray⟩ : Str) = ⟨_⟩
    simp
  split
  · rename_i h0
    have : x.cps.toList = [] := by have := beq_iff_eq.mp h0; exact List.eq_nil_of_length_eq_zero (by simpa [Str.length] using this)
    have hxy : (⟨(x.cps.toList ++ y.cps.toList).toArray⟩ : Str) = y := by rw [this]; simp
    rw [hxy] at h
    exact h u s.toks
  · split
    · rename_i h1
      have : y.cps.toList = [] := by have := beq_iff_eq.mp h1; exact List.eq_nil_of_length_eq_zero (by simpa [Str.length] using this)
      have hxy : (⟨(x.cps.toList ++ y.cps.toList).toArray⟩ : Str) = x := by rw [this]; simp
      rw [hxy] at h
      exact h t s.toks
    · refine ⟨?_, ?_⟩
      · rw [← e]; simpa [Str.length] using hsz
      · rw [← e]; exact h _ _

theorem law_text_ok {w : World} {n : Nat} {t : Tok} {Q : Value → Shared → Prop} (B : Base w s.heap) (hroom : A.depth < recursionLimit) (hh : A.handled = none) (hn : n < 10 ^ 6)
    (h : ∀ u tk h', (∀ b o, s.heap.get? b = some o → h'.get? b = some o) → Q (.str ⟨(textOf n).toArray⟩ u) { s with heap := h', toks := tk }) :
    wpAny (model P0 w) A (call (.ref 55) [.int n t]) Q E s := by
  refine wpAny_call (call_plain_ret (binds := [(Str.ofString "number", .int n t)]) hroom (B.K 55 _ rfl) rfl B.nolimit (codeRec_of (K := K0 w) B.K rfl) rfl (locs rfl) fun h₁ F => ?_)
  have hlen := textOf_len hn
  refine wpAny_execs_cons (wpAny_Assign_Name (wpAny_Constant_str (st F fun h₂ F₂ => ?_)))
  refine wpAny_execs_cons ?_
  refine While_inv (fun k m _ => ∃ (j : Nat) (tj : Tok) (acc : List Nat) (ta : Tok), m (Str.ofString "number") = some (.int j tj) ∧ m (Str.ofString "text") = some (.str ⟨acc.toArray⟩ ta) ∧ j ≤ k ∧ acc ++ textF k j = textOf n)
    (n₀ := n) F₂ News.nil ⟨n, t, [], _, rfl, rfl, Nat.le_refl _, rfl⟩ ?_
  rintro k m₁ news₁ h₃ tk₁ F₃ _ ⟨j, tj, acc, ta, hj, ha, hjk, hacc⟩
  refine wpAny_isTrue_value (ld F₃ hj (P.truthy_int ?_))
  by_cases hj0 : j = 0
  · subst hj0
    rw [if_neg (by decide)]
    refine wpAny_execs_cons (wpAny_Return_some (ld F₃ ha ?_))
    rw [textF_zero, List.append_nil] at hacc
    rw [hacc]
    exact h _ _ _ F₃.keep
  · rw [if_pos (by simpa using hj0)]
    obtain ⟨k', rfl⟩ : ∃ k', k = k' + 1 := ⟨k - 1, by omega⟩
    have B₃ : Base w h₃ := B.keeps F₃.keep
    refine wpAny_execs_cons (Assign_Tuple ?_)
    refine Call_Name2 (name_boot B₃ rfl boot_divmod ?_)
    refine call_b2 (ld F₃ hj (wpAny_Constant_int ?_))
    refine divmod_int (by decide) ?_ (.inl (PyProof.noPylong_of_log2 (by decide +kernel)))
    refine assign_Tuple_tuple hh ⟨_, Heap.get?_push_size _ rfl, rfl, 0, rfl⟩ rfl rfl fun h₄ hx₄ => ?_
    have F₄ := fr_mono (F₃.push _) (ext_keeps hx₄)
    refine assignInOrder_cons (wpAny_assign_Name (st F₄ fun h₅ F₅ => ?_))
    refine assignInOrder_cons (wpAny_assign_Name (st F₅ fun h₆ F₆ => ?_))
    refine assignInOrder_nil ?_
    have B₆ : Base w h₆ := B.keeps F₆.keep
    have e9 : ((j : Int).fdiv 9) = ((j / 9 : Nat) : Int) := by rw [Int.fdiv_eq_ediv_of_nonneg _ (by decide)]; rfl
    have e8 : ((j : Int).fmod 9) = ((j % 9 : Nat) : Int) := by rw [Int.fmod_eq_emod_of_nonneg _ (by decide)]; rfl
    rw [e9, e8] at F₆
    dsimp only
    refine wpAny_execs_cons (wpAny_If (wpAny_isTrue_Compare1 (ld F₆ rfl (wpAny_Constant_int (P.eq_int (wpAny_truthy_bool ?_))))))
    by_cases h8 : j % 9 = 8
    · rw [if_pos (by rw [beq_iff_eq]; omega)]
      refine wpAny_execs_cons (Assign_Tuple ?_)
      refine Call_Name2 (name_boot B₆ rfl boot_divmod ?_)
      refine call_b2 (ld F₆ rfl (wpAny_Constant_int ?_))
      refine divmod_int (by decide) ?_ (.inl (PyProof.noPylong_of_log2 (by decide +kernel)))
      refine assign_Tuple_tuple hh ⟨_, Heap.get?_push_size _ rfl, rfl, 0, rfl⟩ rfl rfl fun h₇ hx₇ => ?_
      have F₇ := fr_mono (F₆.push _) (ext_keeps hx₇)
      refine assignInOrder_cons (wpAny_assign_Name (st F₇ fun h₈ F₈ => ?_))
      refine assignInOrder_cons (wpAny_assign_Name (st F₈ fun h₉ F₉ => ?_))
      refine assignInOrder_nil ?_
      have e5 : (((j / 9 : Nat) : Int).fdiv 55296) = ((j / 9 / 55296 : Nat) : Int) := by rw [Int.fdiv_eq_ediv_of_nonneg _ (by decide)]; rfl
      have e6 : (((j / 9 : Nat) : Int).fmod 55296) = ((j / 9 % 55296 : Nat) : Int) := by rw [Int.fmod_eq_emod_of_nonneg _ (by decide)]; rfl
      rw [e5, e6] at F₉
      have B₉ : Base w h₉ := B.keeps F₉.keep
      dsimp only
      refine wpAny_execs_cons (wpAny_AugAssign_Name (ldn F₉ ha ?_))
      refine Call_Name1 (name_boot B₉ rfl boot_chr ?_)
      refine call_b1 (ld F₉ rfl ?_)
      refine P.chr_of_int (by have : j / 9 % 55296 < 55296 := Nat.mod_lt _ (by decide); simp; omega) ?_
      have hstep : acc ++ [j / 9 % 55296] ++ textF k' (j / 9 / 55296) = textOf n := by
        rw [← hacc]
        simp [textF, hj0, h8]
      refine grow_str (by rw [sizeLine_eq]; have := congrArg List.length hstep; simp at this ⊢; omega) fun v tk => ?_
      refine st F₉ fun h₁₀ F₁₀ => ?_
      dsimp only
      refine wpAny_execs_nil ?_
      refine wpAny_execs_nil ?_
      refine WhileStep.intro F₁₀ News.nil (Nat.lt_succ_self k') ⟨j / 9 / 55296, _, acc ++ [j / 9 % 55296], v, rfl, ?_, ?_, hstep⟩
      · have e7 : (((j / 9 % 55296 : Nat) : Int)).toNat = j / 9 % 55296 := Int.toNat_natCast _
        refine Eq.trans (if_pos rfl) ?_
        rw [e7]
      · have : j / 9 / 55296 ≤ j / 9 := Nat.div_le_self _ _
        omega
    · rw [if_neg (by rw [beq_iff_eq]; omega)]
      refine wpAny_execs_cons (wpAny_AugAssign_Name (ldn F₆ ha ?_))
      refine Subscript_ (wpAny_Constant_str (ld F₆ rfl ?_))
      have hlt : j % 9 < 8 := by have : j % 9 < 9 := Nat.mod_lt _ (by decide); omega
      have hl8 : (Str.ofString "\n\r.\t\x0b\x0c a").length = 8 := by decide +kernel
      refine item_str (by simp [fitsSsize]; omega) (by rw [hl8]; omega) (by rw [hl8]; omega) fun _ => ?_
      have hit : (Txt.item (Str.ofString "\n\r.\t\x0b\x0c a") ((j % 9 : Nat) : Int)).cps.toList = [signs.getD (j % 9) 0] := by
        have : ∀ i, i < 8 → (Txt.item (Str.ofString "\n\r.\t\x0b\x0c a") ((i : Nat) : Int)).cps.toList = [signs.getD i 0] := by decide +kernel
        exact this _ hlt
      have hstep : acc ++ [signs.getD (j % 9) 0] ++ textF k' (j / 9) = textOf n := by
        rw [← hacc]
        simp [textF, hj0, h8]
      refine grow_str (by rw [sizeLine_eq, hit]; have := congrArg List.length hstep; simp at this ⊢; omega) fun v tk => ?_
      rw [hit]
      refine st F₆ fun h₇ F₇ => ?_
      dsimp only
      refine wpAny_execs_nil ?_
      refine wpAny_execs_nil ?_
      refine WhileStep.intro F₇ News.nil (Nat.lt_succ_self k') ⟨j / 9, _, acc ++ [signs.getD (j % 9) 0], v, rfl, ?_, ?_, hstep⟩
      · simp
      · omega
end
end Mine

namespace Mine
open PySem PySem.Calls PySem.W PyProof.Rows
set_option maxRecDepth 100000

abbrev noE : Value → Shared → Prop := fun _ _ => False

section
variable {prog : Program} {w : World} {A : Around} {s : Shared}

/-- a loop over what an iterator hands on, by an invariant over its turns, the frame's names and the heap -/
theorem for_walk {h₀ : Heap} {env : Env} {x : Str} {px : Pos} {body : List Stmt} {Q : Flow → Shared → Prop} {I : Addr} {fp wr : List Addr} {n : Nat} {P : Nat → Value → Prop} {St : Nat → Heap → Prop} {m : Str → Option Value}
    (W : Walks prog w A I fp wr n P St) (J : Nat → (Str → Option Value) → Heap → Prop)
    (hLf : env.locals ∉ fp) (hnew : ∀ b ∈ wr, h₀.get? b = none)
    (stab : ∀ i m h h', (∀ b o, b ∉ wr → b ≠ env.locals → h.get? b = some o → h'.get? b = some o) → J i m h → J i m h')
    (F : Fr h₀ env.locals s.heap m) (hst : St 0 s.heap) (hJ : J 0 m s.heap)
    (turn : ∀ i v m₁ h₁ tk₁, i < n → P i v → Fr h₀ env.locals h₁ (fun y => if y = x then some v else m₁ y) → J i m₁ h₁ →
      wpAny (model prog w) A (execs body env) (fun f s₃ => f = .next ∧ ∃ h' tk' m', s₃ = { s with heap := h', toks := tk' } ∧ Fr h₀ env.locals h' m' ∧ J (i + 1) m' h' ∧ ∀ b ∈ fp, ∀ o, h₁.get? b = some o → h'.get? b = some o) noE
        { s with heap := h₁, toks := tk₁ })
    (done : ∀ m₁ h₁ tk₁, Fr h₀ env.locals h₁ m₁ → J n m₁ h₁ → Q .next { s with heap := h₁, toks := tk₁ })
    (hx : env.kindOf x = some .local := by rfl) (hp : (env.scope.kind == .class || (env.scope.kind == .module && env.locals != env.globals)) = false := by rfl) {E : Value → Shared → Prop} :
    codeAny (model prog w) A (.forLoop (.Name x px) (.ref I) body [] env) (fun r s' => match r with | .ok f => Q f s' | .error e => cameBackBy (model prog w) A env E e s') s := by
  have frW : ∀ {h h' : Heap} {m₁ : Str → Option Value}, Fr h₀ env.locals h m₁ → (∀ b o, b ∉ wr → h.get? b = some o → h'.get? b = some o) → Fr h₀ env.locals h' m₁ := fun F₁ k =>
    ⟨F₁.ns.at' fun o e => k _ o (fun hb => hLf (W.sub _ hb)) e, fun b o e => k b o (fun hb => by rw [hnew b hb] at e; cases e) (F₁.keep b o e), F₁.above⟩
  refine codeAny_forLoop (fun k s' => ∃ i h₁ tk₁ m₁, s' = { s with heap := h₁, toks := tk₁ } ∧ Fr h₀ env.locals h₁ m₁ ∧ St i h₁ ∧ J i m₁ h₁ ∧ i ≤ n ∧ k = n + 1 - i) ?_ (n + 1) ⟨0, s.heap, s.toks, m, rfl, F, hst, hJ, Nat.zero_le _, rfl⟩
  rintro k s' ⟨i, h₁, tk₁, m₁, rfl, F₁, hst₁, hJ₁, hi, rfl⟩
  by_cases hlt : i < n
  · refine W.item i _ _ _ hlt hst₁ fun v h₂ tk₂ hPv hst₂ hk₂ => ?_
    have F₂ := frW F₁ hk₂
    refine wpAny_assign_Name (wpAny_storeName_local hx F₂.ns (fun h₃ hn₃ hs₃ => ?_) hp)
    have F₃ := F₂.set hn₃ hs₃
    have hJ₃ : J i m₁ h₃ := stab i m₁ h₁ h₃ (fun b o hb hL e => hs₃.extBut b o hL (hk₂ b o hb e)) hJ₁
    have hst₃ : St (i + 1) h₃ := W.frame _ _ _ hst₂ fun b hb o e => hs₃.extBut b o (fun q => hLf (q ▸ hb)) e
    refine wpAny_mono (turn i v m₁ h₃ _ hlt hPv F₃ hJ₃) (fun f s₃ h => ?_) fun _ _ q => q.elim
    obtain ⟨rfl, h', tk', m', rfl, F', hJ', hk'⟩ := h
    exact ⟨n + 1 - (i + 1), by omega, i + 1, h', tk', m', rfl, F', W.frame _ _ _ hst₃ hk', hJ', hlt, rfl⟩
  · obtain rfl : i = n := by omega
    refine W.done _ _ _ hst₁ fun h₂ tk₂ hk₂ => ?_
    exact wpAny_execs_nil (done m₁ h₂ tk₂ (frW F₁ hk₂) (stab _ _ _ _ (fun b o hb _ e => hk₂ b o hb e) hJ₁))

theorem list_method1 {E : Value → Shared → Prop} {l : Addr} {items : Array Value} {name : Str} {id : String} {pos : Pos} {t₁ : Sem Value} {Q : Value → Shared → Prop} (hl : s.heap.PlainList l items)
    (slot : Slot "list" name id) (ty : typeOf (.builtin id) = pure (.type "method_descriptor"))
    (h : wpAny (model prog w) A t₁ (fun v₁ s₁ => wpAny (model prog w) A (call (.builtin id) [.ref l, v₁]) Q E s₁) E s) :
    MethodOnS prog w A E name (.ref l) pos [(false, t₁)] Q s := by
  obtain ⟨n, ho⟩ := hl
  refine ⟨"list", id, F.plainAttrs_list, slot, ty, ⟨_, ho, rfl⟩, fun a e => by cases e; exact ⟨_, ho, rfl⟩, ?_⟩
  exact Calls.callWith_builtin rfl (Calls.evalArgs_plain (Calls.spliced_cons (wpAny_mono h (fun _ _ h₁ => Calls.spliced_nil h₁) fun _ _ e => e)))

/-- two texts glued -/
theorem glue_str {E : Value → Shared → Prop} {x y : Str} {t u : Tok} {Q : Value → Shared → Prop} (hsz : (x.cps.toList ++ y.cps.toList).length ≤ sizeLine) (h : ∀ v tk, Q (.str ⟨(x.cps.toList ++ y.cps.toList).toArray⟩ v) { s with toks := tk }) :
    wpAny (model prog w) A (binaryOp .Add (.str x t) (.str y u)) Q E s := by
  refine P.add_str ?_
  have e : (⟨(x.cps.toList ++ y.cps.toList).toArray⟩ : Str) = x ++ y := by
    obtain ⟨⟨a⟩⟩ := x; obtain ⟨⟨b⟩⟩ := y
    show (⟨(a ++ b).toArray⟩ : Str) = ⟨_⟩
    simp
  split
  · rename_i h0
    have : x.cps.toList = [] := by have := beq_iff_eq.mp h0; exact List.eq_nil_of_length_eq_zero (by simpa [Str.length] using this)
    have hxy : (⟨(x.cps.toList ++ y.cps.toList).toArray⟩ : Str) = y := by rw [this]; simp
    rw [hxy] at h
    exact h u s.toks
  · split
    · rename_i h1
      have : y.cps.toList = [] := by have := beq_iff_eq.mp h1; exact List.eq_nil_of_length_eq_zero (by simpa [Str.length] using this)
      have hxy : (⟨(x.cps.toList ++ y.cps.toList).toArray⟩ : Str) = x := by rw [this]; simp
      rw [hxy] at h
      exact h t s.toks
    · refine ⟨?_, ?_⟩
      · rw [← e]; simpa [Str.length] using hsz
      · rw [← e]; exact h _ _

def zs (l : List Nat) : List Int := l.map fun (c : Nat) => (c : Int)
theorem zs_snoc (l : List Nat) (c : Nat) : zs (l ++ [c]) = zs l ++ [(c : Int)] := by simp [zs]

/-- what stands of the codes behind i signs -/
structure CodesAt (x : Str) (D : Addr) (i : Nat) (m : Str → Option Value) (h : Heap) : Prop where
  ok : ∃ (ah : Str) (ta : Tok) (vs : List Value) (cs : List Nat), m (Str.ofString "codes") = some (.ref D) ∧ m (Str.ofString "ahead") = some (.str ah ta) ∧ h.PlainList D vs.toArray ∧ IntsAre vs (zs cs) ∧
    cs ++ codesS (ah.cps.toList == [13]) (x.cps.toList.drop i) = codes x.cps.toList ∧ cs.length ≤ i ∧ ah.cps.size ≤ 1

set_option maxHeartbeats 1000000 in
theorem law_codes_ok {E : Value → Shared → Prop} {w : World} {x : Str} {t : Tok} {Q : Value → Shared → Prop} (B : Base w s.heap) (hroom : A.depth < recursionLimit) (hh : A.handled = none) (hx : x.cps.size ≤ 2 ^ 20)
    (h : ∀ D vs tk h', (∀ b o, s.heap.get? b = some o → h'.get? b = some o) → s.heap.get? D = none → h'.PlainList D vs.toArray → IntsAre vs (zs (codes x.cps.toList)) → Q (.ref D) { s with heap := h', toks := tk }) :
    wpAny (model P0 w) A (call (.ref 62) [.str x t]) Q E s := by
  refine wpAny_call (call_plain_ret (binds := [(Str.ofString "text", .str x t)]) hroom (B.K 62 _ rfl) rfl B.nolimit (codeRec_of (K := K0 w) B.K rfl) rfl (locs rfl) fun h₁ F => ?_)
  refine wpAny_execs_cons (Assign_Tuple_swapped (names := [Str.ofString "codes", Str.ofString "ahead"]) ?_)
  refine Tuple_ (spliced_more (List_ (spliced_none (wpAny_newList_nil ?_))))
  dsimp only
  refine spliced_more (wpAny_Constant_str (spliced_none ?_))
  dsimp only
  refine wpAny_newTuple ?_ (Nat.le_of_ble_eq_true rfl)
  dsimp only
  refine unpackItems_tuple (items := #[_, _]) hh ⟨_, Heap.get?_push_size _ rfl, rfl, 0, rfl⟩ fun h₂ hx₂ => ?_
  dsimp only at hx₂ ⊢
  have hDn : s.heap.get? h₁.objs.size = none := by
    cases q : s.heap.get? h₁.objs.size with
    | none => rfl
    | some o => exact absurd (Heap.lt_size (F.keep _ _ q)) (Nat.lt_irrefl _)
  have hDL : h₁.objs.size ≠ s.heap.objs.size := Nat.ne_of_gt F.ns.lt
  have F₂ := fr_mono ((F.push _).push _) (ext_keeps hx₂)
  have hD₂ : h₂.PlainList h₁.objs.size #[] := ⟨0, ext_keeps hx₂ _ _ (Heap.get?_push_of_some _ (Heap.get?_push_size _ rfl))⟩
  generalize h₁.objs.size = D at *
  refine assignInOrder_cons (bindName_ (wpAny_storeName_local rfl F₂.ns (fun h₃ hn₃ hs₃ => ?_)))
  have F₃ := F₂.set hn₃ hs₃
  have hD₃ := hD₂.at fun o e => hs₃.extBut D o hDL e
  dsimp only
  refine assignInOrder_cons (bindName_ (wpAny_storeName_local rfl F₃.ns (fun h₄ hn₄ hs₄ => ?_)))
  have F₄ := F₃.set hn₄ hs₄
  have hD₄ := hD₃.at fun o e => hs₄.extBut D o hDL e
  dsimp only
  refine assignInOrder_nil ?_
  refine wpAny_execs_cons (wpAny_For (ld F₄ rfl ?_))
  refine wpAny_pyIter_str fun o St hW hst => ?_
  dsimp only
  have hDI : D ≠ h₄.objs.size := by obtain ⟨n, e⟩ := hD₄; exact Nat.ne_of_lt (Heap.lt_size e)
  have hIL : h₄.objs.size ≠ s.heap.objs.size := Nat.ne_of_gt F₄.ns.lt
  refine for_walk (h₀ := s.heap) (hW (A.deeper _) hh) (CodesAt x D) ?_ ?_ ?_ (F₄.push o) hst ?_ ?_ ?_
  · intro hm; exact Nat.ne_of_lt F₄.ns.lt (List.mem_singleton.mp hm)
  · intro b hb
    rw [List.mem_singleton.mp hb]
    cases q : s.heap.get? h₄.objs.size with
    | none => rfl
    | some o => exact absurd (Heap.lt_size (F₄.keep _ _ q)) (Nat.lt_irrefl _)
  · rintro i m h h' hk ⟨ah, ta, vs, cs, a1, a2, a3, a4, a5, a6, a7⟩
    refine ⟨⟨ah, ta, vs, cs, a1, a2, a3.at fun o' e => hk D o' (fun hm => hDI (List.mem_singleton.mp hm)) hDL e, a4, a5, a6, a7⟩⟩
  · refine ⟨⟨Str.ofString "", _, [], [], rfl, rfl, hD₄.at fun o' e => Heap.get?_push_of_some _ e, .nil, ?_, Nat.le_refl _, by decide⟩⟩
    rfl
  · rintro i v m₁ h₅ tk₅ hi ⟨c, u, hc, rfl⟩ F₅ ⟨ah, ta, vs, cs, a1, a2, a3, a4, a5, a6, a7⟩
    have B₅ : Base w h₅ := B.keeps F₅.keep
    have hdr : x.cps.toList.drop i = c :: x.cps.toList.drop (i + 1) := by
      rw [List.drop_eq_getElem_cons (by simpa using hi)]
      congr 1
      rw [Array.getElem?_eq_some_iff] at hc
      obtain ⟨_, hc⟩ := hc
      simpa using hc
    rw [hdr] at a5
    have ap : ∀ (k : Nat) (tq : Tok) (tk₆ : Nat), cs ++ k :: codesS ([c] == [13]) (x.cps.toList.drop (i + 1)) = codes x.cps.toList → ∀ (A' : Around) (E' : Value → Shared → Prop) (Q' : Value → Shared → Prop),
        (∀ h₆, Fr s.heap s.heap.objs.size h₆ (fun y => if y = Str.ofString "sign" then some (.str ⟨#[c]⟩ u) else m₁ y) → h₆.PlainList D (vs ++ [Value.int k tq]).toArray → (∀ b o, b ≠ D → h₅.get? b = some o → h₆.get? b = some o) → Q' .none { s with heap := h₆, toks := tk₆ }) →
        wpAny (model P0 w) A' (call (.builtin "list.append") [.ref D, .int k tq]) Q' E' { s with heap := h₅, toks := tk₆ } := by
      intro k tq tk₆ he A' E' Q' hq
      refine wpAny_list_append_plain (s := { s with heap := h₅, toks := tk₆ }) a3 (fun h₆ hl₆ hs₆ => hq h₆ ?_ (by simpa using hl₆) fun b o hb e => hs₆.extBut b o hb e) ?_
      · exact ⟨F₅.ns.at' fun o e => hs₆.extBut _ o (Ne.symm hDL) e, fun b o e => hs₆.extBut b o (fun q => by rw [q, hDn] at e; cases e) (F₅.keep b o e), F₅.above⟩
      · have := a4.length
        simp [zs] at this ⊢
        rw [sizeLine_eq]
        omega
    refine wpAny_execs_cons (wpAny_mono (Q := fun f s₆ => f = Flow.next ∧ ∃ (vs' : List Value) (cs' : List Nat) (h₆ : Heap) (tk₆ : Nat), s₆ = { s with heap := h₆, toks := tk₆ } ∧
      Fr s.heap s.heap.objs.size h₆ (fun y => if y = Str.ofString "sign" then some (.str ⟨#[c]⟩ u) else m₁ y) ∧ h₆.PlainList D vs'.toArray ∧ IntsAre vs' (zs cs') ∧
      cs' ++ codesS ([c] == [13]) (x.cps.toList.drop (i + 1)) = codes x.cps.toList ∧ cs'.length ≤ i + 1 ∧ (∀ b o, b ≠ D → h₅.get? b = some o → h₆.get? b = some o)) (E := noE) ?_ ?_ fun _ _ q => q)
    · refine wpAny_If (wpAny_isTrue_Compare1 (ld F₅ rfl (wpAny_Constant_str (P.notIn_str (wpAny_truthy_bool ?_)))))
      rw [StrLaws.found_one]
      dsimp only
      have hcr : (Str.ofString "\r\n").cps.toList = [13, 10] := by decide
      rw [hcr]
      by_cases hin : c ∈ [13, 10]
      · rw [decide_eq_true hin, if_neg (by decide)]
        refine wpAny_execs_cons (wpAny_If (wpAny_isTrue_Compare1 (wpAny_BinOp (ld F₅ a2 (ld F₅ rfl (glue_str ?_ fun v tk => ?_))))))
        · rw [sizeLine_eq]; simp; omega
        dsimp only
        refine wpAny_Constant_str (P.ne_str (wpAny_truthy_bool ?_))
        dsimp only
        rw [hcr]
        by_cases hlf : ah.cps.toList = [13] ∧ c = 10
        · obtain ⟨e1, rfl⟩ := hlf
          rw [e1, if_neg (by decide)]
          simp only [codesS, e1] at a5
          refine wpAny_execs_nil (wpAny_execs_nil ⟨rfl, vs, cs, h₅, _, rfl, F₅, a3, a4, ?_, by omega, fun b o _ e => e⟩)
          simpa using a5
        · have hne : (ah.cps.toList ++ [c] != [13, 10]) = true := by
            rw [bne_iff_ne]
            intro q
            apply hlf
            have hl := congrArg List.length q
            obtain ⟨⟨l⟩⟩ := ah
            cases l with
            | nil => simp at hl
            | cons a r => cases r with
              | nil => simp at q; exact ⟨by simp [q.1], q.2⟩
              | cons b r' => simp at hl
          rw [if_pos hne]
          have e2 : cs ++ 13 :: codesS ([c] == [13]) (x.cps.toList.drop (i + 1)) = codes x.cps.toList := by
            rw [← a5]
            congr 1
            rcases List.mem_cons.mp hin with rfl | hin'
            · simp [codesS]
            · obtain rfl := List.mem_singleton.mp hin'
              have : (ah.cps.toList == [13]) = false := by
                rw [beq_eq_false_iff_ne]
                exact fun q => hlf ⟨q, rfl⟩
              rw [this]
              simp [codesS]
          refine wpAny_execs_cons (wpAny_Expr (Call_method1 rfl rfl rfl (ld F₅ a1 (list_method1 a3 PySem.F.slot_list_append PySem.F.type_list_append ?_))))
          refine wpAny_Constant_int ?_
          dsimp only
          refine ap 13 _ _ e2 _ _ _ fun h₆ F₆ hl₆ hk₆ => ?_
          refine wpAny_execs_nil (wpAny_execs_nil ⟨rfl, _, cs ++ [13], h₆, _, rfl, F₆, hl₆, ?_, by simpa using e2, by simp; omega, hk₆⟩)
          rw [zs_snoc]
          exact a4.append (.cons _ _ .nil)
      · rw [decide_eq_false hin, if_pos (by decide)]
        have h13 : c ≠ 13 := fun q => hin (by simp [q])
        have h10 : c ≠ 10 := fun q => hin (by simp [q])
        simp only [codesS, if_neg h13, if_neg h10] at a5
        have e1 : ([c] == [13]) = false := by simpa using h13
        refine wpAny_execs_cons (wpAny_Expr (Call_method1 rfl rfl rfl (ld F₅ a1 (list_method1 a3 PySem.F.slot_list_append PySem.F.type_list_append ?_))))
        refine Call_Name1 (name_boot B₅ rfl boot_ord (call_b1 (ld F₅ rfl (P.ord_of_char ?_))))
        dsimp only
        refine ap c _ _ (by rw [e1]; exact a5) _ _ _ fun h₆ F₆ hl₆ hk₆ => ?_
        refine wpAny_execs_nil ⟨rfl, _, cs ++ [c], h₆, _, rfl, F₆, hl₆, ?_, by rw [e1]; simpa using a5, by simp; omega, hk₆⟩
        rw [zs_snoc]
        exact a4.append (.cons _ _ .nil)
    · rintro f s₆ ⟨rfl, vs', cs', h₆, tk₆, rfl, F₆, hl₆, hi₆, hc₆, hn₆, hk₆⟩
      dsimp only
      refine wpAny_execs_cons (wpAny_Assign_Name (ld F₆ rfl (wpAny_storeName_local rfl F₆.ns (fun h₇ hn₇ hs₇ => ?_))))
      dsimp only
      refine wpAny_execs_nil ⟨rfl, h₇, _, _, rfl, F₆.set hn₇ hs₇, ⟨⟨⟨#[c]⟩, u, vs', cs', a1, rfl, hl₆.at fun o' e => hs₇.extBut D o' hDL e, hi₆, hc₆, hn₆, by simp⟩⟩, fun b hb o e => ?_⟩
      obtain rfl := List.mem_singleton.mp hb
      exact hs₇.extBut _ o hIL (hk₆ _ o (Ne.symm hDI) e)
  · rintro m₁ h₅ tk₅ F₅ ⟨ah, ta, vs, cs, a1, a2, a3, a4, a5, a6, a7⟩
    dsimp only
    refine wpAny_execs_cons (wpAny_Return_some (ld F₅ a1 ?_))
    rw [List.drop_eq_nil_of_le (by simp)] at a5
    simp only [codesS, List.append_nil] at a5
    exact h D vs _ _ F₅.keep hDn a3 (a5 ▸ a4)
end
end Mine

namespace Mine
open PySem PySem.Calls PySem.W PyProof.Rows PySem.Builtin
set_option maxRecDepth 100000

abbrev IsZipB (h : Heap) (z TI TO T0 : Addr) (b : Bool) : Prop :=
  h.get? z = some { cls := .type "zip", dict := none, data := .fields #[.int T0 0, .bool b, .bool false, .ref TI, .ref TO], slots := #[] }

section
variable {prog : Program} {w : World} {A : Around} {E : Value → Shared → Prop} {s : Shared}

theorem wpAny_loadIfAlive {M : Model} {a : Addr} {Q : Option Obj → Shared → Prop} (h : Q (s.heap.get? a) s) : wpAny M A (loadIfAlive a) Q E s := fun _ _ _ => h

theorem zipB_next {z TI TO T0 i1 i2 l1 l2 : Addr} {b : Bool} {k1 k2 : Nat} {xs ys : Array Value} {x y : Value} {Q : Value → Shared → Prop} (D : ZipApart z TI TO i1 i2 l1 l2)
    (hz : IsZipB s.heap z TI TO T0 b) (hal : (s.heap.get? T0).isSome = true) (hTI : IsPair s.heap TI (.ref i1) (.ref i2))
    (h1 : s.heap.IsListIter i1 l1 k1) (h2 : s.heap.IsListIter i2 l2 k2) (hl1 : s.heap.IsList l1 xs) (hl2 : s.heap.IsList l2 ys) (hx : xs[k1]? = some x) (hy : ys[k2]? = some y)
    (hQ : ∀ h', IsZipB h' z TI TO T0 true → h'.IsListIter i1 l1 (k1 + 1) → h'.IsListIter i2 l2 (k2 + 1) → IsPair h' s.heap.objs.size x y → h'.objs.size = s.heap.objs.size + 1 →
      (∀ c o, c ≠ z → c ≠ i1 → c ≠ i2 → s.heap.get? c = some o → h'.get? c = some o) → Q (.ref s.heap.objs.size) { s with heap := h' }) :
    wpAny (model prog w) A (Builtin.«zip.__next__» ⟨[.ref z], []⟩) (fun fin s' => ∃ v, fin = .done (.ret v) ∧ Q v s') E s := by
  show wpAny _ _ (field (.ref z) 2 >>= _) _ _ _
  refine wpAny_bind (wpAny_field hz rfl (x := .bool false) rfl ?_)
  show wpAny _ _ (field (.ref z) 3 >>= _) _ _ _
  refine wpAny_bind (wpAny_field hz rfl (x := .ref TI) rfl ?_)
  refine wpAny_bind (wpAny_seqItems hTI rfl ?_)
  show wpAny _ _ (Builtin.SmallTypes.ownedTupleIsFree (.ref z) >>= _) _ _ _
  have hfree : ∀ {Q' : Bool → Shared → Prop} {E' : Value → Shared → Prop}, (∀ h', IsZipB h' z TI TO T0 true → Heap.SameBut z s.heap h' → Q' false { s with heap := h' }) → wpAny (model prog w) A (Builtin.SmallTypes.ownedTupleIsFree (.ref z)) Q' E' s := by
    intro Q' E' hq
    unfold Builtin.SmallTypes.ownedTupleIsFree
    refine wpAny_bind (wpAny_field hz rfl (x := .int T0 0) rfl ?_)
    dsimp only
    refine wpAny_bind (wpAny_loadIfAlive ?_)
    have e0 : (s.heap.get? (T0 : Int).toNat).isNone = false := by
      rw [Int.toNat_natCast]
      cases q : s.heap.get? T0 with
      | none => rw [q] at hal; cases hal
      | some o => rfl
    rw [e0]
    refine wpAny_bind (wpAny_field hz rfl (x := .bool b) rfl ?_)
    cases b with
    | true => exact wpAny_pure (hq _ hz (.refl ..))
    | false => exact wpAny_bind (wpAny_setField_rec hz (by simp) fun h' hz' hs' => wpAny_pure (hq h' hz' hs'))
  refine wpAny_bind (hfree fun h₁ hz₁ hs₁ => ?_)
  dsimp only
  rw [if_neg (by decide)]
  refine wpAny_bind ?_
  rw [← Array.forIn_toList]
  simp only [List.forIn_cons, List.forIn_nil]
  refine wpAny_bind (wpAny_bind (wpAny_holding ?_))
  show wpAny _ _ (Builtin.SmallTypes.nextOf (.ref i1) >>= _) _ _ _
  refine wpAny_bind (wpAny_nextOf_list_item (h1.extBut hs₁.extBut D.i1z) (hl1.extBut hs₁.extBut D.l1z) hx fun h₂ h1₂ hs₂ => wpAny_pure ?_)
  refine wpAny_pure (wpAny_bind (wpAny_bind (wpAny_holding ?_)))
  show wpAny _ _ (Builtin.SmallTypes.nextOf (.ref i2) >>= _) _ _ _
  refine wpAny_bind (wpAny_nextOf_list_item ((h2.extBut hs₁.extBut D.i2z).extBut hs₂.extBut D.i12.symm)
    ((hl2.extBut hs₁.extBut D.l2z).extBut hs₂.extBut D.l2i1) hy fun h₃ h2₃ hs₃ => wpAny_pure ?_)
  refine wpAny_pure (wpAny_pure ?_)
  refine wpAny_bind (wpAny_newTuple ?_ (by show 2 ≤ sizeLine; decide))
  have hsz : h₃.objs.size = s.heap.objs.size := by rw [hs₃.1, hs₂.1, hs₁.1]
  refine wpAny_pure ⟨_, rfl, ?_⟩
  dsimp only
  rw [hsz]
  have h1₃ := h1₂.extBut hs₃.extBut D.i12
  refine hQ _ (Heap.get?_push_of_some _ (hs₃.extBut _ _ D.i2z.symm (hs₂.extBut _ _ D.i1z.symm hz₁))) (h1₃.at fun o e => Heap.get?_push_of_some _ e) (h2₃.at fun o e => Heap.get?_push_of_some _ e) ?_ ?_
    fun c o c1 c2 c3 e => Heap.get?_push_of_some _ (hs₃.extBut _ _ c3 (hs₂.extBut _ _ c2 (hs₁.extBut _ _ c1 e)))
  · rw [← hsz]; exact Heap.get?_push_size _ rfl
  · rw [Heap.size_push, hsz]

theorem zipB_end {z TI TO T0 i1 i2 l1 l2 : Addr} {b : Bool} {k1 k2 : Nat} {xs ys : Array Value} {x : Value} {Q : Fin → Shared → Prop} (hh : A.handled = none) (D : ZipApart z TI TO i1 i2 l1 l2)
    (hz : IsZipB s.heap z TI TO T0 b) (hal : (s.heap.get? T0).isSome = true) (hTI : IsPair s.heap TI (.ref i1) (.ref i2))
    (h1 : s.heap.IsListIter i1 l1 k1) (h2 : s.heap.IsListIter i2 l2 k2) (hl1 : s.heap.IsList l1 xs) (hl2 : s.heap.IsList l2 ys) (hx : xs[k1]? = some x) (hy : ys[k2]? = none)
    (hE : ∀ h' e, (∀ c o, c ≠ z → c ≠ i1 → c ≠ i2 → s.heap.get? c = some o → h'.get? c = some o) → (∃ o, h'.get? e = some o ∧ o.cls = .type "StopIteration") → E (.ref e) { s with heap := h' }) :
    wpAny (model prog w) A (Builtin.«zip.__next__» ⟨[.ref z], []⟩) Q E s := by
  show wpAny _ _ (field (.ref z) 2 >>= _) _ _ _
  refine wpAny_bind (wpAny_field hz rfl (x := .bool false) rfl ?_)
  show wpAny _ _ (field (.ref z) 3 >>= _) _ _ _
  refine wpAny_bind (wpAny_field hz rfl (x := .ref TI) rfl ?_)
  refine wpAny_bind (wpAny_seqItems hTI rfl ?_)
  show wpAny _ _ (Builtin.SmallTypes.ownedTupleIsFree (.ref z) >>= _) _ _ _
  have hfree : ∀ {Q' : Bool → Shared → Prop} {E' : Value → Shared → Prop}, (∀ h', IsZipB h' z TI TO T0 true → Heap.SameBut z s.heap h' → Q' false { s with heap := h' }) → wpAny (model prog w) A (Builtin.SmallTypes.ownedTupleIsFree (.ref z)) Q' E' s := by
    intro Q' E' hq
    unfold Builtin.SmallTypes.ownedTupleIsFree
    refine wpAny_bind (wpAny_field hz rfl (x := .int T0 0) rfl ?_)
    dsimp only
    refine wpAny_bind (wpAny_loadIfAlive ?_)
    have e0 : (s.heap.get? (T0 : Int).toNat).isNone = false := by
      rw [Int.toNat_natCast]
      cases q : s.heap.get? T0 with
      | none => rw [q] at hal; cases hal
      | some o => rfl
    rw [e0]
    refine wpAny_bind (wpAny_field hz rfl (x := .bool b) rfl ?_)
    cases b with
    | true => exact wpAny_pure (hq _ hz (.refl ..))
    | false => exact wpAny_bind (wpAny_setField_rec hz (by simp) fun h' hz' hs' => wpAny_pure (hq h' hz' hs'))
  refine wpAny_bind (hfree fun h₁ hz₁ hs₁ => ?_)
  dsimp only
  rw [if_neg (by decide)]
  refine wpAny_bind ?_
  rw [← Array.forIn_toList]
  simp only [List.forIn_cons, List.forIn_nil]
  refine wpAny_bind (wpAny_bind (wpAny_holding ?_))
  show wpAny _ _ (Builtin.SmallTypes.nextOf (.ref i1) >>= _) _ _ _
  refine wpAny_bind (wpAny_nextOf_list_item (h1.extBut hs₁.extBut D.i1z) (hl1.extBut hs₁.extBut D.l1z) hx fun h₂ h1₂ hs₂ => wpAny_pure ?_)
  refine wpAny_pure (wpAny_bind (wpAny_bind (wpAny_holding ?_)))
  show wpAny _ _ (Builtin.SmallTypes.nextOf (.ref i2) >>= _) _ _ _
  refine wpAny_bind (wpAny_nextOf_list_end hh ((h2.extBut hs₁.extBut D.i2z).extBut hs₂.extBut D.i12.symm)
    ((hl2.extBut hs₁.extBut D.l2z).extBut hs₂.extBut D.l2i1) hy fun h₃ e hs₃ he => ?_)
  exact hE h₃ e (fun c o c1 c2 c3 q => hs₃ _ _ c3 (hs₂.extBut _ _ c2 (hs₁.extBut _ _ c1 q))) he

theorem next_zipB {z TI TO T0 i1 i2 l1 l2 : Addr} {b : Bool} {k1 k2 : Nat} {xs ys : Array Value} {x y : Value} {Q : Option Value → Shared → Prop} (D : ZipApart z TI TO i1 i2 l1 l2)
    (hz : IsZipB s.heap z TI TO T0 b) (hal : (s.heap.get? T0).isSome = true) (hTI : IsPair s.heap TI (.ref i1) (.ref i2))
    (h1 : s.heap.IsListIter i1 l1 k1) (h2 : s.heap.IsListIter i2 l2 k2) (hl1 : s.heap.IsList l1 xs) (hl2 : s.heap.IsList l2 ys) (hx : xs[k1]? = some x) (hy : ys[k2]? = some y)
    (hQ : ∀ h', IsZipB h' z TI TO T0 true → h'.IsListIter i1 l1 (k1 + 1) → h'.IsListIter i2 l2 (k2 + 1) → IsPair h' s.heap.objs.size x y → h'.objs.size = s.heap.objs.size + 1 →
      (∀ c o, c ≠ z → c ≠ i1 → c ≠ i2 → s.heap.get? c = some o → h'.get? c = some o) → Q (some (.ref s.heap.objs.size)) { s with heap := h' }) :
    wpAny (model prog w) A (pyNext (.ref z)) Q E s := by
  have hT : s.TypeIs (.ref z) "zip" := ⟨_, hz, rfl⟩
  unfold pyNext
  exact wpAny_bind (wpAny_attempt (wpAny_callSpecial?_slot (name := Str.ofString "__next__") hT F.slot_zip_next
    (wpAny_call_entry F.slot_zip_next hT F.entry_zip_next
      (zipB_next D hz hal hTI h1 h2 hl1 hl2 hx hy fun h' a1 a2 a3 a4 a5 a6 => wpAny_pure (hQ h' a1 a2 a3 a4 a5 a6)) (F.args_zip_next_1 _))))

theorem end_zipB {z TI TO T0 i1 i2 l1 l2 : Addr} {b : Bool} {k1 k2 : Nat} {xs ys : Array Value} {x : Value} {Q : Option Value → Shared → Prop} (hh : A.handled = none) (D : ZipApart z TI TO i1 i2 l1 l2)
    (hz : IsZipB s.heap z TI TO T0 b) (hal : (s.heap.get? T0).isSome = true) (hTI : IsPair s.heap TI (.ref i1) (.ref i2))
    (h1 : s.heap.IsListIter i1 l1 k1) (h2 : s.heap.IsListIter i2 l2 k2) (hl1 : s.heap.IsList l1 xs) (hl2 : s.heap.IsList l2 ys) (hx : xs[k1]? = some x) (hy : ys[k2]? = none)
    (hQ : ∀ h', (∀ c o, c ≠ z → c ≠ i1 → c ≠ i2 → s.heap.get? c = some o → h'.get? c = some o) → Q none { s with heap := h' }) : wpAny (model prog w) A (pyNext (.ref z)) Q E s := by
  have hT : s.TypeIs (.ref z) "zip" := ⟨_, hz, rfl⟩
  unfold pyNext
  refine wpAny_bind (wpAny_attempt (wpAny_callSpecial?_slot (name := Str.ofString "__next__") hT F.slot_zip_next
    (wpAny_call_entry F.slot_zip_next hT F.entry_zip_next (zipB_end hh D hz hal hTI h1 h2 hl1 hl2 hx hy fun h' e hk he => ?_) (F.args_zip_next_1 _))))
  obtain ⟨o, ho, hc⟩ := he
  refine wpAny_bind (wpAny_isInstance (T := "StopIteration") (b := true) ⟨o, ho, hc⟩ isSubtype_stop ?_)
  exact wpAny_pure (hQ _ hk)

theorem zip_no_len : typeLookup (.type "zip") "__len__" = pure none := by rw [typeLookup_type, builtinLookup_eq_fast]; kernel_rfl
theorem zip_no_hint : typeLookup (.type "zip") "__length_hint__" = pure none := by rw [typeLookup_type, builtinLookup_eq_fast]; kernel_rfl

/-- how the zip stands behind i pairs -/
structure ZAt (z TI TO i1 i2 l1 l2 : Addr) (xs ys : Array Value) (Ts : List Addr) (h : Heap) : Prop where
  ti : IsPair h TI (.ref i1) (.ref i2)
  a : h.IsListIter i1 l1 Ts.length
  b : h.IsListIter i2 l2 Ts.length
  la : h.IsList l1 xs
  lb : h.IsList l2 ys
  to : ∃ o, h.get? TO = some o
  z : (Ts = [] ∧ IsZip h z TI TO .none ∧ IsPair h TO .none .none) ∨ (∃ T0 q, T0 ∈ Ts ∧ IsZipB h z TI TO T0 q)
  pairs : ∀ (j : Nat) (T : Addr), Ts[j]? = some T → ∃ x y, xs[j]? = some x ∧ ys[j]? = some y ∧ IsPair h T x y
theorem ZAt.on {z TI TO i1 i2 l1 l2 : Addr} {xs ys : Array Value} {Ts : List Addr} {h h' : Heap} {S : Addr} (Z : ZAt z TI TO i1 i2 l1 l2 xs ys Ts h) (hk : ∀ b o, b ≠ S → h.get? b = some o → h'.get? b = some o)
    (hS : S ≠ z ∧ S ≠ TI ∧ S ≠ TO ∧ S ≠ i1 ∧ S ≠ i2 ∧ S ≠ l1 ∧ S ≠ l2 ∧ S ∉ Ts) : ZAt z TI TO i1 i2 l1 l2 xs ys Ts h' := by
  obtain ⟨s1, s2, s3, s4, s5, s6, s7, s8⟩ := hS
  refine ⟨hk _ _ s2.symm Z.ti, Z.a.at fun o e => hk _ o s4.symm e, Z.b.at fun o e => hk _ o s5.symm e, Z.la.at fun o e => hk _ o s6.symm e, Z.lb.at fun o e => hk _ o s7.symm e, (let ⟨o, e⟩ := Z.to; ⟨o, hk _ o s3.symm e⟩), ?_, fun j T hj => ?_⟩
  · rcases Z.z with ⟨a, b, c⟩ | ⟨T0, q, a, b⟩
    · exact .inl ⟨a, hk _ _ s1.symm b, hk _ _ s3.symm c⟩
    · exact .inr ⟨T0, q, a, hk _ _ s1.symm b⟩
  · obtain ⟨x, y, a, b, c⟩ := Z.pairs j T hj
    exact ⟨x, y, a, b, hk _ _ (fun q => s8 (by rw [← q]; exact List.mem_of_getElem? hj)) c⟩

theorem getElem?_snoc_lt {Ts : List Addr} {T : Addr} {j : Nat} {U : Addr} (h : (Ts ++ [T])[j]? = some U) : Ts[j]? = some U ∨ (j = Ts.length ∧ U = T) := by
  rw [List.getElem?_append] at h
  split at h
  · exact .inl h
  · rename_i hj
    have : j - Ts.length = 0 := by
      cases q : j - Ts.length with
      | zero => rfl
      | succ k => rw [q] at h; simp at h
    rw [this] at h
    simp at h
    exact .inr ⟨by omega, h.symm⟩

theorem extend_zip {S z TI TO i1 i2 l1 l2 : Addr} {xs ys : Array Value} {res : Value} {R : Result → Shared → Prop} {s₀ : Shared} (hh : A.handled = none) (D : ZipApart z TI TO i1 i2 l1 l2) (hlen : xs.size = ys.size + 1) (hn : ys.size ≤ 2 ^ 22)
    (hS : S ≠ z ∧ S ≠ TI ∧ S ≠ TO ∧ S ≠ i1 ∧ S ≠ i2 ∧ S ≠ l1 ∧ S ≠ l2) (hfr : ∀ b, b = z ∨ b = TO ∨ b = i1 ∨ b = i2 ∨ b = S → s₀.heap.get? b = none) (hTIo : TI ≠ z ∧ TI ≠ TO ∧ TI ≠ i1 ∧ TI ≠ i2) :
    ∀ (k : Nat) (Ts : List Addr) (h : Heap), ys.size - Ts.length = k → Ts.length ≤ ys.size → (∀ b o, s₀.heap.get? b = some o → h.get? b = some o) → ZAt z TI TO i1 i2 l1 l2 xs ys Ts h → h.PlainList S (Ts.map Value.ref).toArray →
      (∀ T ∈ Ts, T ≠ S ∧ T ≠ z ∧ T ≠ TO ∧ T ≠ i1 ∧ T ≠ i2) →
      (∀ (Ts' : List Addr) (h' : Heap), (∀ b o, s₀.heap.get? b = some o → h'.get? b = some o) → Ts'.length = ys.size → h'.PlainList S (Ts'.map Value.ref).toArray → (∀ (j : Nat) (T : Addr), Ts'[j]? = some T → ∃ x y, xs[j]? = some x ∧ ys[j]? = some y ∧ IsPair h' T x y) → R (.ok (.ret res)) { s₀ with heap := h' }) →
      codeAny (model prog w) A (.builtin "list.extend.loop" ⟨[.ref S, .ref z, res], []⟩) R { s₀ with heap := h } := by
  intro k
  induction k with
  | zero =>
    intro Ts h hk hle hkeep Z hPL hT hR
    have hlen' : Ts.length = ys.size := by omega
    refine codeAny_builtin F.entry_extend_loop ?_
    rw [Around.under_plainId F.plain_extend_loop _]
    show wpAny _ A.in1 (pyNext (.ref z) >>= _) _ _ _
    refine wpAny_bind ?_
    have hxs : xs[Ts.length]? = some (xs[Ts.length]'(by omega)) := Array.getElem?_eq_getElem _
    have hys : ys[Ts.length]? = none := by rw [hlen']; simp
    have fin : ∀ h', (∀ c o, c ≠ z → c ≠ TO → c ≠ i1 → c ≠ i2 → h.get? c = some o → h'.get? c = some o) → R (.ok (.ret res)) { s₀ with heap := h' } := by
      intro h' hk'
      refine hR Ts h' (fun b o e => hk' b o ?_ ?_ ?_ ?_ (hkeep b o e)) hlen' (hPL.at fun o e => hk' S o hS.1 hS.2.2.1 hS.2.2.2.1 hS.2.2.2.2.1 e) fun j T hj => ?_
      · intro q; rw [hfr b (.inl q)] at e; cases e
      · intro q; rw [hfr b (.inr (.inl q))] at e; cases e
      · intro q; rw [hfr b (.inr (.inr (.inl q)))] at e; cases e
      · intro q; rw [hfr b (.inr (.inr (.inr (.inl q))))] at e; cases e
      · obtain ⟨x, y, a, b, c⟩ := Z.pairs j T hj
        obtain ⟨_, t1, t2, t3, t4⟩ := hT T (List.mem_of_getElem? hj)
        exact ⟨x, y, a, b, hk' _ _ t1 t2 t3 t4 c⟩
    rcases Z.z with ⟨a, b, c⟩ | ⟨T0, q, a, b⟩
    · exact wpAny_pyNext_zip_end hh D b Z.ti c Z.a Z.b Z.la Z.lb (.inr hys) fun h' hk' => wpAny_pure (fin h' hk')
    · obtain ⟨j, hj⟩ := List.mem_iff_getElem?.mp a
      obtain ⟨x, y, _, _, c⟩ := Z.pairs j T0 hj
      exact end_zipB hh D b (by show (h.get? T0).isSome = true; rw [c]; rfl) Z.ti Z.a Z.b Z.la Z.lb hxs hys fun h' hk' => wpAny_pure (fin h' fun c o c1 _ c3 c4 e => hk' c o c1 c3 c4 e)
  | succ k ih =>
    intro Ts h hk hle hkeep Z hPL hT hR
    have hlt : Ts.length < ys.size := by omega
    refine codeAny_builtin F.entry_extend_loop ?_
    rw [Around.under_plainId F.plain_extend_loop _]
    show wpAny _ A.in1 (pyNext (.ref z) >>= _) _ _ _
    refine wpAny_bind ?_
    have hxs : xs[Ts.length]? = some (xs[Ts.length]'(by omega)) := Array.getElem?_eq_getElem _
    have hys : ys[Ts.length]? = some (ys[Ts.length]'hlt) := Array.getElem?_eq_getElem _
    have old : ∀ {c o}, h.get? c = some o → h.objs.size ≠ c := fun e => Nat.ne_of_gt (Heap.lt_size e)
    have nz : h.objs.size ≠ z := by rcases Z.z with ⟨a, b, c⟩ | ⟨T0, q, a, b⟩ <;> exact old b
    have step : ∀ h', (∃ T0 q, T0 ∈ Ts ++ [h.objs.size] ∧ IsZipB h' z TI TO T0 q) → h'.IsListIter i1 l1 (Ts.length + 1) → h'.IsListIter i2 l2 (Ts.length + 1) → IsPair h' h.objs.size (xs[Ts.length]'(by omega)) (ys[Ts.length]'hlt) → (∃ o, h'.get? TO = some o) →
        (∀ c o, c ≠ z → c ≠ TO → c ≠ i1 → c ≠ i2 → h.get? c = some o → h'.get? c = some o) →
        wpAny (model prog w) A.in1 (Builtin.List.listUpdate (.ref S) (·.push (.ref h.objs.size)) >>= fun _ => again (.builtin "list.extend.loop" ⟨[.ref S, .ref z, res], []⟩))
          (fun fin s' => match fin with | .done f => R (.ok f) s' | .again c' => c'.quiet = true ∧ codeAny (model prog w) A c' R s') (fun e s' => R (.error e) s') { s₀ with heap := h' } := by
      intro h' hz' h1' h2' hp' hTO' hk'
      have nTO : h.objs.size ≠ TO := by obtain ⟨o, e⟩ := Z.to; exact old e
      have hPL' : h'.PlainList S (Ts.map Value.ref).toArray := hPL.at fun o e => hk' S o hS.1 hS.2.2.1 hS.2.2.2.1 hS.2.2.2.2.1 e
      obtain ⟨n₀, hob⟩ := hPL'
      show wpAny _ A.in1 (updateSeq S (·.push (.ref h.objs.size)) >>= _) _ _ _
      have nS : h.objs.size ≠ S := by obtain ⟨_, e⟩ := hPL; exact old e
      have n1 : h.objs.size ≠ i1 := by obtain ⟨_, e, _⟩ := Z.a; exact old e
      have n2 : h.objs.size ≠ i2 := by obtain ⟨_, e, _⟩ := Z.b; exact old e
      refine wpAny_bind (wpAny_updateSeq hob rfl (wpAny_pure ⟨plainId_quiet F.plain_extend_loop _, ?_⟩) (by rw [sizeLine_eq]; simp; omega) (by rw [sizeLine_eq]; simp; omega))
      have hup : ∀ b o, b ≠ S → h'.get? b = some o → (h'.update S (Obj.mapSeq (·.push (.ref h.objs.size)))).get? b = some o := fun b o hb e => (Heap.get?_update_other _ _ (Ne.symm hb)).trans e
      have Z' : ZAt z TI TO i1 i2 l1 l2 xs ys (Ts ++ [h.objs.size]) h' := by
        refine ⟨hk' _ _ hTIo.1 hTIo.2.1 hTIo.2.2.1 hTIo.2.2.2 Z.ti, by simpa using h1', by simpa using h2', Z.la.at fun o e => hk' _ o D.l1z D.l1TO D.l1i1 D.l1i2 e, Z.lb.at fun o e => hk' _ o D.l2z D.l2TO D.l2i1 D.l2i2 e, hTO', .inr hz', fun j T hj => ?_⟩
        rcases getElem?_snoc_lt hj with hj | ⟨rfl, rfl⟩
        · obtain ⟨x, y, a, b, c⟩ := Z.pairs j T hj
          obtain ⟨_, t1, t2, t3, t4⟩ := hT T (List.mem_of_getElem? hj)
          exact ⟨x, y, a, b, hk' _ _ t1 t2 t3 t4 c⟩
        · exact ⟨_, _, hxs, hys, hp'⟩
      have hSn : S ∉ Ts ++ [h.objs.size] := fun hm => by
        rcases List.mem_append.mp hm with hm | hm
        · exact (hT S hm).1 rfl
        · exact nS (List.mem_singleton.mp hm).symm
      refine ih (Ts ++ [h.objs.size]) _ (by simp; omega) (by simp; omega) (fun b o e => hup b o (fun q => by rw [hfr b (.inr (.inr (.inr (.inr q))))] at e; cases e) (hk' b o ?_ ?_ ?_ ?_ (hkeep b o e)))
        (Z'.on hup ⟨hS.1, hS.2.1, hS.2.2.1, hS.2.2.2.1, hS.2.2.2.2.1, hS.2.2.2.2.2.1, hS.2.2.2.2.2.2, hSn⟩) ?_ ?_ hR
      · intro q; rw [hfr b (.inl q)] at e; cases e
      · intro q; rw [hfr b (.inr (.inl q))] at e; cases e
      · intro q; rw [hfr b (.inr (.inr (.inl q)))] at e; cases e
      · intro q; rw [hfr b (.inr (.inr (.inr (.inl q))))] at e; cases e
      · have e : ((Ts ++ [h.objs.size]).map Value.ref).toArray = (Ts.map Value.ref).toArray.push (.ref h.objs.size) := by simp
        rw [e]
        exact ⟨_, Heap.get?_update_self _ hob rfl⟩
      · intro T hm
        rcases List.mem_append.mp hm with hm | hm
        · exact hT T hm
        · rw [List.mem_singleton.mp hm]
          exact ⟨nS, nz, nTO, n1, n2⟩
    rcases Z.z with ⟨a, b, c⟩ | ⟨T0, q, a, b⟩
    · refine wpAny_pyNext_zip_item D b Z.ti c Z.a Z.b Z.la Z.lb hxs hys fun h' a1 a2 a3 a4 a5 a6 a7 => ?_
      exact step h' ⟨h.objs.size, false, by simp, a1⟩ a3 a4 a5 ⟨_, a2⟩ a7
    · obtain ⟨j, hj⟩ := List.mem_iff_getElem?.mp a
      obtain ⟨x, y, _, _, c⟩ := Z.pairs j T0 hj
      refine next_zipB D b (by show (h.get? T0).isSome = true; rw [c]; rfl) Z.ti Z.a Z.b Z.la Z.lb hxs hys fun h' a1 a3 a4 a5 a6 a7 => ?_
      obtain ⟨oT, eT⟩ := Z.to
      exact step h' ⟨T0, true, List.mem_append_left _ a, a1⟩ a3 a4 a5 ⟨oT, a7 _ _ D.TOz D.TOi1 D.TOi2 eT⟩ fun c o c1 _ c3 c4 e => a7 c o c1 c3 c4 e

theorem init_zip {S z TI TO i1 i2 l1 l2 : Addr} {xs ys : Array Value} {R : Result → Shared → Prop} (hh : A.handled = none) (D : ZipApart z TI TO i1 i2 l1 l2) (hlen : xs.size = ys.size + 1) (hn : ys.size ≤ 2 ^ 22)
    (hS : S ≠ z ∧ S ≠ TI ∧ S ≠ TO ∧ S ≠ i1 ∧ S ≠ i2 ∧ S ≠ l1 ∧ S ≠ l2) {base : Heap} (hkeep : ∀ b o, base.get? b = some o → s.heap.get? b = some o) (hfr : ∀ b, b = z ∨ b = TO ∨ b = i1 ∨ b = i2 ∨ b = S → base.get? b = none)
    (hTIo : TI ≠ z ∧ TI ≠ TO ∧ TI ≠ i1 ∧ TI ≠ i2) (Z : ZAt z TI TO i1 i2 l1 l2 xs ys [] s.heap) (hPL : s.heap.get? S = some { cls := .type "list", data := .seq #[] })
    (hR : ∀ (Ts' : List Addr) (h' : Heap), (∀ b o, base.get? b = some o → h'.get? b = some o) → Ts'.length = ys.size → h'.PlainList S (Ts'.map Value.ref).toArray →
      (∀ (j : Nat) (T : Addr), Ts'[j]? = some T → ∃ x y, xs[j]? = some x ∧ ys[j]? = some y ∧ IsPair h' T x y) → R (.ok (.ret .none)) { s with heap := h' }) :
    wpAny (model prog w) A.in1 (Builtin.«list.__init__» ⟨[.ref S, .ref z], []⟩)
      (fun fin s' => match fin with | .done f => R (.ok f) s' | .again c' => c'.quiet = true ∧ codeAny (model prog w) A c' R s') (fun e s' => R (.error e) s') s := by
  show wpAny _ A.in1 (do let old ← Builtin.List.listItems (.ref S); Builtin.List.listUpdate (.ref S) (fun _ => #[]); letGo old.toList.reverse; Builtin.List.listExtendWith (.ref S) (.ref z) .none) _ _ s
  refine wpAny_bind ?_
  unfold Builtin.List.listItems
  refine wpAny_bind (wpAny_seqItems hPL rfl (wpAny_pure ?_))
  show wpAny _ A.in1 (updateSeq S (fun _ => #[]) >>= fun _ => letGo (#[] : Array Value).toList.reverse >>= fun _ => Builtin.List.listExtendWith (.ref S) (.ref z) .none) _ _ s
  refine wpAny_bind (wpAny_updateSeq hPL rfl ?_)
  have hS₂ := Heap.get?_update_self (Obj.mapSeq (fun _ => (#[] : Array Value))) hPL rfl
  have oth : ∀ b o, b ≠ S → s.heap.get? b = some o → (s.heap.update S (Obj.mapSeq (fun _ => (#[] : Array Value)))).get? b = some o :=
    fun b o hb e => (Heap.get?_update_other _ _ (Ne.symm hb)).trans e
  refine wpAny_bind (wpAny_letGo ?_)
  have hSS : S ≠ z ∧ S ≠ TI ∧ S ≠ TO ∧ S ≠ i1 ∧ S ≠ i2 ∧ S ≠ l1 ∧ S ≠ l2 ∧ S ∉ ([] : List Addr) := ⟨hS.1, hS.2.1, hS.2.2.1, hS.2.2.2.1, hS.2.2.2.2.1, hS.2.2.2.2.2.1, hS.2.2.2.2.2.2, by simp⟩
  have Z₂ := Z.on oth hSS
  generalize s.heap.update S (Obj.mapSeq (fun _ => (#[] : Array Value))) = h₂ at *
  have hz₂ : IsZip h₂ z TI TO .none := by
    rcases Z₂.z with ⟨a, b, c⟩ | ⟨T0, q, a, b⟩
    · exact b
    · simp at a
  have hT : ({ s with heap := h₂ } : Shared).TypeIs (.ref z) "zip" := ⟨_, hz₂, rfl⟩
  unfold Builtin.List.listExtendWith
  refine wpAny_bind (wpAny_typeOf hT ?_)
  have h1 : Builtin.List.listSameRef (.ref S) (.ref z) = false := by simp [Builtin.List.listSameRef, hS.1]
  have h2 : (Value.type "zip" == Value.type "list") = false := by decide
  have h3 : (Value.type "zip" == Value.type "tuple") = false := by decide
  simp only [h1, h2, h3, Bool.or_false, Bool.false_eq_true, if_false]
  refine wpAny_bind (wpAny_pyIter_zip hz₂ ?_)
  refine wpAny_bind (wpAny_holding ?_)
  unfold Builtin.List.listLengthHint
  refine wpAny_bind (wpAny_specialOf hT zip_no_len ?_)
  show wpAny _ A.in1 (specialOf (Value.ref z) (Str.ofString "__length_hint__") >>= _) _ _ _
  refine wpAny_bind (wpAny_specialOf hT zip_no_hint ?_)
  refine wpAny_pure ?_
  show wpAny _ A.in1 (rule "list.extend.makes-room" >>= fun _ => Builtin.List.listTouch (.ref S) >>= fun _ =>
    again (.builtin "list.extend.loop" ⟨[.ref S, .ref z, .none], []⟩)) _ _ _
  refine wpAny_bind (wpAny_rule ?_)
  refine wpAny_bind ?_
  show wpAny _ A.in1 (updateSeq S (·.push .none) >>= fun _ => updateSeq S (·.pop)) _ _ _
  refine wpAny_bind (wpAny_updateSeq hS₂ rfl ?_)
  have hS₃ := Heap.get?_update_self (Obj.mapSeq (·.push Value.none)) hS₂ rfl
  refine wpAny_updateSeq (hz := by seq_fits) hS₃ rfl ?_
  have hS₄ := Heap.get?_update_self (Obj.mapSeq (·.pop)) hS₃ rfl
  have oth₂ : ∀ b o, b ≠ S → h₂.get? b = some o → ((h₂.update S (Obj.mapSeq (·.push Value.none))).update S (Obj.mapSeq (·.pop))).get? b = some o :=
    fun b o hb e => (Heap.get?_update_other _ _ (Ne.symm hb)).trans ((Heap.get?_update_other _ _ (Ne.symm hb)).trans e)
  refine wpAny_pure ⟨plainId_quiet F.plain_extend_loop _, ?_⟩
  refine extend_zip (s₀ := { s with heap := base }) hh D hlen hn hS hfr hTIo _ [] _ rfl (Nat.zero_le _) (fun b o e => ?_) (Z₂.on oth₂ hSS) ⟨_, hS₄⟩ (fun T hm => by simp at hm) hR
  have hb : b ≠ S := fun q => by rw [hfr b (.inr (.inr (.inr (.inr q))))] at e; cases e
  exact oth₂ b o hb (oth b o hb (hkeep b o e))

/-- the list of a zip of two lists, the first by one longer -/
theorem list_of_zip {l1 l2 : Addr} {xs ys : Array Value} {Q : Value → Shared → Prop} (hh : A.handled = none) (hl1 : s.heap.IsList l1 xs) (hl2 : s.heap.IsList l2 ys) (hlen : xs.size = ys.size + 1) (hn : ys.size ≤ 2 ^ 22)
    (h : ∀ (S : Addr) (Ts : List Addr) (h' : Heap), (∀ b o, s.heap.get? b = some o → h'.get? b = some o) → s.heap.get? S = none → Ts.length = ys.size → h'.PlainList S (Ts.map Value.ref).toArray →
      (∀ (j : Nat) (T : Addr), Ts[j]? = some T → ∃ x y, xs[j]? = some x ∧ ys[j]? = some y ∧ IsPair h' T x y) → Q (.ref S) { s with heap := h' }) :
    wpAny (model prog w) A (call (.type "zip") [.ref l1, .ref l2]) (fun v s₁ => wpAny (model prog w) A (call (.type "list") [v]) Q E s₁) E s := by
  have n1 : l1 < s.heap.objs.size := by obtain ⟨o, e, _⟩ := hl1; exact Heap.lt_size e
  have n2 : l2 < s.heap.objs.size := by obtain ⟨o, e, _⟩ := hl2; exact Heap.lt_size e
  have fresh : ∀ b, s.heap.objs.size ≤ b → s.heap.get? b = none := fun b hb => by
    cases q : s.heap.get? b with
    | none => rfl
    | some o => exact absurd (Heap.lt_size q) (Nat.not_lt.mpr hb)
  refine call_zip_2 hl1 hl2 fun h₁ a1 a2 a3 a4 a5 a6 a7 => ?_
  generalize hN : s.heap.objs.size = N at *
  replace n1 := ltN n1
  replace n2 := ltN n2
  refine callType_codes (Q₁ := fun obj s₁ => obj = .ref (N + 5) ∧ s₁ = { s with heap := h₁.push { cls := .type "list", data := .seq #[] } }) F.called_list (F.typeCall_list_1 _) F.entry_list_init
    (code_list_new _ ⟨by show Value.ref h₁.objs.size = _; rw [a6], rfl⟩) fun obj s₁ hq => ?_
  obtain ⟨rfl, rfl⟩ := hq
  have hS : (h₁.push { cls := .type "list", data := .seq #[] }).get? (N + 5) = some { cls := .type "list", data := .seq #[] } := by rw [← a6]; exact Heap.get?_push_size _ rfl
  have D : ZipApart (N + 4) (N + 2) (N + 3) N (N + 1) l1 l2 := by
    constructor <;> (simp only [ne_eq]; first | (show ¬ (_ : Nat) = _; omega))
  refine ⟨⟨_, hS, rfl⟩, F.args_list_init_2 _ _, init_zip (base := s.heap) (S := N + 5) hh D hlen hn ?_ (fun b o e => Heap.get?_push_of_some _ (a7 b o e)) ?_ ?_ ?_ hS ?_⟩
  · refine ⟨?_, ?_, ?_, ?_, ?_, ?_, ?_⟩ <;> (show ¬ (_ : Nat) = _; omega)
  · intro b hb
    refine fresh b ?_
    show N ≤ (b : Nat)
    rcases hb with rfl | rfl | rfl | rfl | rfl <;> omega
  · refine ⟨?_, ?_, ?_, ?_⟩ <;> (show ¬ (_ : Nat) = _; omega)
  · exact ⟨Heap.get?_push_of_some _ a2, a4.at fun o e => Heap.get?_push_of_some _ e, a5.at fun o e => Heap.get?_push_of_some _ e, hl1.at fun o e => Heap.get?_push_of_some _ (a7 _ o e), hl2.at fun o e => Heap.get?_push_of_some _ (a7 _ o e),
      ⟨_, Heap.get?_push_of_some _ a3⟩, .inl ⟨rfl, Heap.get?_push_of_some _ a1, Heap.get?_push_of_some _ a3⟩, fun j T hj => by simp at hj⟩
  · intro Ts h' hk hl hP hp
    exact ⟨rfl, h (N + 5) Ts h' hk (fresh _ (Nat.le_add_right _ _)) hl hP hp⟩
end
end Mine

namespace Mine
open PySem PySem.Calls PySem.W PyProof.Rows PySem.Builtin PySem.SeqAt
set_option maxRecDepth 100000

def firsts (cs : List Nat) : Nat := ((13 :: cs).zip cs).count (13, 46)
def endsN (cs : List Nat) : Nat := cs.count 13
def dotsN (cs : List Nat) : Nat := cs.count 46

open Classical in
/-- is it the pair of 13 and 46 -/
noncomputable def isFirst (h : Heap) (y : Value) : Bool := decide (∃ T ta tb, y = .ref T ∧ IsPair h T (.int 13 ta) (.int 46 tb))

theorem isFirst_ref {h : Heap} {T : Addr} {a b : Int} {ta tb : Tok} (x : IsPair h T (.int a ta) (.int b tb)) : isFirst h (.ref T) = (a == 13 && b == 46) := by
  rw [Bool.eq_iff_iff]
  unfold isFirst
  simp only [decide_eq_true_eq, Bool.and_eq_true, beq_iff_eq]
  constructor
  · rintro ⟨U, ua, ub, e, y⟩
    cases e
    have x' : h.get? T = _ := x
    have y' : h.get? T = _ := y
    rw [x'] at y'
    simp at y'
    exact ⟨y'.1.1, y'.2.1⟩
  · rintro ⟨rfl, rfl⟩
    exact ⟨T, ta, tb, rfl, x⟩

theorem zs_count (cs : List Nat) (k : Nat) : (zs cs).count (k : Int) = cs.count k := by
  unfold zs
  induction cs with
  | nil => rfl
  | cons c r ih =>
    rw [List.map_cons, List.count_cons, List.count_cons, ih]
    congr 1
    by_cases h : c = k
    · simp [h]
    · have : ¬ ((c : Int) = (k : Int)) := by omega
      simp [h, this]

theorem ints_at {vs : List Value} {ns : List Int} (h : IntsAre vs ns) : ∀ {j : Nat} {v : Value}, vs[j]? = some v → ∃ n t, ns[j]? = some n ∧ v = .int n t := by
  induction h with
  | nil => intro j v hj; simp at hj
  | cons n t r ih =>
    intro j v hj
    cases j with
    | zero => simp at hj; exact ⟨n, t, rfl, hj.symm⟩
    | succ j => exact ih (by simpa using hj)

theorem firsts_eq {h : Heap} {Ts : List Addr} {xs ys : List Value} {cs : List Nat} (hx : IntsAre xs (zs (13 :: cs))) (hy : IntsAre ys (zs cs)) (hl : Ts.length = cs.length)
    (hp : ∀ (j : Nat) (T : Addr), Ts[j]? = some T → ∃ x y, xs[j]? = some x ∧ ys[j]? = some y ∧ IsPair h T x y) : (Ts.map Value.ref).countP (isFirst h) = firsts cs := by
  have e : (Ts.map Value.ref).map (isFirst h) = ((13 :: cs).zip cs).map (fun p => p == (13, 46)) := by
    apply List.ext_getElem?
    intro j
    simp only [List.getElem?_map]
    cases hj : Ts[j]? with
    | none =>
      have hj' : cs.length ≤ j := by rw [List.getElem?_eq_none_iff] at hj; omega
      have : ((13 :: cs).zip cs)[j]? = none := by rw [List.getElem?_eq_none_iff]; simp; omega
      simp [this]
    | some T =>
      obtain ⟨x, y, a, b, c⟩ := hp j T hj
      obtain ⟨n1, t1, e1, rfl⟩ := ints_at hx a
      obtain ⟨n2, t2, e2, rfl⟩ := ints_at hy b
      unfold zs at e1 e2
      rw [List.getElem?_map] at e1 e2
      obtain ⟨c1, q1, rfl⟩ := Option.map_eq_some_iff.mp e1
      obtain ⟨c2, q2, rfl⟩ := Option.map_eq_some_iff.mp e2
      have hz : ((13 :: cs).zip cs)[j]? = some (c1, c2) := by rw [List.getElem?_zip_eq_some]; exact ⟨q1, q2⟩
      rw [hz]
      simp only [Option.map_some, Option.some.injEq]
      rw [isFirst_ref c, Bool.eq_iff_iff]
      simp
      omega
  have k1 : ∀ (l : List Value), l.countP (isFirst h) = (l.map (isFirst h)).countP id := fun l => by rw [List.countP_map]; rfl
  have k2 : ∀ (l : List (Nat × Nat)), l.count (13, 46) = (l.map (fun p => p == (13, 46))).countP id := fun l => by rw [List.countP_map]; rfl
  unfold firsts
  rw [k1, k2, e]

theorem call_t2 {M : Model} {A : Around} {E : Value → Shared → Prop} {s : Shared} {T : String} {pos : Pos} {t₁ t₂ : Sem Value} {Q : Value → Shared → Prop}
    (h : wpAny M A t₁ (fun v₁ s₁ => wpAny M A t₂ (fun v₂ s₂ => wpAny M A (call (.type T) [v₁, v₂]) Q E s₂) E s₁) E s) : wpAny M A (callWith pos (.type T) [] [(false, t₁), (false, t₂)] []) Q E s :=
  PyProof.Rows.callWith_type rfl (Calls.evalArgs_plain (Calls.spliced_cons (wpAny_mono h (fun _ _ h₁ => Calls.spliced_cons (wpAny_mono h₁ (fun _ _ h₂ => Calls.spliced_nil h₂) fun _ _ e => e)) fun _ _ e => e)))
theorem call_t1 {M : Model} {A : Around} {E : Value → Shared → Prop} {s : Shared} {T : String} {pos : Pos} {t₁ : Sem Value} {Q : Value → Shared → Prop}
    (h : wpAny M A t₁ (fun v₁ s₁ => wpAny M A (call (.type T) [v₁]) Q E s₁) E s) : wpAny M A (callWith pos (.type T) [] [(false, t₁)] []) Q E s :=
  PyProof.Rows.callWith_type rfl (Calls.evalArgs_plain (Calls.spliced_cons (wpAny_mono h (fun _ _ h₁ => Calls.spliced_nil h₁) fun _ _ e => e)))

section
variable {w : World} {A : Around} {E : Value → Shared → Prop} {s : Shared}

/-- how often the pair of 13 and 46 stands in a list of pairs -/
theorem count_pairs {prog : Program} {S U : Addr} {Ts : List Addr} {xs ys : List Value} {cs : List Nat} {ta tb : Tok} {Q : Value → Shared → Prop} (hu : A.units < 9000) (hS : s.heap.PlainList S (Ts.map Value.ref).toArray)
    (hU : s.heap.get? U = some { cls := .type "tuple", data := .seq #[.int 13 ta, .int 46 tb] }) (hn : ∀ T ∈ Ts, T ≠ U)
    (hx : IntsAre xs (zs (13 :: cs))) (hy : IntsAre ys (zs cs)) (hl : Ts.length = cs.length)
    (hp : ∀ (j : Nat) (T : Addr), Ts[j]? = some T → ∃ x y, xs[j]? = some x ∧ ys[j]? = some y ∧ IsPair s.heap T x y)
    (h : Q (.int (firsts cs : Nat) s.toks) { s with toks := s.toks + 1 }) : wpAny (model prog w) A (call (.builtin "list.count") [.ref S, .ref U]) Q E s := by
  obtain ⟨n, ho⟩ := hS
  refine call_meets PySem.F.slot_list_count ⟨_, ho, rfl⟩ PySem.F.entry_list_count (PySem.F.args_list_count_2 _ _) (list_countAt S (Ts.map Value.ref).toArray n none #[] (.ref U) (isFirst s.heap)) ⟨ho, fun y hy' => ?_, ?_⟩
  · have hy'' : y ∈ Ts.map Value.ref := by simpa using hy'
    obtain ⟨T, hT, rfl⟩ := List.mem_map.mp hy''
    obtain ⟨j, hj⟩ := List.mem_iff_getElem?.mp hT
    obtain ⟨x, y, a, b, c⟩ := hp j T hj
    obtain ⟨n1, t1, _, rfl⟩ := ints_at hx a
    obtain ⟨n2, t2, _, rfl⟩ := ints_at hy b
    rw [isFirst_ref c]
    have hR := RcAt.tuples (A := A.in1) (s := s) (l := T) (b := U) (items := #[.int n1 t1, .int n2 t2]) (items2 := #[.int 13 ta, .int 46 tb]) (e := fun j => if j = 0 then n1 == 13 else n2 == 46) ⟨_, c, rfl, 0, rfl⟩ ⟨_, hU, rfl, 0, rfl⟩
      (by show A.units + 1 < 9900; omega) (fun j h1 h2 => by
        match j, h1 with
        | 0, _ => exact EqAt.int_int _ _ _ _
        | 1, _ => exact EqAt.int_int _ _ _ _)
    have e : ((List.range (min (#[Value.int n1 t1, Value.int n2 t2] : Array Value).size (#[Value.int 13 ta, Value.int 46 tb] : Array Value).size)).all (fun j => if j = 0 then n1 == 13 else n2 == 46) && (#[Value.int n1 t1, Value.int n2 t2] : Array Value).size == (#[Value.int 13 ta, Value.int 46 tb] : Array Value).size) = (n1 == 13 && n2 == 46) := by
      simp [List.range, List.range.loop]
    rw [e] at hR
    exact EqAt.of_refs (hn T hT) hR
  · have := firsts_eq hx hy hl hp
    show Q (.int (((Ts.map Value.ref).toArray.toList.countP (isFirst s.heap) : Nat) : Int) s.toks) _
    rw [List.toList_toArray, this]
    exact h
end
end Mine

namespace Mine
open PySem PySem.Calls PySem.W PyProof.Rows PySem.Builtin PySem.SeqAt
set_option maxRecDepth 100000

section
variable {M : Model} {prog : Program} {w : World} {A : Around} {E : Value → Shared → Prop} {s : Shared}
theorem fresh_size (h : Heap) : h.get? h.objs.size = none := by
  cases q : h.get? h.objs.size with
  | none => rfl
  | some o => exact absurd (Heap.lt_size q) (Nat.lt_irrefl _)
theorem none_of {h h' : Heap} (k : KeepsH h h') {a : Addr} (e : h'.get? a = none) : h.get? a = none := by
  cases q : h.get? a with
  | none => rfl
  | some o => rw [k a o q] at e; cases e
theorem KeepsH.trans {h h' h'' : Heap} (a : KeepsH h h') (b : KeepsH h' h'') : KeepsH h h'' := fun c o e => b c o (a c o e)
theorem mk_list {vs : List Value} {Q : Value → Shared → Prop} (hsz : vs.length ≤ 2 ^ 22) (h : ∀ D h', KeepsH s.heap h' → s.heap.get? D = none → h'.PlainList D vs.toArray → Q (.ref D) { s with heap := h' }) : wpAny M A (newList vs) Q E s :=
  wpAny_newObj_type (T := "list") (h _ _ (fun b o e => Heap.get?_push_of_some _ e) (fresh_size _) ⟨0, Heap.get?_push_size _ rfl⟩) (by show vs.toArray.size ≤ sizeLine; rw [List.size_toArray, sizeLine_eq]; omega)
theorem mk_tuple {vs : List Value} {Q : Value → Shared → Prop} (hsz : vs.length ≤ 2 ^ 22) (h : ∀ T h', KeepsH s.heap h' → s.heap.get? T = none → h'.get? T = some { cls := .type "tuple", data := .seq vs.toArray } → Q (.ref T) { s with heap := h' }) : wpAny M A (newTuple vs) Q E s :=
  wpAny_newTuple (h _ _ (fun b o e => Heap.get?_push_of_some _ e) (fresh_size _) (Heap.get?_push_size _ rfl)) (by rw [sizeLine_eq]; omega)
theorem cat_list {a b : Addr} {vs ws : List Value} {Q : Value → Shared → Prop} (ha : s.heap.PlainList a vs.toArray) (hb : s.heap.PlainList b ws.toArray) (hsz : vs.length + ws.length ≤ 2 ^ 22)
    (h : ∀ D h', KeepsH s.heap h' → s.heap.get? D = none → h'.PlainList D (vs ++ ws).toArray → Q (.ref D) { s with heap := h' }) : wpAny (model prog w) A (binaryOp .Add (.ref a) (.ref b)) Q E s := by
  obtain ⟨n, ea⟩ := ha
  obtain ⟨n', eb⟩ := hb
  refine P.add_list ea eb (h _ _ (fun b o e => Heap.get?_push_of_some _ e) (fresh_size _) ⟨0, ?_⟩) (by rw [sizeLine_eq]; simp; omega)
  rw [Heap.get?_push_size _ rfl]
  simp
end

section
variable {w : World} {A : Around} {E : Value → Shared → Prop} {s : Shared}

theorem count_pairs' {prog : Program} {S U : Addr} {Ts : List Addr} {xs ys : Array Value} {cs : List Nat} {ta tb : Tok} {Q : Value → Shared → Prop} {h₀ : Heap} (k : KeepsH h₀ s.heap)
    (hp : ∀ (j : Nat) (T : Addr), Ts[j]? = some T → ∃ x y, xs[j]? = some x ∧ ys[j]? = some y ∧ IsPair h₀ T x y) (hu : A.units < 9000) (hS : h₀.PlainList S (Ts.map Value.ref).toArray)
    (hUn : h₀.get? U = none) (hU : s.heap.get? U = some { cls := .type "tuple", data := .seq #[.int 13 ta, .int 46 tb] })
    (hx : IntsAre xs.toList (zs (13 :: cs))) (hy : IntsAre ys.toList (zs cs)) (hl : Ts.length = cs.length)
    (h : Q (.int (firsts cs : Nat) s.toks) { s with toks := s.toks + 1 }) : wpAny (model prog w) A (call (.builtin "list.count") [.ref S, .ref U]) Q E s := by
  refine count_pairs (cs := cs) hu (hS.at fun o e => k _ o e) hU (fun T hT q => ?_) hx hy hl (fun j T hj => ?_) h
  · obtain ⟨j, hj⟩ := List.mem_iff_getElem?.mp hT
    obtain ⟨x, y, _, _, c⟩ := hp j T hj
    have c' : h₀.get? T = some _ := c
    rw [q, hUn] at c'
    cases c'
  · obtain ⟨x, y, a, b, c⟩ := hp j T hj
    exact ⟨x, y, by simpa using a, by simpa using b, k _ _ c⟩

theorem law_counts_ok {l : Addr} {vs : List Value} {cs : List Nat} {Q : Value → Shared → Prop} (B : Base w s.heap) (hroom : A.depth < recursionLimit) (hh : A.handled = none) (hu : A.units < 8000)
    (hl : s.heap.PlainList l vs.toArray) (hi : IntsAre vs (zs cs)) (hn : cs.length ≤ 2 ^ 20)
    (h : ∀ (T : Addr) (t1 t2 t3 : Tok) (tk : Nat) (h' : Heap), (∀ b o, s.heap.get? b = some o → h'.get? b = some o) → s.heap.get? T = none →
      h'.get? T = some { cls := .type "tuple", data := .seq #[.int ((cs.length + endsN cs + firsts cs : Nat) : Int) t1, .int (endsN cs : Nat) t2, .int ((dotsN cs + firsts cs : Nat) : Int) t3] } → Q (.ref T) { s with heap := h', toks := tk }) :
    wpAny (model P0 w) A (call (.ref 69) [.ref l]) Q E s := by
  refine wpAny_call (call_plain_ret (binds := [(Str.ofString "codes", .ref l)]) hroom (B.K 69 _ rfl) rfl B.nolimit (codeRec_of (K := K0 w) B.K rfl) rfl (locs rfl) fun h₁ F => ?_)
  have hl₁ := hl.at fun o e => F.keep l o e
  have B₁ : Base w h₁ := B.keeps F.keep
  have hlen := hi.length
  have hzl : (zs cs).length = cs.length := by simp [zs]
  refine wpAny_execs_cons (Assign_Tuple_swapped (names := [Str.ofString "ends", Str.ofString "firsts"]) ?_)
  refine Tuple_ (spliced_more ?_)
  refine Call_method1 rfl rfl rfl (ld F rfl (list_method1 hl₁ PySem.F.slot_list_count PySem.F.type_list_count (wpAny_Constant_int (count_list_ints hl₁.isList hi ?_))))
  dsimp only
  have e13 : (zs cs).count 13 = endsN cs := zs_count cs 13
  rw [e13]
  refine spliced_more ?_
  refine Call_method1 rfl rfl rfl ?_
  refine Call_Name1 (name_boot B₁ rfl boot_list (call_t1 ?_))
  refine Call_Name2 (name_boot B₁ rfl boot_zip (call_t2 ?_))
  refine wpAny_BinOp (List_ (spliced_more (wpAny_Constant_int (spliced_none (mk_list (Nat.le_of_ble_eq_true rfl) fun D h₂ k₂ _ hD => ?_)))))
  dsimp only
  have F₂ := fr_mono F k₂
  refine ld F₂ rfl ?_
  refine cat_list hD (hl₁.at fun o e => k₂ _ o e) (by rw [hlen, hzl]; simp; omega) fun D' h₃ k₃ _ hD' => ?_
  dsimp only
  have F₃ := fr_mono F₂ k₃
  refine ld F₃ rfl ?_
  have hl₃ := (hl₁.at fun o e => k₂ _ o e).at fun o e => k₃ _ o e
  refine list_of_zip hh hD'.isList hl₃.isList (by simp; try omega) (by simp; omega) fun S Ts h₄ k₄ _ hTl hS hp => ?_
  dsimp only
  have F₄ := fr_mono F₃ k₄
  refine list_method1 hS PySem.F.slot_list_count PySem.F.type_list_count ?_
  refine Tuple_ (spliced_more (wpAny_Constant_int (spliced_more (wpAny_Constant_int (spliced_none (mk_tuple (Nat.le_of_ble_eq_true rfl) fun U h₅ k₅ hUn hU => ?_))))))
  dsimp only at hUn hU ⊢
  have F₅ := fr_mono F₄ k₅
  refine count_pairs' (cs := cs) k₅ hp (by show A.units + 3 < 9000; omega) hS hUn hU ?_ ?_ ?_ ?_
  · exact IntsAre.cons 13 _ hi
  · exact hi
  · rw [hTl]; simp; omega
  dsimp only
  refine spliced_none (mk_tuple (Nat.le_of_ble_eq_true rfl) fun V h₆ k₆ hVn hV => ?_)
  dsimp only at hVn hV ⊢
  have F₆ := fr_mono F₅ k₆
  refine unpackItems_tuple (items := #[_, _]) hh ⟨_, hV, rfl, 0, rfl⟩ fun h₇ hx₇ => ?_
  dsimp only at hx₇ ⊢
  have k₇ : KeepsH h₆ h₇ := ext_keeps hx₇
  have F₇ := fr_mono F₆ k₇
  have hl₇ : h₇.PlainList l vs.toArray := hl₃.at fun o e => k₇ _ o (k₆ _ o (k₅ _ o (k₄ _ o e)))
  have hlL : l ≠ s.heap.objs.size := by obtain ⟨n, e⟩ := hl; exact Nat.ne_of_lt (Heap.lt_size e)
  refine assignInOrder_cons (bindName_ (wpAny_storeName_local rfl F₇.ns (fun h₈ hn₈ hs₈ => ?_)))
  have F₈ := F₇.set hn₈ hs₈
  have hl₈ := hl₇.at fun o e => hs₈.extBut l o hlL e
  dsimp only
  refine assignInOrder_cons (bindName_ (wpAny_storeName_local rfl F₈.ns (fun h₉ hn₉ hs₉ => ?_)))
  have F₉ := F₈.set hn₉ hs₉
  have hl₉ := hl₈.at fun o e => hs₉.extBut l o hlL e
  dsimp only
  refine assignInOrder_nil ?_
  have B₉ : Base w h₉ := B.keeps F₉.keep
  refine wpAny_execs_cons (wpAny_Return_some (Tuple_ (spliced_more ?_)))
  refine wpAny_BinOp (wpAny_BinOp (Call_Name1 (name_boot B₉ rfl boot_len (call_b1 (ld F₉ rfl (call_len_list hl₉.isList (by simp; omega) ?_))))))
  dsimp only
  refine ld F₉ rfl (P.add_int ?_)
  dsimp only
  refine ld F₉ rfl (P.add_int ?_)
  dsimp only
  refine spliced_more (ld F₉ rfl (spliced_more ?_))
  refine wpAny_BinOp (Call_method1 rfl rfl rfl (ld F₉ rfl (list_method1 hl₉ PySem.F.slot_list_count PySem.F.type_list_count (wpAny_Constant_int (count_list_ints hl₉.isList hi ?_)))))
  dsimp only
  refine ld F₉ rfl (P.add_int ?_)
  dsimp only
  have e46 : (zs cs).count 46 = dotsN cs := zs_count cs 46
  refine spliced_none (mk_tuple (Nat.le_of_ble_eq_true rfl) fun T h₁₀ k₁₀ hTn hT => ?_)
  dsimp only at hTn hT ⊢
  have e1 : (vs.toArray.size : Int) = (cs.length : Nat) := by simp; omega
  have e2 : ((cs.length : Nat) : Int) + (endsN cs : Nat) + (firsts cs : Nat) = ((cs.length + endsN cs + firsts cs : Nat) : Int) := by push_cast; rfl
  have e3 : ((dotsN cs : Nat) : Int) + (firsts cs : Nat) = ((dotsN cs + firsts cs : Nat) : Int) := by push_cast; rfl
  rw [e46, e1, e2, e3] at hT
  exact h T _ _ _ _ h₁₀ (fun b o e => k₁₀ b o (F₉.keep b o e)) (none_of F₉.keep hTn) hT
end
end Mine

namespace Mine
open PySem PySem.Calls PySem.W PyProof.Rows PySem.Builtin
set_option maxRecDepth 100000

/-- it holds, by objects of the kind ok alone -/
def Pin (R : Heap → Prop) (ok : Addr → Prop) (h : Heap) : Prop := ∃ fp : List Addr, (∀ b ∈ fp, ok b) ∧ ∀ h', (∀ b ∈ fp, ∀ o, h.get? b = some o → h'.get? b = some o) → R h'
theorem Pin.on {R : Heap → Prop} {ok : Addr → Prop} {h h' : Heap} (x : Pin R ok h) (k : ∀ b o, ok b → h.get? b = some o → h'.get? b = some o) : Pin R ok h' := by
  obtain ⟨fp, a, b⟩ := x
  exact ⟨fp, a, fun h'' k' => b h'' fun c hc o e => k' c hc o (k c o (a c hc) e)⟩
theorem Pin.weaken {R : Heap → Prop} {ok ok' : Addr → Prop} {h : Heap} (x : Pin R ok h) (k : ∀ b, ok b → ok' b) : Pin R ok' h := by
  obtain ⟨fp, a, b⟩ := x
  exact ⟨fp, fun c hc => k c (a c hc), b⟩
theorem Pin.here {R : Heap → Prop} {ok : Addr → Prop} {h : Heap} (x : Pin R ok h) : R h := by
  obtain ⟨fp, a, b⟩ := x
  exact b h fun _ _ _ e => e
theorem Pin.pure {R : Heap → Prop} {ok : Addr → Prop} {h : Heap} (x : ∀ h', R h') : Pin R ok h := ⟨[], fun _ hc => by simp at hc, fun h' _ => x h'⟩

section
variable {prog : Program} {w : World} {A : Around} {env : Env}

theorem comp_block {E : Value → Shared → Prop} {elt iter : Expr} {x : Str} {px : Pos} {scope : Scope} {cl : List (Str × Addr)} {pos : Pos} {s₂ : Shared} {I : Addr} {fp wr : List Addr} {n : Nat} {P : Nat → Value → Prop}
    {St : Nat → Heap → Prop} (W : Walks prog w A I fp wr n P St) (hsz : n ≤ 2 ^ 22) (R : Nat → Heap → Value → Prop) {RR : Value → Addr → Result → Shared → Prop} {hb : Heap}
    (kb : KeepsH hb s₂.heap) (hwr : ∀ b ∈ wr, hb.get? b = none) (hlive : ∀ i h, St i h → ∀ b ∈ wr, ∃ o, h.get? b = some o)
    (hcell : ∀ y ∈ scope.names, y.2 ≠ .cell) (hkind : scope.kind = .function) (hx : scope.names.lookup x = some .local) (hst : St 0 s₂.heap) (hfp : ∀ b ∈ fp, b < s₂.heap.objs.size)
    (helt : ∀ C i v h₂ tk₂ m₂, P i v → h₂.Ns C m₂ → m₂ x = some v → KeepsH hb h₂ →
      wpAny (model prog w) A (eval elt (compEnvC scope cl C env)) (fun y s₃ => ∃ h₃ tk₃, s₃ = { s₂ with heap := h₃, toks := tk₃ } ∧ KeepsH h₂ h₃ ∧ Pin (fun h => R i h y) (fun b => h₂.get? b = none) h₃) noE { s₂ with heap := h₂, toks := tk₂ })
    (hRR : ∀ D C h' tk m' ys, hb.get? D = none → hb.get? C = none → D ≠ C → h'.Ns C m' → h'.PlainList D ys → ys.size = n → (∀ i y, ys[i]? = some y → Pin (fun h => R i h y) (fun b => b ≠ C ∧ b ≠ D ∧ hb.get? b = none) h') →
      KeepsH hb h' → RR (.ref D) C (.ok .next) { s₂ with heap := h', toks := tk }) :
    wpAny (model prog w) A (newList []) (fun acc s₃ => wpAny (model prog w) A (newFunctionEnv scope env.globals cl [] env.qual none .none (some env)) (fun cenv s₄ =>
      codeAny (model prog w) A (.compStart (.ListComp elt [⟨.Name x px, iter, [], 0⟩] scope pos) 0 (.ref I) acc { cenv with scope := relabel scope env }) (RR acc cenv.locals) s₄) E s₃) E s₂ := by
  refine wpAny_newObj_type (wpAny_newFunctionEnv hcell (by intro y hy; simp at hy) (fun h₁ hns₁ hsb₁ => ?_) hkind)
  dsimp only at hns₁ hsb₁ ⊢
  generalize hH2 : s₂.heap.push { cls := .type "list", dict := none, data := .seq ([] : List Value).toArray } = H2 at hns₁ hsb₁ ⊢
  have hC : H2.objs.size = s₂.heap.objs.size + 1 := by rw [← hH2, Heap.size_push]
  have hDC : s₂.heap.objs.size ≠ H2.objs.size := by rw [hC]; exact Nat.ne_of_lt (Nat.lt_succ_self _)
  have below : ∀ b, b < s₂.heap.objs.size → b ≠ H2.objs.size ∧ b ≠ s₂.heap.objs.size := fun b hb => ⟨by rw [hC]; exact Nat.ne_of_lt (Nat.lt_succ_of_lt hb), Nat.ne_of_lt hb⟩
  have hDf : s₂.heap.objs.size ∉ fp := fun hm => Nat.lt_irrefl _ (hfp _ hm)
  have hCf : H2.objs.size ∉ fp := fun hm => by have := hfp _ hm; rw [hC] at this; exact Nat.lt_irrefl _ (Nat.lt_of_succ_lt this)
  have old : ∀ b o, s₂.heap.get? b = some o → h₁.get? b = some o := fun b o e => hsb₁.extBut b o (below b (Heap.lt_size e)).1 (Heap.get?_push_of_some _ (hH2 ▸ Heap.get?_push_of_some _ e))
  have hacc : h₁.PlainList s₂.heap.objs.size #[] := ⟨_, hsb₁.extBut _ _ hDC (Heap.get?_push_of_some _ (hH2 ▸ Heap.get?_push_size _ rfl))⟩
  have hst₁ : St 0 h₁ := W.frame _ _ _ hst fun b _ o e => old b o e
  have fresh : ∀ a, s₂.heap.objs.size ≤ a → hb.get? a = none := fun a ha => by
    cases e : hb.get? a with
    | none => rfl
    | some o' => exact absurd (Heap.lt_size (kb _ _ e)) (Nat.not_lt.mpr ha)
  have hCs : s₂.heap.objs.size ≤ H2.objs.size := by rw [hC]; exact Nat.le_succ _
  generalize hDe : s₂.heap.objs.size = D at *
  generalize hCe : H2.objs.size = C at *
  have loop : ∀ s₃ : Shared, s₃ = { s₂ with heap := h₁, toks := s₂.toks + ([] : List (Str × Value)).length } →
      codeAny (model prog w) A (.compLoop (.ListComp elt [⟨.Name x px, iter, [], 0⟩] scope pos) 0 (.ref I) (.ref D) (compEnvC scope cl C env)) (RR (.ref D) C) s₃ := by
    rintro s₃ rfl
    have hCw : C ∉ wr := fun h => hCf (W.sub _ h)
    have hDw : D ∉ wr := fun h => hDf (W.sub _ h)
    refine codeAny_compLoop_list (fun k s' => ∃ i h tk m ys, s' = { s₂ with heap := h, toks := tk } ∧ St i h ∧ h.PlainList D ys ∧ h.Ns C m ∧ ys.size = i ∧ i ≤ n ∧ k = n + 1 - i ∧ KeepsH hb h ∧
      (∀ j y, ys[j]? = some y → Pin (fun h => R j h y) (fun b => b ≠ C ∧ b ≠ D ∧ b ∉ wr ∧ hb.get? b = none) h)) ?_ (n + 1)
      ⟨0, h₁, _, _, #[], rfl, hst₁, hacc, hns₁, rfl, Nat.zero_le _, rfl, fun b o e => old b o (kb b o e), fun j y hj => by simp at hj⟩
    rintro k s' ⟨i, h, tk, m, ys, rfl, hst', hacc', hn', hys, hi, rfl, hk, hpin⟩
    have nb : ∀ b o, hb.get? b = some o → b ∉ wr ∧ b ≠ C ∧ b ≠ D := fun b o e => ⟨fun q => (by rw [hwr b q] at e; cases e), fun q => (by rw [q, fresh C hCs] at e; cases e), fun q => (by rw [q, fresh D (Nat.le_refl _)] at e; cases e)⟩
    by_cases hlt : i < n
    · refine W.item i _ _ _ hlt hst' fun v h₂ tk₂ hPv hst₂ hk₂ => ?_
      refine wpAny_assign_Name (wpAny_storeName_local (env := compEnvC scope cl C env) (lookup_relabel_local hx) (hn'.at' fun o e => hk₂ _ o hCw e) (fun h₃ hn₃ hs₃ => ?_) (by simp [compEnvC, relabel, hkind]))
      have up₃ : ∀ b o, b ∉ wr → b ≠ C → h.get? b = some o → h₃.get? b = some o := fun b o hw hc e => hs₃.extBut b o hc (hk₂ b o hw e)
      have hk₃ : KeepsH hb h₃ := fun b o e => up₃ b o (nb b o e).1 (nb b o e).2.1 (hk b o e)
      have hst₃ : St (i + 1) h₃ := W.frame _ _ _ hst₂ fun b hb' o e => hs₃.extBut b o (fun q => hCf ((show b = C from q) ▸ hb')) e
      refine wpAny_mono (helt C i v h₃ _ _ hPv hn₃ (by simp) hk₃) (fun y s₄ h₄' => ?_) fun _ _ q => q.elim
      obtain ⟨h₄, tk₄, rfl, hk₄, hp₄⟩ := h₄'
      have hacc₃ : h₃.PlainList D ys := hacc'.at fun o e => up₃ D o hDw hDC e
      have hacc₄ : h₄.PlainList D ys := hacc₃.at fun o e => hk₄ _ o e
      refine wpAny_list_append_plain hacc₄ (fun h₅ hl₅ hs₅ => ?_) (by rw [sizeLine_eq]; omega)
      have hst₄ : St (i + 1) h₄ := W.frame _ _ _ hst₃ fun b _ o e => hk₄ b o e
      refine ⟨n + 1 - (i + 1), by omega, i + 1, h₅, tk₄, _, ys.push y, rfl, W.frame _ _ _ hst₄ fun b hb' o e => hs₅.extBut b o (fun q => hDf (q ▸ hb')) e, hl₅, (hn₃.keeps hk₄).sameBut hs₅ (Ne.symm hDC), by simp [hys], hlt, rfl,
        fun b o e => hs₅.extBut b o (nb b o e).2.2 (hk₄ b o (hk₃ b o e)), fun j y' hj => ?_⟩
      · rw [Array.getElem?_push] at hj
        split at hj
        · rename_i hje
          cases hj
          rw [hys] at hje
          subst hje
          have p1 : Pin (fun h => R j h y) (fun b => b ≠ C ∧ b ≠ D ∧ b ∉ wr ∧ hb.get? b = none) h₄ := hp₄.weaken fun b hbn => by
            refine ⟨fun q => ?_, fun q => ?_, fun q => ?_, ?_⟩
            · obtain ⟨o, _, _, e, _⟩ := hn₃; rw [q, show h₃.get? C = some o from e] at hbn; cases hbn
            · obtain ⟨_, e⟩ := hacc₃; rw [q, e] at hbn; cases hbn
            · obtain ⟨o, e⟩ := hlive _ _ hst₃ b q; rw [e] at hbn; cases hbn
            · exact none_of hk₃ hbn
          exact p1.on fun b o hok e => hs₅.extBut b o hok.2.1 e
        · exact (hpin j y' hj).on fun b o hok e => hs₅.extBut b o hok.2.1 (hk₄ b o (up₃ b o hok.2.2.1 hok.1 e))
    · obtain rfl : i = n := by omega
      refine W.done _ _ _ hst' fun h₂ tk₂ hk₂ => ?_
      exact hRR D C h₂ tk₂ m ys (fresh D (Nat.le_refl _)) (fresh C hCs) hDC (hn'.at' fun o e => hk₂ _ o hCw e) (hacc'.at fun o e => hk₂ _ o hDw e) hys
        (fun j y hj => ((hpin j y hj).on fun b o hok e => hk₂ b o hok.2.2.1 e).weaken fun b hok => ⟨hok.1, hok.2.1, hok.2.2.2⟩) fun b o e => hk₂ b o (nb b o e).1 (hk b o e)
  exact codeAny_compStart_list (loop _ rfl) (W.self 0 _ _ _ hst₁ (loop _ rfl))

theorem name_loc {M : Model} {A : Around} {E : Value → Shared → Prop} {s : Shared} {x : Str} {pos : Pos} {v : Value} {m : Str → Option Value} {Q : Value → Shared → Prop} (hn : s.heap.Ns env.locals m) (hv : m x = some v) (h : Q v s)
    (hk : env.scope.kind = .function := by rfl) (hl : env.kindOf x = some .local := by rfl) (hd : (x == ("__debug__" : Str)) = false := by decide) : wpAny M A (eval (.Name x pos) env) Q E s :=
  wpAny_Name (wpAny_loadName_local hk hl hn hv h) hd

/-- what the turns of a comprehension over a list give, and what stands behind it -/
structure CompOn (prog : Program) (w : World) (A : Around) (env : Env) (scope : Scope) (cl : List (Str × Addr)) (x : Str) (elt : Expr) (R : Nat → Heap → Value → Prop) (l : Addr) (items : Array Value) (s₁ : Shared) : Prop where
  il : s₁.heap.IsList l items
  sz : items.size ≤ 2 ^ 22
  elt : ∀ C i v h₂ tk₂ m₂, items[i]? = some v → h₂.Ns C m₂ → m₂ x = some v → KeepsH s₁.heap h₂ →
      wpAny (model prog w) A (eval elt (compEnvC scope cl C env)) (fun y s₃ => ∃ h₃ tk₃, s₃ = { s₁ with heap := h₃, toks := tk₃ } ∧ KeepsH h₂ h₃ ∧ Pin (fun h => R i h y) (fun b => h₂.get? b = none) h₃) noE { s₁ with heap := h₂, toks := tk₂ }

theorem comp_over {elt iter : Expr} {x : Str} {px : Pos} {scope : Scope} {cl : List (Str × Addr)} {pos : Pos} {s₁ : Shared} {l : Addr} {items : Array Value} {R : Nat → Heap → Value → Prop} {RR : Value → Addr → Result → Shared → Prop} (hh : A.handled = none)
    (H : CompOn prog w A env scope cl x elt R l items s₁)
    (hcell : ∀ y ∈ scope.names, y.2 ≠ .cell) (hkind : scope.kind = .function) (hx : scope.names.lookup x = some .local)
    (hRR : ∀ D C h' tk m' ys, s₁.heap.get? D = none → s₁.heap.get? C = none → D ≠ C → h'.Ns C m' → h'.PlainList D ys → ys.size = items.size → (∀ i y, ys[i]? = some y → Pin (fun h => R i h y) (fun b => b ≠ C ∧ b ≠ D ∧ s₁.heap.get? b = none) h') →
      KeepsH s₁.heap h' → RR (.ref D) C (.ok .next) { s₁ with heap := h', toks := tk }) :
    wpAny (model prog w) A (pyIter (.ref l)) (fun it s₂ => wpAny (model prog w) A (newList []) (fun acc s₃ => wpAny (model prog w) A (newFunctionEnv scope env.globals cl [] env.qual none .none (some env)) (fun cenv s₄ =>
      codeAny (model prog w) A (.compStart (.ListComp elt [⟨.Name x px, iter, [], 0⟩] scope pos) 0 it acc { cenv with scope := relabel scope env }) (RR acc cenv.locals) s₄) noE s₃) noE s₂) noE s₁ := by
  refine wpAny_pyIter_list H.il ?_
  have hlt : l < s₁.heap.objs.size := by obtain ⟨o, e, _⟩ := H.il; exact Heap.lt_size e
  refine comp_block (hb := s₁.heap) (Walks.list hh s₁.heap.objs.size l (Nat.ne_of_lt hlt) items) H.sz R (fun b o e => Heap.get?_push_of_some _ e) ?_ ?_ hcell hkind hx ⟨⟨_, Heap.get?_push_size _ rfl, rfl, rfl⟩, H.il.push _⟩ ?_ ?_ ?_
  · intro b hb
    rw [List.mem_singleton.mp hb]
    exact fresh_size _
  · intro i h st b hb
    rw [List.mem_singleton.mp hb]
    obtain ⟨⟨o, e, _⟩, _⟩ := st
    exact ⟨o, e⟩
  · intro b hb
    show b < (s₁.heap.push _).objs.size
    rw [Heap.size_push]
    simp only [List.mem_cons, List.not_mem_nil, or_false] at hb
    rcases hb with rfl | rfl
    · exact Nat.lt_succ_self _
    · exact Nat.lt_succ_of_lt hlt
  · intro C i v h₂ tk₂ m₂ hv hn hm hk
    exact H.elt C i v h₂ tk₂ m₂ hv hn hm hk
  · intro D C h' tk m' ys a1 a2 a3 a4 a5 a6 a7 a8
    exact hRR D C h' tk m' ys a1 a2 a3 a4 a5 a6 a7 a8

/-- a comprehension over a list, its value handed on -/
theorem comp_expr {s : Shared} {elt iter : Expr} {x : Str} {px : Pos} {scope : Scope} {cl : List (Str × Addr)} {pos : Pos} {Q : Value → Shared → Prop} (R : Nat → Heap → Value → Prop) (hh : A.handled = none)
    (hclos : closureFor scope env = pure cl) (hcell : ∀ y ∈ scope.names, y.2 ≠ .cell) (hkind : scope.kind = .function)
    (hnames : ∀ y ∈ scope.names, y.2 = .local → scope.names.lookup y.1 = some .local) (hx : scope.names.lookup x = some .local)
    (h : wpAny (model prog w) A (eval iter env) (fun xv s₁ => ∃ l items, xv = .ref l ∧ CompOn prog w A env scope cl x elt R l items s₁ ∧
      (∀ D h' tk ys, s₁.heap.get? D = none → h'.PlainList D ys → ys.size = items.size → (∀ i y, ys[i]? = some y → Pin (fun h => R i h y) (fun b => b ≠ D ∧ s₁.heap.get? b = none) h') → KeepsH s₁.heap h' → Q (.ref D) { s₁ with heap := h', toks := tk })) noE s)
    (hs : ∀ x, foldedSetIterable iter env x = pure x := by intro _; rfl) :
    wpAny (model prog w) A (eval (.ListComp elt [⟨.Name x px, iter, [], 0⟩] scope pos) env) Q noE s := by
  rw [eval_ListComp]
  refine wpAny_comprehension_free (use := none) rfl hs hclos hkind hnames (wpAny_mono h (fun xv s₁ h₁ => ?_) fun _ _ e => e)
  obtain ⟨l, items, rfl, H, hQ⟩ := h₁
  refine comp_over (RR := fun acc C => compPost (model prog w) A noE none Q acc C) hh H hcell hkind hx ?_
  intro D C h' tk m' ys hD hC hDC hn hpl hlen hP hk
  refine ⟨m', hn, fun h'' hs'' => hQ D h'' tk ys hD (hpl.extBut hs''.extBut hDC) hlen (fun i y hy => ((hP i y hy).on fun b o hok e => hs''.extBut b o hok.1 e).weaken fun b hok => hok.2) fun b o e => hs''.extBut b o ?_ (hk b o e)⟩
  rintro rfl
  rw [hC] at e; cases e

/-- a comprehension over a list, stored in a name of the frame -/
theorem comp_assign {s : Shared} {elt iter : Expr} {x y : Str} {px py : Pos} {scope : Scope} {cl : List (Str × Addr)} {pos spos : Pos} {Q : Flow → Shared → Prop} (R : Nat → Heap → Value → Prop) (hh : A.handled = none)
    (hsw : swapsWith (.ListComp elt [⟨.Name x px, iter, [], 0⟩] scope pos) (some (.Name y py)) spos.line env = pure true)
    (hclos : closureFor scope env = pure cl) (hcell : ∀ y ∈ scope.names, y.2 ≠ .cell) (hkind : scope.kind = .function)
    (hnames : ∀ y ∈ scope.names, y.2 = .local → scope.names.lookup y.1 = some .local) (hx : scope.names.lookup x = some .local)
    (hy : env.kindOf y = some .local) (hp : (env.scope.kind == .class || (env.scope.kind == .module && env.locals != env.globals)) = false)
    (h : wpAny (model prog w) A (eval iter env) (fun xv s₁ => ∃ l items m, xv = .ref l ∧ CompOn prog w A env scope cl x elt R l items s₁ ∧ s₁.heap.Ns env.locals m ∧
      (∀ D h' tk ys, s₁.heap.get? D = none → h'.PlainList D ys → ys.size = items.size → (∀ i y, ys[i]? = some y → Pin (fun h => R i h y) (fun b => b ≠ D ∧ s₁.heap.get? b = none) h') →
        h'.Ns env.locals (fun z => if z = y then some (.ref D) else m z) → (∀ b o, b ≠ env.locals → s₁.heap.get? b = some o → h'.get? b = some o) → Q .next { s₁ with heap := h', toks := tk })) noE s)
    (hs : ∀ x, foldedSetIterable iter env x = pure x := by intro _; rfl) :
    wpAny (model prog w) A (exec (.Assign [.Name y py] (.ListComp elt [⟨.Name x px, iter, [], 0⟩] scope pos) spos) env) Q noE s := by
  rw [exec_Assign_Name_used _ _ _ _ hsw]
  refine wpAny_bind (wpAny_standAt (wpAny_bind ?_))
  show wpAny _ A (do let _ ← comprehension (.ListComp elt [⟨.Name x px, iter, [], 0⟩] scope pos) scope env _ (newList []) false (eval iter env) (some (assign (.Name y py) env))) _ _ s
  refine wpAny_bind (wpAny_mono (wpAny_comprehension_free (use := some (assign (.Name y py) env)) (Q := fun _ s' => Q .next s') rfl hs hclos hkind hnames
    (wpAny_mono h (fun xv s₁ h₁ => ?_) fun _ _ e => e)) (fun _ s' hq => wpAny_pure (wpAny_pure hq)) fun _ _ e => e)
  obtain ⟨l, items, m, rfl, H, hm, hQ⟩ := h₁
  refine comp_over (RR := fun acc C => compPost (model prog w) A noE (some (assign (.Name y py) env)) (fun _ s' => Q .next s') acc C) hh H hcell hkind hx ?_
  intro D C h' tk m' ys hD hC hDC hnC hpl hlen hP hk
  have hLC : env.locals ≠ C := by rintro rfl; obtain ⟨o, _, _, ho, _⟩ := hm; rw [hC] at ho; cases ho
  have hLD : env.locals ≠ D := by rintro rfl; obtain ⟨o, _, _, ho, _⟩ := hm; rw [hD] at ho; cases ho
  have hLs : ∃ o, s₁.heap.get? env.locals = some o := by obtain ⟨o, _, _, ho, _⟩ := hm; exact ⟨o, ho⟩
  show wpAny _ A (assign (.Name y py) env (.ref D)) _ _ _
  refine wpAny_assign_Name (wpAny_storeName_local hy (hm.keeps hk) (fun h₂ hn₂ hs₂ => ?_) hp)
  refine ⟨m', hnC.sameBut hs₂ (Ne.symm hLC), fun h₃ hs₃ => ?_⟩
  refine hQ D h₃ _ ys hD ((hpl.extBut hs₂.extBut (Ne.symm hLD)).extBut hs₃.extBut hDC) hlen (fun i y' hy' => ((hP i y' hy').on fun b o hok e => hs₃.extBut b o hok.1 (hs₂.extBut b o ?_ e)).weaken fun b hok => hok.2) (hn₂.sameBut hs₃ hLC)
    fun b o hbL e => hs₃.extBut b o ?_ (hs₂.extBut b o hbL (hk b o e))
  · intro q
    obtain ⟨o', e'⟩ := hLs
    rw [q, e'] at hok
    cases hok.2.2
  · rintro rfl
    rw [hC] at e; cases e
end
end Mine

namespace Mine
open PySem PySem.Calls PySem.W PyProof.Rows PySem.Builtin
set_option maxRecDepth 100000

theorem pick_to (items : Array Value) (k : Nat) (hk : k < 100) : slicePick items none (some (k : Int)) none = (items.toList.take k).toArray := by
  have e : sliceBounds none (some (k : Int)) none items.size = (((0 : Nat) : Int), ((min k items.size : Nat) : Int), 1) := by
    simp [sliceBounds]
    omega
  rw [kmk_pick_nat items e]
  simp only [List.drop_zero, Nat.sub_zero]
  rw [← Array.length_toList, kmk_take_min]
theorem pick_from (items : Array Value) (k : Nat) (hk : k < 100) : slicePick items (some (k : Int)) none none = (items.toList.drop k).toArray := by
  have e : sliceBounds (some (k : Int)) none none items.size = (((min k items.size : Nat) : Int), ((items.size : Nat) : Int), 1) := by
    simp [sliceBounds]
    omega
  rw [kmk_pick_nat items e]
  rw [← Array.length_toList, kmk_drop_min, List.take_of_length_le]
  rw [List.length_drop]
  omega

section
variable {prog : Program} {w : World} {A : Around} {E : Value → Shared → Prop} {s : Shared} {env : Env}

theorem tail_cut {value : Expr} {a b : Option Expr} {p : Pos} {l : Addr} {items : Array Value} {vl vu : Value} {lo hi : Option Int} {Q : Value → Shared → Prop} (hl : s.heap.IsList l items) (pl : IsPart vl lo) (pu : IsPart vu hi) (hz : items.size ≤ 2 ^ 22)
    (h : ∀ D h', KeepsH s.heap h' → s.heap.get? D = none → h'.PlainList D (slicePick items lo hi none) → Q (.ref D) { s with heap := h' }) :
    wpAny (model prog w) A (subscriptTail value (.Slice a b none p) (.ref l) (.ref s.heap.objs.size)) Q E { s with heap := s.heap.push { cls := .type "slice", data := .fields #[vl, vu, .none] } } := by
  refine kba_turn (value' := PySem.Expr.Name (PySem.Str.ofString "_") ⟨0, 0, 0, 0⟩) (fun _ => rfl) ?_
  refine slice_listK hl pl pu (h _ _ (fun b o e => Heap.get?_push_of_some _ (Heap.get?_push_of_some _ e)) ?_ ⟨0, ?_⟩) (by with_unfolding_all rfl) (by intro _; rfl) (by rw [sizeLine_eq]; omega)
  · cases q : s.heap.get? (s.heap.objs.size + 1) with
    | none => rfl
    | some o => exact absurd (Heap.lt_size q) (by show ¬ (_ : Nat) < _; omega)
  · have : s.heap.objs.size + 1 = (s.heap.push { cls := .type "slice", data := .fields #[vl, vu, .none] }).objs.size := by rw [Heap.size_push]
    rw [this]
    exact Heap.get?_push_size _ rfl

/-- the first k items of a list -/
theorem cut_to {value : Expr} {k : Nat} {q : Nat} {p p' pos : Pos} {Q : Value → Shared → Prop} (hk : k < 100)
    (h : wpAny (model prog w) A (eval value env) (fun v s₁ => ∃ l items, v = .ref l ∧ s₁.heap.IsList l items ∧ items.size ≤ 2 ^ 22 ∧
      ∀ D h' tk, KeepsH s₁.heap h' → s₁.heap.get? D = none → h'.PlainList D (items.toList.take k).toArray → Q (.ref D) { s₁ with heap := h', toks := tk }) E s) :
    wpAny (model prog w) A (eval (.Subscript value (.Slice none (some (.Constant (.int k) q p)) none p') pos) env) Q E s := by
  refine Subscript_ (wpAny_mono h (fun v s₁ h₁ => ?_) fun _ _ e => e)
  obtain ⟨l, items, rfl, hl, hz, hQ⟩ := h₁
  refine wpAny_Slice (wpAny_evalPart_none (wpAny_evalPart_some (wpAny_Constant_int (wpAny_evalPart_none ?_))))
  dsimp only
  refine tail_cut (s := { s₁ with toks := s₁.toks + 1 }) hl .none (.int _ _) hz fun D h' a b c => hQ D h' _ a b ?_
  rw [pick_to items k hk] at c
  exact c
theorem cut_from {value : Expr} {k : Nat} {q : Nat} {p p' pos : Pos} {Q : Value → Shared → Prop} (hk : k < 100)
    (h : wpAny (model prog w) A (eval value env) (fun v s₁ => ∃ l items, v = .ref l ∧ s₁.heap.IsList l items ∧ items.size ≤ 2 ^ 22 ∧
      ∀ D h' tk, KeepsH s₁.heap h' → s₁.heap.get? D = none → h'.PlainList D (items.toList.drop k).toArray → Q (.ref D) { s₁ with heap := h', toks := tk }) E s) :
    wpAny (model prog w) A (eval (.Subscript value (.Slice (some (.Constant (.int k) q p)) none none p') pos) env) Q E s := by
  refine Subscript_ (wpAny_mono h (fun v s₁ h₁ => ?_) fun _ _ e => e)
  obtain ⟨l, items, rfl, hl, hz, hQ⟩ := h₁
  refine wpAny_Slice (wpAny_evalPart_some (wpAny_Constant_int (wpAny_evalPart_none (wpAny_evalPart_none ?_))))
  dsimp only
  refine tail_cut (s := { s₁ with toks := s₁.toks + 1 }) hl (.int _ _) .none hz fun D h' a b c => hQ D h' _ a b ?_
  rw [pick_from items k hk] at c
  exact c
end
end Mine

namespace Mine
open PySem PySem.Calls PySem.W PyProof.Rows PySem.Builtin
set_option maxRecDepth 100000

theorem ints_of_at : ∀ (ys : List Value) (ms : List Int), ys.length = ms.length → (∀ (i : Nat) (y : Value), ys[i]? = some y → ∃ n t, ms[i]? = some n ∧ y = .int n t) → IntsAre ys ms
  | [], [], _, _ => .nil
  | [], _ :: _, h, _ => by simp at h
  | _ :: _, [], h, _ => by simp at h
  | y :: ys, m :: ms, h, hp => by
    obtain ⟨n, t, e, rfl⟩ := hp 0 y rfl
    simp at e
    subst e
    exact .cons m t (ints_of_at ys ms (by simpa using h) fun i y hy => hp (i + 1) y (by simpa using hy))

/-- the six numbers -/
def cellsOf (ns : List Int) : List Nat := (((ns.take 6).map fun (n : Int) => (n.fmod 1000000).toNat) ++ [2, 16, 0, 18, 4, 2]).take 6
theorem cellsOf_len (ns : List Int) : (cellsOf ns).length = 6 := by simp [cellsOf]
theorem cellsOf_lt (ns : List Int) : ∀ n ∈ cellsOf ns, n < 10 ^ 6 := by
  intro n hn
  have := List.mem_of_mem_take hn
  rcases List.mem_append.mp this with h | h
  · obtain ⟨k, _, rfl⟩ := List.mem_map.mp h
    have h1 : 0 ≤ k.fmod 1000000 := Int.fmod_nonneg_of_pos _ (by decide)
    have h2 : k.fmod 1000000 < 1000000 := Int.fmod_lt_of_pos _ (by decide)
    omega
  · simp at h
    rcases h with rfl | rfl | rfl | rfl | rfl | rfl <;> decide

theorem ints_take {vs : List Value} {ns : List Int} (h : IntsAre vs ns) : ∀ k, IntsAre (vs.take k) (ns.take k) := by
  induction h with
  | nil => intro k; simp; exact .nil
  | cons n t r ih =>
    intro k
    cases k with
    | zero => exact .nil
    | succ k => exact .cons n t (ih k)

theorem list6 {M : Model} {A : Around} {E : Value → Shared → Prop} {s : Shared} {env : Env} {a b c d e f : Int} {q1 q2 q3 q4 q5 q6 : Nat} {p1 p2 p3 p4 p5 p6 pos : Pos} {Q : Value → Shared → Prop}
    (h : ∀ D vs h' tk, KeepsH s.heap h' → s.heap.get? D = none → h'.PlainList D (List.toArray vs) → IntsAre vs [a, b, c, d, e, f] → Q (.ref D) { s with heap := h', toks := tk }) :
    wpAny M A (eval (.List [.Constant (.int a) q1 p1, .Constant (.int b) q2 p2, .Constant (.int c) q3 p3, .Constant (.int d) q4 p4, .Constant (.int e) q5 p5, .Constant (.int f) q6 p6] pos) env) Q E s := by
  refine List_ ?_
  refine spliced_more (wpAny_Constant_int ?_)
  refine spliced_more (wpAny_Constant_int ?_)
  refine spliced_more (wpAny_Constant_int ?_)
  refine spliced_more (wpAny_Constant_int ?_)
  refine spliced_more (wpAny_Constant_int ?_)
  refine spliced_more (wpAny_Constant_int ?_)
  refine spliced_none (mk_list (Nat.le_of_ble_eq_true rfl) fun D h' k n hD => ?_)
  exact h D _ h' _ k n hD (.cons _ _ (.cons _ _ (.cons _ _ (.cons _ _ (.cons _ _ (.cons _ _ .nil))))))

theorem call_f1 {M : Model} {A : Around} {E : Value → Shared → Prop} {s : Shared} {f : Addr} {o : Obj} {fd : FuncData} {pos : Pos} {t₁ : Sem Value} {Q : Value → Shared → Prop}
    (h : wpAny M A t₁ (fun v₁ s₁ => (s₁.heap.get? f = some o ∧ o.data = .func fd) ∧ wpAny M A (call (.ref f) [v₁]) Q E s₁) E s) : wpAny M A (callWith pos (.ref f) [] [(false, t₁)] []) Q E s :=
  callWith_function_kw (Calls.evalArgs_plain (Calls.spliced_cons (wpAny_mono h (fun _ _ h₁ => Calls.spliced_nil h₁) fun _ _ e => e)))

theorem strs_of_at : ∀ (ys : List Value) (ms : List Str), ys.length = ms.length → (∀ (i : Nat) (y : Value), ys[i]? = some y → ∃ n t, ms[i]? = some n ∧ y = .str n t) → StrsAre ys ms
  | [], [], _, _ => .nil
  | [], _ :: _, h, _ => by simp at h
  | _ :: _, [], h, _ => by simp at h
  | y :: ys, m :: ms, h, hp => by
    obtain ⟨n, t, e, rfl⟩ := hp 0 y rfl
    simp at e
    subst e
    exact .cons m t (strs_of_at ys ms (by simpa using h) fun i y hy => hp (i + 1) y (by simpa using hy))
theorem strs_at {vs : List Value} {ns : List Str} (h : StrsAre vs ns) : ∀ {j : Nat} {v : Value}, vs[j]? = some v → ∃ n t, ns[j]? = some n ∧ v = .str n t := by
  induction h with
  | nil => intro j v hj; simp at hj
  | cons n t r ih =>
    intro j v hj
    cases j with
    | zero => simp at hj; exact ⟨n, t, rfl, hj.symm⟩
    | succ j => exact ih (by simpa using hj)
theorem strs_len {vs : List Value} {ns : List Str} (h : StrsAre vs ns) : vs.length = ns.length := by
  induction h with
  | nil => rfl
  | cons n t r ih => simp [ih]

theorem cells_zs (ns : List Int) : (((ns.take 6).map fun (n : Int) => n.fmod 1000000) ++ [2, 16, 0, 18, 4, 2]).take 6 = zs (cellsOf ns) := by
  unfold zs cellsOf
  generalize ns.take 6 = m
  rw [List.map_take, List.map_append, List.map_map]
  congr 2
  apply List.map_congr_left
  intro n _
  show n.fmod 1000000 = (((n.fmod 1000000).toNat : Nat) : Int)
  have h1 : 0 ≤ n.fmod 1000000 := Int.fmod_nonneg_of_pos _ (by decide)
  omega
end Mine

namespace Mine
open PySem PySem.Calls PySem.W PyProof.Rows PySem.Builtin
set_option maxRecDepth 100000

theorem room1 (env : Env) : (callerA.deeper env).depth < recursionLimit := by show callerA.depth + 1 < recursionLimit; decide
theorem units1 (env : Env) : (callerA.deeper env).units < 8000 := by show callerA.units + 3 < 8000; decide

abbrev two (elt : Expr) (x1 : Str) (p1 : Pos) (iter1 : Expr) (x2 : Str) (p2 : Pos) (iter2 : Expr) (scope : Scope) (pos : Pos) : Expr := .ListComp elt [⟨.Name x1 p1, iter1, [], 0⟩, ⟨.Name x2 p2, iter2, [], 0⟩] scope pos

theorem turn_two0 (elt : Expr) (x1 : Str) (p1 : Pos) (iter1 : Expr) (x2 : Str) (p2 : Pos) (iter2 : Expr) (scope : Scope) (pos : Pos) (it acc : Value) (env : Env) :
    compTurn (two elt x1 p1 iter1 x2 p2 iter2 scope pos) 0 it acc env = (standAt iter1.pos >>= fun _ => pyNext it >>= fun r => match r with
      | none => pure (.done .next)
      | some v => letOwnedTupleGo (.Name x1 p1) it v >>= fun _ => assign (.Name x1 p1) env v >>= fun _ =>
        eval iter2 env >>= fun x => standAt iter2.pos >>= fun _ => foldedSetIterable iter2 env x >>= fun x => holding [x] (pyIter x) >>= fun i =>
          runOwn (.compStart (two elt x1 p1 iter1 x2 p2 iter2 scope pos) 1 i acc env) env >>= fun _ =>
          again (.compLoop (two elt x1 p1 iter1 x2 p2 iter2 scope pos) 0 it acc env)) := by rfl
theorem turn_two1 (elt : Expr) (x1 : Str) (p1 : Pos) (iter1 : Expr) (x2 : Str) (p2 : Pos) (iter2 : Expr) (scope : Scope) (pos : Pos) (it acc : Value) (env : Env) :
    compTurn (two elt x1 p1 iter1 x2 p2 iter2 scope pos) 1 it acc env = (standAt iter2.pos >>= fun _ => pyNext it >>= fun r => match r with
      | none => pure (.done .next)
      | some v => letOwnedTupleGo (.Name x2 p2) it v >>= fun _ => assign (.Name x2 p2) env v >>= fun _ =>
        (eval elt env >>= fun x => call (.builtin "list.append") [acc, x] >>= fun _ => pure ()) >>= fun _ =>
          again (.compLoop (two elt x1 p1 iter1 x2 p2 iter2 scope pos) 1 it acc env)) := by rfl

section
variable {prog : Program} {w : World} {A : Around} {env : Env} {elt iter1 iter2 : Expr} {x1 x2 : Str} {p1 p2 pos : Pos} {scope : Scope} {R : Result → Shared → Prop} {s : Shared}

theorem start_two {k : Nat} (hk : k = 0 ∨ k = 1) {it acc : Value}
    (h0 : codeAny (model prog w) A (.compLoop (two elt x1 p1 iter1 x2 p2 iter2 scope pos) k it acc env) R s)
    (h : wpAny (model prog w) A (pyIter it) (fun it' s' => codeAny (model prog w) A (.compLoop (two elt x1 p1 iter1 x2 p2 iter2 scope pos) k it' acc env) R s') noE s) :
    codeAny (model prog w) A (.compStart (two elt x1 p1 iter1 x2 p2 iter2 scope pos) k it acc env) R s := by
  refine codeAny_of_tree ?_
  show wpAny _ _ ((compStart (two elt x1 p1 iter1 x2 p2 iter2 scope pos) k it acc env).onRaise (fun x => do noteFrame x env; standAt theWindowsPlace)) _ _ s
  refine wpAny_notedAt ?_
  rcases hk with rfl | rfl
  · unfold compStart
    show wpAny _ _ (ask >>= _) _ _ s
    refine wpAny_bind (wpAny_askSetting (wpAny_ite ?_))
    split
    · first
        | exact wpAny_bind (wpAny_pure (wpAny_pure (And.intro rfl h0)))
        | exact wpAny_pure (And.intro rfl h0)
    · refine wpAny_bind (wpAny_rule ?_)
      show wpAny _ _ (standAt iter1.pos >>= _) _ _ s
      exact wpAny_bind (wpAny_standAt (wpAny_bind (wpAny_mono h (fun it' s' h' => wpAny_pure (And.intro rfl h')) fun _ _ x => x.elim)))
  · unfold compStart
    show wpAny _ _ (ask >>= _) _ _ s
    refine wpAny_bind (wpAny_askSetting (wpAny_ite ?_))
    split
    · first
        | exact wpAny_bind (wpAny_pure (wpAny_pure (And.intro rfl h0)))
        | exact wpAny_pure (And.intro rfl h0)
    · refine wpAny_bind (wpAny_rule ?_)
      show wpAny _ _ (standAt iter2.pos >>= _) _ _ s
      exact wpAny_bind (wpAny_standAt (wpAny_bind (wpAny_mono h (fun it' s' h' => wpAny_pure (And.intro rfl h')) fun _ _ x => x.elim)))

theorem loop_two0 {it acc : Value} (I : Nat → Shared → Prop)
    (turn : ∀ n s, I n s → wpAny (model prog w) A (pyNext it) (fun r s₁ => match r with
      | none => R (.ok .next) s₁
      | some v => wpAny (model prog w) A (assign (.Name x1 p1) env v) (fun _ s₂ => wpAny (model prog w) A (eval iter2 env) (fun x s₃ => wpAny (model prog w) A (pyIter x) (fun i s₄ =>
          codeAny (model prog w) A (.compStart (two elt x1 p1 iter1 x2 p2 iter2 scope pos) 1 i acc env) (fun r s₅ => r = .ok .next ∧ ∃ m, m < n ∧ I m s₅) s₄) noE s₃) noE s₂) noE s₁) noE s)
    (n : Nat) (h : I n s) (hs : ∀ x, foldedSetIterable iter2 env x = pure x) :
    codeAny (model prog w) A (.compLoop (two elt x1 p1 iter1 x2 p2 iter2 scope pos) 0 it acc env) R s := by
  refine codeAny_loop rfl I (fun n s hI => ?_) n h
  show wpAny _ _ ((compTurn (two elt x1 p1 iter1 x2 p2 iter2 scope pos) 0 it acc env).onRaise (fun x => do noteFrame x env; theTreesLotGoes x)) _ _ s
  refine wpAny_noted ?_
  rw [turn_two0]
  refine wpAny_bind (wpAny_standAt (wpAny_bind (wpAny_mono (turn n s hI) (fun r s₁ h₁ => ?_) fun _ _ h' => h'.elim)))
  cases r with
  | none => exact wpAny_pure h₁
  | some v =>
    refine wpAny_bind (wpAny_of_eq (a := ()) rfl ?_)
    refine wpAny_bind (wpAny_mono h₁ (fun _ s₂ h₂ => wpAny_bind (wpAny_mono h₂ (fun x s₃ h₃ => wpAny_bind (wpAny_standAt (wpAny_bind (wpAny_of_eq (hs x) (wpAny_bind (wpAny_holding (wpAny_mono h₃ (fun i s₄ h₄ => ?_) fun _ _ h' => h'.elim))))))) fun _ _ h' => h'.elim)) fun _ _ h' => h'.elim)
    refine wpAny_bind (wpAny_runOwn (codeAny_mono h₄ fun r s₅ h₅ => ?_))
    obtain ⟨rfl, h₅⟩ := h₅
    exact wpAny_pure ⟨rfl, h₅⟩

theorem loop_two1 {it acc : Value} (I : Nat → Shared → Prop)
    (turn : ∀ n s, I n s → wpAny (model prog w) A (pyNext it) (fun r s₁ => match r with
      | none => R (.ok .next) s₁
      | some v => wpAny (model prog w) A (assign (.Name x2 p2) env v) (fun _ s₂ => wpAny (model prog w) A (eval elt env) (fun x s₃ =>
          wpAny (model prog w) A (call (.builtin "list.append") [acc, x]) (fun _ s₄ => ∃ m, m < n ∧ I m s₄) noE s₃) noE s₂) noE s₁) noE s)
    (n : Nat) (h : I n s) :
    codeAny (model prog w) A (.compLoop (two elt x1 p1 iter1 x2 p2 iter2 scope pos) 1 it acc env) R s := by
  refine codeAny_loop rfl I (fun n s hI => ?_) n h
  show wpAny _ _ ((compTurn (two elt x1 p1 iter1 x2 p2 iter2 scope pos) 1 it acc env).onRaise (fun x => do noteFrame x env; theTreesLotGoes x)) _ _ s
  refine wpAny_noted ?_
  rw [turn_two1]
  refine wpAny_bind (wpAny_standAt (wpAny_bind (wpAny_mono (turn n s hI) (fun r s₁ h₁ => ?_) fun _ _ h' => h'.elim)))
  cases r with
  | none => exact wpAny_pure h₁
  | some v =>
    refine wpAny_bind (wpAny_of_eq (a := ()) rfl ?_)
    exact wpAny_bind (wpAny_mono h₁ (fun _ s₂ h₂ => wpAny_bind (wpAny_bind (wpAny_mono h₂ (fun x s₃ h₃ => wpAny_bind (wpAny_mono h₃
      (fun _ s₄ h₄ => wpAny_pure (wpAny_pure ⟨rfl, h₄⟩)) fun _ _ h' => h'.elim)) fun _ _ h' => h'.elim))) fun _ _ h' => h'.elim)
end
end Mine

namespace Mine
open PySem PySem.Calls PySem.W PyProof.Rows PySem.Builtin
set_option maxRecDepth 100000

def glue (a b : Str) : Str := ⟨(a.cps.toList ++ b.cps.toList).toArray⟩

theorem strs_append {vs ws : List Value} {xs ys : List Str} (h : StrsAre vs xs) (h' : StrsAre ws ys) : StrsAre (vs ++ ws) (xs ++ ys) := by
  induction h with
  | nil => exact h'
  | cons y t r ih => exact .cons y t ih

section
variable {prog : Program} {w : World} {A : Around} {env : Env} {elt iter1 iter2 : Expr} {x1 x2 : Str} {p1 p2 pos : Pos} {scope : Scope} {cl : List (Str × Addr)} {s : Shared}

theorem inner_two {R : Result → Shared → Prop} {C D I2 l2 : Addr} {vs2 acc0 : List Value} {ts done hs : List Str} {a : Str} {ta : Tok} {hst : Heap} {tk0 : Nat} {m0 : Str → Option Value} (hh : A.handled = none) (hne : l2 ≠ I2) (hCD : C ≠ D) (hCI : C ≠ I2) (hCl : C ≠ l2) (hDI : D ≠ I2) (hDl : D ≠ l2)
    (hkind : scope.kind = .function) (hx2 : scope.names.lookup x2 = some .local) (hx12 : x1 ≠ x2) (ha : a ∈ hs) (hsz : done.length + ts.length ≤ 2 ^ 20)
    (helt : ∀ h tk m (a b : Str) (ta tb : Tok), h.Ns C m → m x1 = some (.str a ta) → m x2 = some (.str b tb) → a ∈ hs → b ∈ ts →
      wpAny (model prog w) A (eval elt (compEnvC scope cl C env)) (fun v s' => ∃ tv tk', v = .str (glue a b) tv ∧ s' = { s with heap := h, toks := tk' }) noE { s with heap := h, toks := tk })
    (hit : hst.IsListIter I2 l2 0) (hl : hst.PlainList l2 vs2.toArray) (h2 : StrsAre vs2 ts) (hacc : hst.PlainList D acc0.toArray) (h0 : StrsAre acc0 done) (hn : hst.Ns C m0) (hm : m0 x1 = some (.str a ta))
    (hR : ∀ h tk m (acc : List Value), (∀ b o, b ≠ C → b ≠ D → b ≠ I2 → hst.get? b = some o → h.get? b = some o) → h.PlainList D acc.toArray → StrsAre acc (done ++ ts.map (glue a)) → h.Ns C m → R (.ok .next) { s with heap := h, toks := tk }) :
    codeAny (model prog w) A (.compLoop (two elt x1 p1 iter1 x2 p2 iter2 scope pos) 1 (.ref I2) (.ref D) (compEnvC scope cl C env)) R { s with heap := hst, toks := tk0 } := by
  have W := Walks.list (prog := prog) (w := w) hh I2 l2 hne vs2.toArray
  have hlen := strs_len h2
  refine loop_two1 (fun k s' => ∃ i h tk m acc, s' = { s with heap := h, toks := tk } ∧ (h.IsListIter I2 l2 i ∧ h.IsList l2 vs2.toArray) ∧ h.PlainList D (List.toArray acc) ∧ StrsAre acc (done ++ (ts.take i).map (glue a)) ∧ h.Ns C m ∧ m x1 = some (.str a ta) ∧ i ≤ ts.length ∧ k = ts.length + 1 - i ∧
    (∀ b o, b ≠ C → b ≠ D → b ≠ I2 → hst.get? b = some o → h.get? b = some o)) ?_ (ts.length + 1) ⟨0, hst, tk0, m0, acc0, rfl, ⟨hit, hl.isList⟩, hacc, by simpa using h0, hn, hm, Nat.zero_le _, rfl, fun _ _ _ _ _ e => e⟩
  rintro k s' ⟨i, h, tk, m, acc, rfl, hst', hacc', hs', hn', hm', hi, rfl, hk⟩
  by_cases hlt : i < ts.length
  · refine W.item i _ _ _ (by simpa [hlen] using hlt) hst' fun v h₂ tk₂ hPv hst₂ hk₂ => ?_
    have hk₂' : ∀ b o, b ≠ I2 → h.get? b = some o → h₂.get? b = some o := fun b o hb e => hk₂ b o (fun q => hb (List.mem_singleton.mp q)) e
    obtain ⟨b, tb, hb, rfl⟩ := strs_at h2 (by simpa using hPv)
    refine wpAny_assign_Name (wpAny_storeName_local (env := compEnvC scope cl C env) (lookup_relabel_local hx2) (hn'.at' fun o e => hk₂' _ o hCI e) (fun h₃ hn₃ hs₃ => ?_) (by simp [compEnvC, relabel, hkind]))
    have hn₃' : h₃.Ns C (fun x => if x = x2 then some (.str b tb) else m x) := hn₃
    refine wpAny_mono (helt h₃ _ _ a b ta tb hn₃' (by simp [hx12, hm']) (by simp) ha (List.mem_of_getElem? hb)) (fun v s₃ h₃' => ?_) fun _ _ q => q
    obtain ⟨tv, tk₃, rfl, rfl⟩ := h₃'
    have up : ∀ b o, b ≠ C → b ≠ I2 → h.get? b = some o → h₃.get? b = some o := fun b o hc hb e => hs₃.extBut b o hc (hk₂' b o hb e)
    have hacc₃ : h₃.PlainList D (List.toArray acc) := hacc'.at fun o e => up D o (Ne.symm hCD) hDI e
    have hal := strs_len hs'
    refine wpAny_list_append_plain (s := { s with heap := h₃, toks := tk₃ }) hacc₃ (fun h₄ hl₄ hs₄ => ?_) (by rw [sizeLine_eq]; simp at hal ⊢; omega)
    refine ⟨ts.length + 1 - (i + 1), by omega, i + 1, h₄, tk₃, _, acc ++ [.str (glue a b) tv], rfl, ⟨?_, ?_⟩, by simpa using hl₄, ?_, hn₃'.sameBut hs₄ hCD, by simp [hx12, hm'], hlt, rfl, fun c o c1 c2 c3 e => hs₄.extBut c o c2 (up c o c1 c3 (hk c o c1 c2 c3 e))⟩
    · exact (hst₂.1.extBut hs₃.extBut (Ne.symm hCI)).extBut hs₄.extBut (Ne.symm hDI)
    · exact (hst₂.2.extBut hs₃.extBut (Ne.symm hCl)).extBut hs₄.extBut (Ne.symm hDl)
    · have e : (ts.take (i + 1)).map (glue a) = (ts.take i).map (glue a) ++ [glue a b] := by simp [List.take_add_one, hb]
      rw [e, ← List.append_assoc]
      exact strs_append hs' (.cons _ _ .nil)
  · obtain rfl : i = ts.length := by omega
    refine W.done _ _ _ (by simpa [hlen] using hst') fun h₂ tk₂ hk₂ => ?_
    have hk₂' : ∀ b o, b ≠ I2 → h.get? b = some o → h₂.get? b = some o := fun b o hb e => hk₂ b o (fun q => hb (List.mem_singleton.mp q)) e
    refine hR h₂ tk₂ m acc (fun c o c1 c2 c3 e => hk₂' c o c3 (hk c o c1 c2 c3 e)) (hacc'.at fun o e => hk₂' D o hDI e) (by simpa using hs') (hn'.at' fun o e => hk₂' _ o hCI e)

theorem two_over {s₁ : Shared} {l1 : Addr} {vs1 : List Value} {hs ts : List Str} {RR : Value → Addr → Result → Shared → Prop} (hh : A.handled = none) (hl : s₁.heap.PlainList l1 vs1.toArray) (h1 : StrsAre vs1 hs)
    (hcell : ∀ y ∈ scope.names, y.2 ≠ .cell) (hkind : scope.kind = .function) (hx1 : scope.names.lookup x1 = some .local) (hx2 : scope.names.lookup x2 = some .local) (hx12 : x1 ≠ x2) (hsz : hs.length ≤ 10 ∧ ts.length ≤ 10)
    (hs2 : ∀ C x, foldedSetIterable iter2 (compEnvC scope cl C env) x = pure x)
    (hit2 : ∀ C h tk, KeepsH s₁.heap h → wpAny (model prog w) A (eval iter2 (compEnvC scope cl C env)) (fun v s' => ∃ l2 vs2 h' tk', v = .ref l2 ∧ s' = { s₁ with heap := h', toks := tk' } ∧ KeepsH h h' ∧ h.get? l2 = none ∧ h'.PlainList l2 (List.toArray vs2) ∧ StrsAre vs2 ts) noE { s₁ with heap := h, toks := tk })
    (helt : ∀ C h tk m (a b : Str) (ta tb : Tok), h.Ns C m → m x1 = some (.str a ta) → m x2 = some (.str b tb) → a ∈ hs → b ∈ ts →
      wpAny (model prog w) A (eval elt (compEnvC scope cl C env)) (fun v s' => ∃ tv tk', v = .str (glue a b) tv ∧ s' = { s₁ with heap := h, toks := tk' }) noE { s₁ with heap := h, toks := tk })
    (hRR : ∀ D C h' tk m' (acc : List Value), s₁.heap.get? D = none → s₁.heap.get? C = none → D ≠ C → h'.Ns C m' → h'.PlainList D acc.toArray → StrsAre acc (hs.flatMap fun a => ts.map (glue a)) → KeepsH s₁.heap h' → RR (.ref D) C (.ok .next) { s₁ with heap := h', toks := tk }) :
    wpAny (model prog w) A (pyIter (.ref l1)) (fun it s₂ => wpAny (model prog w) A (newList []) (fun acc s₃ => wpAny (model prog w) A (newFunctionEnv scope env.globals cl [] env.qual none .none (some env)) (fun cenv s₄ =>
      codeAny (model prog w) A (.compStart (two elt x1 p1 iter1 x2 p2 iter2 scope pos) 0 it acc { cenv with scope := relabel scope env }) (RR acc cenv.locals) s₄) noE s₃) noE s₂) noE s₁ := by
  have hlt1 : l1 < s₁.heap.objs.size := by obtain ⟨n, e⟩ := hl; exact Heap.lt_size e
  have hlen := strs_len h1
  refine wpAny_pyIter_list hl.isList ?_
  refine wpAny_newList_nil (wpAny_newFunctionEnv hcell (by intro y hy; simp at hy) (fun h₁ hns₁ hsb₁ => ?_) hkind)
  dsimp only at hns₁ hsb₁ ⊢
  generalize hN : s₁.heap.objs.size = N at *
  have e1 : (s₁.heap.push { cls := .type "list_iterator", data := .fields #[.ref l1, .int 0 0] }).objs.size = N + 1 := by rw [Heap.size_push, hN]
  have e2 : ((s₁.heap.push { cls := .type "list_iterator", data := .fields #[.ref l1, .int 0 0] }).push { cls := .type "list", data := .seq #[] }).objs.size = N + 2 := by rw [Heap.size_push, e1]
  rw [e2] at hns₁ hsb₁
  rw [e1]
  show codeAny _ _ (.compStart _ 0 (.ref N) (.ref (N + 1)) (compEnvC scope cl _ env)) (RR (.ref (N + 1)) _) _
  rw [e2]
  have old : KeepsH s₁.heap h₁ := fun b o e => hsb₁.extBut b o (by have := Heap.lt_size e; rw [hN] at this; replace this := ltN this; show ¬ (_ : Nat) = _; omega) (Heap.get?_push_of_some _ (Heap.get?_push_of_some _ (Heap.get?_push_of_some _ e)))
  have fresh : ∀ a, N ≤ a → s₁.heap.get? a = none := fun a ha => by
    cases e : s₁.heap.get? a with
    | none => rfl
    | some o' => have := Heap.lt_size e; rw [hN] at this; exact absurd this (Nat.not_lt.mpr ha)
  have hI : h₁.IsListIter N l1 0 := ⟨_, hsb₁.extBut _ _ (by show ¬ (_ : Nat) = _; omega) (Heap.get?_push_of_some _ (Heap.get?_push_of_some _ (hN ▸ Heap.get?_push_size _ rfl))), rfl, rfl⟩
  have hD : h₁.PlainList (N + 1) #[] := ⟨0, hsb₁.extBut _ _ (by show ¬ (_ : Nat) = _; omega) (Heap.get?_push_of_some _ (e1 ▸ Heap.get?_push_size _ rfl))⟩
  replace hlt1 := ltN hlt1
  have W := Walks.list (prog := prog) (w := w) hh N l1 (by show ¬ (_ : Nat) = _; omega) vs1.toArray
  have loop : ∀ s₃ : Shared, s₃ = { s₁ with heap := h₁, toks := s₁.toks + ([] : List (Str × Value)).length } →
      codeAny (model prog w) A (.compLoop (two elt x1 p1 iter1 x2 p2 iter2 scope pos) 0 (.ref N) (.ref (N + 1)) (compEnvC scope cl (N + 2) env)) (RR (.ref (N + 1)) (N + 2)) s₃ := by
    rintro s₃ rfl
    refine loop_two0 (fun k s' => ∃ i h tk m acc, s' = { s₁ with heap := h, toks := tk } ∧ (h.IsListIter N l1 i ∧ h.IsList l1 vs1.toArray) ∧ h.PlainList (N + 1) (List.toArray acc) ∧ StrsAre acc ((hs.take i).flatMap fun a => ts.map (glue a)) ∧ h.Ns (N + 2) m ∧ i ≤ hs.length ∧ k = hs.length + 1 - i ∧ KeepsH s₁.heap h) ?_
      (hs.length + 1) ⟨0, h₁, _, _, [], rfl, ⟨hI, (hl.at fun o e => old _ o e).isList⟩, hD, .nil, hns₁, Nat.zero_le _, rfl, old⟩ (hs2 _)
    rintro k s' ⟨i, h, tk, m, acc, rfl, hst', hacc', hs', hn', hi, rfl, hk⟩
    by_cases hlt : i < hs.length
    · refine W.item i _ _ _ (by simpa [hlen] using hlt) hst' fun v h₂ tk₂ hPv hst₂ hk₂ => ?_
      have hk₂' : ∀ b o, b ≠ N → h.get? b = some o → h₂.get? b = some o := fun b o hb e => hk₂ b o (fun q => hb (List.mem_singleton.mp q)) e
      obtain ⟨a, ta, ha, rfl⟩ := strs_at h1 (by simpa using hPv)
      refine wpAny_assign_Name (wpAny_storeName_local (env := compEnvC scope cl (N + 2) env) (lookup_relabel_local hx1) (hn'.at' fun o e => hk₂' _ o (by show ¬ (_ : Nat) = _; omega) e) (fun h₃ hn₃ hs₃ => ?_) (by simp [compEnvC, relabel, hkind]))
      have hn₃' : h₃.Ns (N + 2) (fun x => if x = x1 then some (.str a ta) else m x) := hn₃
      have up₃ : ∀ b o, b ≠ N → b ≠ N + 2 → h.get? b = some o → h₃.get? b = some o := fun b o hb hc e => hs₃.extBut b o hc (hk₂' b o hb e)
      have nb : ∀ b o, s₁.heap.get? b = some o → b ≠ N ∧ b ≠ N + 1 ∧ b ≠ N + 2 := fun b o e => by
        have := Heap.lt_size e
        rw [hN] at this
        replace this := ltN this
        refine ⟨?_, ?_, ?_⟩ <;> (show ¬ (_ : Nat) = _; omega)
      have hk₃ : KeepsH s₁.heap h₃ := fun b o e => up₃ b o (nb b o e).1 (nb b o e).2.2 (hk b o e)
      have hacc₃ : h₃.PlainList (N + 1) (List.toArray acc) := hacc'.at fun o e => up₃ _ o (by show ¬ (_ : Nat) = _; omega) (by show ¬ (_ : Nat) = _; omega) e
      refine wpAny_mono (hit2 (N + 2) h₃ _ hk₃) (fun v s₄ h₄' => ?_) fun _ _ q => q
      obtain ⟨l2, vs2, h₄, tk₄, rfl, rfl, k₄, n₄, hl2, ht2⟩ := h₄'
      refine wpAny_pyIter_list hl2.isList ?_
      have hit₃ : h₃.IsListIter N l1 (i + 1) := hst₂.1.extBut hs₃.extBut (by show ¬ (N : Nat) = N + 2; omega)
      have nI2 : ∀ {c o}, h₄.get? c = some o → c ≠ h₄.objs.size := fun e => Nat.ne_of_lt (Heap.lt_size e)
      have nl2 : ∀ {c o}, h₃.get? c = some o → c ≠ l2 := fun e q => by rw [q, n₄] at e; cases e
      have c1 : (N + 2 : Nat) ≠ h₄.objs.size := by obtain ⟨o, _, _, e, _⟩ := hn₃'; exact nI2 (k₄ _ _ e)
      have c2 : (N + 2 : Nat) ≠ l2 := by obtain ⟨o, _, _, e, _⟩ := hn₃'; exact nl2 e
      have c3 : (N + 1 : Nat) ≠ h₄.objs.size := by obtain ⟨n, e⟩ := hacc₃; exact nI2 (k₄ _ _ e)
      have c4 : (N + 1 : Nat) ≠ l2 := by obtain ⟨n, e⟩ := hacc₃; exact nl2 e
      have c5 : (N : Nat) ≠ h₄.objs.size := by obtain ⟨o, e, _⟩ := hit₃; exact nI2 (k₄ _ _ e)
      have c6 : l2 ≠ h₄.objs.size := by obtain ⟨n, e⟩ := hl2; exact nI2 e
      have hdl : ((hs.take i).flatMap fun a => ts.map (glue a)).length ≤ 2 ^ 19 := by
        rw [List.length_flatMap]
        have : ((hs.take i).map fun a => (ts.map (glue a)).length).sum ≤ 10 * 10 := by
          have h3 : (hs.take i).length ≤ 10 := by simp; omega
          have : ∀ l : List Str, (l.map fun a => (ts.map (glue a)).length).sum = l.length * ts.length := fun l => by
            induction l with
            | nil => simp
            | cons x r ih => rw [List.map_cons, List.sum_cons, ih, List.length_map, List.length_cons, Nat.add_mul, Nat.one_mul, Nat.add_comm]
          rw [this]
          exact Nat.mul_le_mul h3 hsz.2
        omega
      have inner : codeAny (model prog w) A (.compLoop (two elt x1 p1 iter1 x2 p2 iter2 scope pos) 1 (.ref h₄.objs.size) (.ref (N + 1)) (compEnvC scope cl (N + 2) env))
          (fun r s₅ => r = .ok .next ∧ ∃ m, m < hs.length + 1 - i ∧ ∃ i h tk m' acc, s₅ = { s₁ with heap := h, toks := tk } ∧ (h.IsListIter N l1 i ∧ h.IsList l1 vs1.toArray) ∧ h.PlainList (N + 1) (List.toArray acc) ∧ StrsAre acc ((hs.take i).flatMap fun a => ts.map (glue a)) ∧ h.Ns (N + 2) m' ∧ i ≤ hs.length ∧ m = hs.length + 1 - i ∧ KeepsH s₁.heap h)
          { s₁ with heap := h₄.push { cls := .type "list_iterator", data := .fields #[.ref l2, .int 0 0] }, toks := tk₄ } := by
        refine inner_two (s := s₁) (C := N + 2) (D := N + 1) (hs := hs) (a := a) (ta := ta) (vs2 := vs2) (ts := ts) (acc0 := acc) (done := (hs.take i).flatMap fun a => ts.map (glue a)) hh c6 (by show ¬ (_ : Nat) = _; omega) c1 c2 c3 c4 hkind hx2 hx12 (List.mem_of_getElem? ha) (by omega)
          (helt (N + 2)) ⟨_, Heap.get?_push_size _ rfl, rfl, rfl⟩ (hl2.at fun o e => Heap.get?_push_of_some _ e) ht2 (hacc₃.at fun o e => Heap.get?_push_of_some _ (k₄ _ o e)) hs' (hn₃'.at' fun o e => Heap.get?_push_of_some _ (k₄ _ o e)) (if_pos rfl) fun h₅ tk₅ m₅ acc₅ hk₅ hD₅ hS₅ hn₅ => ?_
        refine ⟨rfl, hs.length + 1 - (i + 1), by omega, i + 1, h₅, tk₅, m₅, acc₅, rfl, ⟨hit₃.at fun o e => hk₅ _ o (by show ¬ (_ : Nat) = _; omega) (by show ¬ (_ : Nat) = _; omega) c5 (Heap.get?_push_of_some _ (k₄ _ o e)), ?_⟩, hD₅, ?_, hn₅, hlt, rfl, ?_⟩
        · refine (hl.at fun o e => hk₅ _ o (nb _ o e).2.2 (nb _ o e).2.1 (nI2 (k₄ _ o (hk₃ _ o e))) (Heap.get?_push_of_some _ (k₄ _ o (hk₃ _ o e)))).isList
        · have e : (hs.take (i + 1)).flatMap (fun a => ts.map (glue a)) = (hs.take i).flatMap (fun a => ts.map (glue a)) ++ ts.map (glue a) := by simp [List.take_add_one, ha]
          rw [e]
          exact hS₅
        · exact fun b o e => hk₅ b o (nb b o e).2.2 (nb b o e).2.1 (nI2 (k₄ b o (hk₃ b o e))) (Heap.get?_push_of_some _ (k₄ b o (hk₃ b o e)))
      exact start_two (.inr rfl) inner ((Walks.list hh h₄.objs.size l2 c6 vs2.toArray).self 0 _ _ _ ⟨⟨_, Heap.get?_push_size _ rfl, rfl, rfl⟩, (hl2.at fun o e => Heap.get?_push_of_some _ e).isList⟩ inner)
    · obtain rfl : i = hs.length := by omega
      refine W.done _ _ _ (by simpa [hlen] using hst') fun h₂ tk₂ hk₂ => ?_
      have hk₂' : ∀ b o, b ≠ N → h.get? b = some o → h₂.get? b = some o := fun b o hb e => hk₂ b o (fun q => hb (List.mem_singleton.mp q)) e
      refine hRR (N + 1) (N + 2) h₂ tk₂ m acc (fresh _ (by show N ≤ (_ : Nat); omega)) (fresh _ (by show N ≤ (_ : Nat); omega)) (by show ¬ (_ : Nat) = _; omega) (hn'.at' fun o e => hk₂' _ o (by show ¬ (_ : Nat) = _; omega) e) (hacc'.at fun o e => hk₂' _ o (by show ¬ (_ : Nat) = _; omega) e) (by simpa using hs')
        fun b o e => hk₂' b o (fun q => by rw [q, fresh N (Nat.le_refl _)] at e; cases e) (hk b o e)
  exact start_two (.inl rfl) (loop _ rfl) (W.self 0 _ _ _ ⟨hI, (hl.at fun o e => old _ o e).isList⟩ (loop _ rfl))
end
end Mine

namespace Mine
open PySem PySem.Calls PySem.W PyProof.Rows PySem.Builtin
set_option maxRecDepth 100000

/-- the nine texts -/
def textsOf (ns : List Int) : List Str :=
  (((cellsOf ns).map fun c => (⟨(textOf c).toArray⟩ : Str)).take 3).flatMap fun a => (((cellsOf ns).map fun c => (⟨(textOf c).toArray⟩ : Str)).drop 3).map (glue a)

theorem piece_len {ns : List Int} {a : Str} (h : a ∈ (cellsOf ns).map fun c => (⟨(textOf c).toArray⟩ : Str)) : a.cps.size ≤ 7 := by
  obtain ⟨c, hc, rfl⟩ := List.mem_map.mp h
  have := textOf_len (cellsOf_lt ns c hc)
  simpa using this
theorem text_len {ns : List Int} {x : Str} (h : x ∈ textsOf ns) : x.cps.size ≤ 14 := by
  obtain ⟨a, ha, hx⟩ := List.mem_flatMap.mp h
  obtain ⟨b, hb, rfl⟩ := List.mem_map.mp hx
  have h1 := piece_len (List.mem_of_mem_take ha)
  have h2 := piece_len (List.mem_of_mem_drop hb)
  simp [glue]
  omega
theorem textsOf_len (ns : List Int) : (textsOf ns).length = 9 := by
  have h := cellsOf_len ns
  have : ∀ l : List Str, l.length = 6 → ((l.take 3).flatMap fun a => (l.drop 3).map (glue a)).length = 9 := by
    intro l hl
    match l, hl with
    | [a, b, c, d, e, f], _ => rfl
  exact this _ (by simp [h])
theorem strs_take {vs : List Value} {ns : List Str} (h : StrsAre vs ns) : ∀ k, StrsAre (vs.take k) (ns.take k) := by
  induction h with
  | nil => intro k; simp; exact .nil
  | cons n t r ih =>
    intro k
    cases k with
    | zero => exact .nil
    | succ k => exact .cons n t (ih k)
theorem strs_drop {vs : List Value} {ns : List Str} (h : StrsAre vs ns) : ∀ k, StrsAre (vs.drop k) (ns.drop k) := by
  induction h with
  | nil => intro k; simp; exact .nil
  | cons n t r ih =>
    intro k
    cases k with
    | zero => exact .cons n t r
    | succ k => exact ih k
theorem name_cell {M : Model} {A : Around} {E : Value → Shared → Prop} {s : Shared} {env : Env} {x : Str} {pos : Pos} {c : Addr} {v : Value} {Q : Value → Shared → Prop} (hc : env.cells.lookup x = some c) (hv : s.heap.IsCell c (some v)) (h : Q v s)
    (hk : env.scope.kind = .function := by rfl) (hl : env.kindOf x = some .cell := by rfl) (hd : (x == ("__debug__" : Str)) = false := by decide) : wpAny M A (eval (.Name x pos) env) Q E s :=
  wpAny_Name (wpAny_loadName_cell hk hl hc hv h) hd

/-- the row at the place i: the codes of the text there -/
def RowAt (ns : List Int) (i : Nat) (h : Heap) (y : Value) : Prop := ∃ x T ws, (textsOf ns)[i]? = some x ∧ y = .ref T ∧ h.PlainList T (List.toArray ws) ∧ IntsAre ws (zs (codes x.cps.toList))
theorem list_ne_ns {h : Heap} {L D : Addr} {m : Str → Option Value} {items : Array Value} (hn : h.Ns L m) (hD : h.PlainList D items) : D ≠ L := by
  intro q
  obtain ⟨o, _, _, e, e2, _⟩ := hn
  obtain ⟨n, e'⟩ := hD
  rw [q, e] at e'
  cases e'
  cases e2

section
variable {prog : Program} {w : World} {A : Around} {env : Env} {elt iter1 iter2 : Expr} {x1 x2 y : Str} {p1 p2 py pos spos : Pos} {scope : Scope} {cl : List (Str × Addr)} {s : Shared}

theorem two_assign {hs ts : List Str} {Q : Flow → Shared → Prop} (hh : A.handled = none)
    (hsw : swapsWith (two elt x1 p1 iter1 x2 p2 iter2 scope pos) (some (.Name y py)) spos.line env = pure true)
    (hclos : closureFor scope env = pure cl) (hcell : ∀ y ∈ scope.names, y.2 ≠ .cell) (hkind : scope.kind = .function)
    (hnames : ∀ y ∈ scope.names, y.2 = .local → scope.names.lookup y.1 = some .local) (hx1 : scope.names.lookup x1 = some .local) (hx2 : scope.names.lookup x2 = some .local) (hx12 : x1 ≠ x2) (hsz : hs.length ≤ 10 ∧ ts.length ≤ 10)
    (hy : env.kindOf y = some .local) (hp : (env.scope.kind == .class || (env.scope.kind == .module && env.locals != env.globals)) = false)
    (hs2 : ∀ C x, foldedSetIterable iter2 (compEnvC scope cl C env) x = pure x)
    (h : wpAny (model prog w) A (eval iter1 env) (fun xv s₁ => ∃ l1 vs1 m, xv = .ref l1 ∧ s₁.heap.PlainList l1 (List.toArray vs1) ∧ StrsAre vs1 hs ∧ s₁.heap.Ns env.locals m ∧
      (∀ C h tk, KeepsH s₁.heap h → wpAny (model prog w) A (eval iter2 (compEnvC scope cl C env)) (fun v s' => ∃ l2 vs2 h' tk', v = .ref l2 ∧ s' = { s₁ with heap := h', toks := tk' } ∧ KeepsH h h' ∧ h.get? l2 = none ∧ h'.PlainList l2 (List.toArray vs2) ∧ StrsAre vs2 ts) noE { s₁ with heap := h, toks := tk }) ∧
      (∀ C h tk m (a b : Str) (ta tb : Tok), h.Ns C m → m x1 = some (.str a ta) → m x2 = some (.str b tb) → a ∈ hs → b ∈ ts →
        wpAny (model prog w) A (eval elt (compEnvC scope cl C env)) (fun v s' => ∃ tv tk', v = .str (glue a b) tv ∧ s' = { s₁ with heap := h, toks := tk' }) noE { s₁ with heap := h, toks := tk }) ∧
      (∀ D h' tk (acc : List Value), s₁.heap.get? D = none → h'.PlainList D acc.toArray → StrsAre acc (hs.flatMap fun a => ts.map (glue a)) →
        h'.Ns env.locals (fun z => if z = y then some (.ref D) else m z) → (∀ b o, b ≠ env.locals → s₁.heap.get? b = some o → h'.get? b = some o) → Q .next { s₁ with heap := h', toks := tk })) noE s)
    (hs' : ∀ x, foldedSetIterable iter1 env x = pure x) :
    wpAny (model prog w) A (exec (.Assign [.Name y py] (two elt x1 p1 iter1 x2 p2 iter2 scope pos) spos) env) Q noE s := by
  rw [exec_Assign_Name_used _ _ _ _ hsw]
  refine wpAny_bind (wpAny_standAt (wpAny_bind ?_))
  show wpAny _ A (do let _ ← comprehension (two elt x1 p1 iter1 x2 p2 iter2 scope pos) scope env _ (newList []) false (eval iter1 env) (some (assign (.Name y py) env))) _ _ s
  refine wpAny_bind (wpAny_mono (wpAny_comprehension_free (use := some (assign (.Name y py) env)) (Q := fun _ s' => Q .next s') rfl hs' hclos hkind hnames
    (wpAny_mono h (fun xv s₁ h₁ => ?_) fun _ _ e => e)) (fun _ s' hq => wpAny_pure (wpAny_pure hq)) fun _ _ e => e)
  obtain ⟨l1, vs1, m, rfl, hl, h1, hm, hit2, helt, hQ⟩ := h₁
  refine two_over (RR := fun acc C => compPost (model prog w) A noE (some (assign (.Name y py) env)) (fun _ s' => Q .next s') acc C) hh hl h1 hcell hkind hx1 hx2 hx12 hsz hs2 hit2 helt ?_
  intro D C h' tk m' acc hD hC hDC hnC hpl hS hk
  have hLC : env.locals ≠ C := by rintro rfl; obtain ⟨o, _, _, ho, _⟩ := hm; rw [hC] at ho; cases ho
  have hLD : env.locals ≠ D := by rintro rfl; obtain ⟨o, _, _, ho, _⟩ := hm; rw [hD] at ho; cases ho
  show wpAny _ A (assign (.Name y py) env (.ref D)) _ _ _
  refine wpAny_assign_Name (wpAny_storeName_local hy (hm.keeps hk) (fun h₂ hn₂ hs₂ => ?_) hp)
  refine ⟨m', hnC.sameBut hs₂ (Ne.symm hLC), fun h₃ hs₃ => ?_⟩
  refine hQ D h₃ _ acc hD ((hpl.extBut hs₂.extBut (Ne.symm hLD)).extBut hs₃.extBut hDC) hS (hn₂.sameBut hs₃ hLC) fun b o hbL e => hs₃.extBut b o ?_ (hs₂.extBut b o hbL (hk b o e))
  rintro rfl
  rw [hC] at e; cases e
end
end Mine

namespace Mine
open PySem PySem.Calls PySem.W PyProof.Rows PySem.Builtin
set_option maxRecDepth 100000

def sentOf (x : Str) : Str := ⟨(quoted x.cps.toList).toArray⟩
def CntAt (ns : List Int) (i : Nat) (h : Heap) (y : Value) : Prop := ∃ x T t1 t2 t3, (textsOf ns)[i]? = some x ∧ y = .ref T ∧
  h.get? T = some { cls := .type "tuple", data := .seq #[.int ((sentOf x).length : Nat) t1, .int (Txt.count (sentOf x) ⟨#[13, 10]⟩) t2, .int (Txt.count (sentOf x) ⟨#[46]⟩) t3] }
theorem enc_len_le : ∀ (cs : List Nat) (b : Bool), (enc b cs).length ≤ 2 * cs.length
  | [], _ => by simp [enc]
  | c :: r, b => by
    unfold enc
    have h1 := enc_len_le r true
    have h2 := enc_len_le r false
    split
    · simp; omega
    · split
      · simp; omega
      · simp; omega
theorem codes_len_le : ∀ (l : List Nat) (b : Bool), (codesS b l).length ≤ l.length
  | [], _ => by simp [codesS]
  | c :: r, b => by
    unfold codesS
    have h1 := codes_len_le r true
    have h2 := codes_len_le r false
    split
    · simp; omega
    · split
      · split
        · simp; omega
        · simp; omega
      · simp; omega
theorem sent_len {ns : List Int} {i : Nat} {x : Str} (hx : (textsOf ns)[i]? = some x) : (quoted x.cps.toList).length ≤ 28 := by
  rw [quoted_eq]
  have h1 := enc_len_le (codes x.cps.toList) true
  have h2 := codes_len_le x.cps.toList false
  have h3 := text_len (List.mem_of_getElem? hx)
  unfold codes at *
  simp at *
  omega
theorem sent_fits {ns : List Int} {i : Nat} {x : Str} (hx : (textsOf ns)[i]? = some x) : ¬ (((⟨(quoted x.cps.toList).toArray⟩ : Str).length : Nat) : Int) ≥ 2 ^ 63 := by
  have := sent_len hx
  show ¬ (((quoted x.cps.toList).toArray.size : Nat) : Int) ≥ 2 ^ 63
  rw [List.size_toArray]
  omega
end Mine

namespace Mine
open PySem PySem.Calls PySem.W PyProof.Rows PySem.Builtin PySem.SeqAt
set_option maxRecDepth 100000

/-- how many dots stand first, b: does the list begin a row -/
def fst' : Bool → List Nat → Nat
  | _, [] => 0
  | b, c :: r => (if b = true ∧ c = 46 then 1 else 0) + fst' (c == 13) r
theorem firsts_from : ∀ (cs : List Nat) (p : Nat), ((p :: cs).zip cs).count (13, 46) = fst' (p == 13) cs
  | [], _ => rfl
  | c :: r, p => by
    rw [List.zip_cons_cons, List.count_cons, firsts_from r c, fst']
    rw [Nat.add_comm]
    congr 1
    by_cases h : p = 13 <;> by_cases h' : c = 46 <;> simp [h, h']
theorem firsts_eq' (cs : List Nat) : firsts cs = fst' true cs := firsts_from cs 13

theorem len_enc_b : ∀ (cs : List Nat) (b : Bool), (enc b cs).length = cs.length + cs.count 13 + fst' b cs
  | [], _ => rfl
  | c :: r, b => by
    unfold enc fst'
    by_cases h : c = 13
    · subst h
      simp [len_enc_b r true]
      omega
    · by_cases h' : b = true ∧ c = 46
      · obtain ⟨rfl, rfl⟩ := h'
        simp [len_enc_b r false]
        omega
      · have e : (c == 13) = false := by simp [h]
        rw [if_neg h, if_neg h', if_neg h', e]
        simp [len_enc_b r false, List.count_cons, h]
        omega
theorem len_enc {cs : List Nat} : (enc true cs).length = cs.length + endsN cs + firsts cs := by rw [firsts_eq']; exact len_enc_b cs true

theorem cnt_enc_b : ∀ (cs : List Nat) (b : Bool), (enc b cs).count 46 = cs.count 46 + fst' b cs
  | [], _ => rfl
  | c :: r, b => by
    unfold enc fst'
    by_cases h : c = 13
    · subst h
      simp [cnt_enc_b r true]
    · by_cases h' : b = true ∧ c = 46
      · obtain ⟨rfl, rfl⟩ := h'
        simp [cnt_enc_b r false]
        omega
      · have e : (c == 13) = false := by simp [h]
        rw [if_neg h, if_neg h', if_neg h', e]
        simp [cnt_enc_b r false, List.count_cons]
        omega
theorem cnt_is (c : Nat) : ∀ l : List Nat, PyProof.Rows.cnt c l = (l.count c : Nat)
  | [] => rfl
  | n :: r => by
    rw [PyProof.Rows.cnt_cons, cnt_is c r, List.count_cons]
    by_cases h : n = c <;> simp [h] <;> omega
theorem count_dots {cs : List Nat} : Txt.count ⟨(enc true cs).toArray⟩ ⟨#[46]⟩ = ((dotsN cs + firsts cs : Nat) : Int) := by
  rw [count_cnt, cnt_is, firsts_eq', List.toList_toArray, cnt_enc_b]
  rfl

theorem pairs_enc : ∀ (cs : List Nat) (b : Bool) (k : Nat), (enc b cs)[k]? = some 13 → (enc b cs)[k + 1]? = some 10
  | [], _, k, h => by simp [enc] at h
  | c :: r, b, k, h => by
    unfold enc at h ⊢
    split at h
    · rename_i hc
      rw [if_pos hc]
      match k, h with
      | 0, _ => rfl
      | 1, h => simp at h
      | k + 2, h => exact pairs_enc r true k (by simpa using h)
    · rename_i hc
      rw [if_neg hc]
      split at h
      · rename_i hd
        rw [if_pos hd]
        match k, h with
        | 0, h => simp at h
        | 1, h => simp at h
        | k + 2, h => exact pairs_enc r false k (by simpa using h)
      · rename_i hd
        rw [if_neg hd]
        match k, h with
        | 0, h => simp at h; exact absurd h hc
        | k + 1, h => exact pairs_enc r false k (by simpa using h)
theorem cnt13_enc : ∀ (cs : List Nat) (b : Bool), (enc b cs).count 13 = cs.count 13
  | [], _ => rfl
  | c :: r, b => by
    unfold enc
    by_cases h : c = 13
    · subst h
      simp [cnt13_enc r true]
    · by_cases h' : b = true ∧ c = 46
      · obtain ⟨rfl, rfl⟩ := h'
        simp [cnt13_enc r false]
      · rw [if_neg h, if_neg h']
        simp [cnt13_enc r false, List.count_cons, h]
theorem at_two (x : Str) (k : Nat) : StrLaws.At x ⟨#[13, 10]⟩ x.length k ↔ x.cps.toList.drop k = 13 :: 10 :: x.cps.toList.drop (k + 2) := by
  have e2 : (⟨#[13, 10]⟩ : Str).length = 2 := rfl
  have e3 : (⟨#[13, 10]⟩ : Str).cps.toList = [13, 10] := rfl
  unfold StrLaws.At
  rw [StrLaws.subAt_eq, e2, e3, beq_iff_eq]
  constructor
  · rintro ⟨_, h⟩
    rw [← List.take_append_drop 2 (x.cps.toList.drop k), h, List.drop_drop]
    rfl
  · intro h
    refine ⟨?_, by rw [h]; rfl⟩
    have := congrArg List.length h
    simp at this
    show k + 2 ≤ x.cps.size
    omega
theorem chain_two (x : Str) (hp : ∀ k, x.cps.toList[k]? = some 13 → x.cps.toList[k + 1]? = some 10) : ∀ (cuts : List Nat) (a f : Nat), StrLaws.ChainG x ⟨#[13, 10]⟩ x.length a cuts f → (∀ k, f ≤ k → ¬ StrLaws.At x ⟨#[13, 10]⟩ x.length k) → (x.cps.toList.drop a).count 13 = cuts.length := by
  have hat : ∀ k, x.cps.toList[k]? = some 13 → StrLaws.At x ⟨#[13, 10]⟩ x.length k := fun k h => by
    rw [at_two]
    obtain ⟨q, e⟩ := List.getElem?_eq_some_iff.mp h
    obtain ⟨q', e'⟩ := List.getElem?_eq_some_iff.mp (hp k h)
    rw [List.drop_eq_getElem_cons q, e, List.drop_eq_getElem_cons q', e']
  intro cuts
  induction cuts with
  | nil =>
    intro a f h hn
    have e : f = a := h
    subst e
    show List.count 13 _ = 0
    rw [List.count_eq_zero]
    intro hm
    obtain ⟨j, hj⟩ := List.getElem?_of_mem hm
    rw [List.getElem?_drop] at hj
    exact hn (f + j) (by omega) (hat _ hj)
  | cons d r ih =>
    intro a f h hn
    obtain ⟨had, hAt, hgap, hrest⟩ := h
    have ih := ih _ f hrest hn
    have e1 : x.cps.toList.drop a = (x.cps.toList.drop a).take (d - a) ++ (x.cps.toList.drop a).drop (d - a) := (List.take_append_drop _ _).symm
    have e2 : (x.cps.toList.drop a).drop (d - a) = x.cps.toList.drop d := by rw [List.drop_drop]; congr 1; omega
    have hfree : ((x.cps.toList.drop a).take (d - a)).count 13 = 0 := by
      rw [List.count_eq_zero]
      intro hm
      obtain ⟨j, hj⟩ := List.getElem?_of_mem hm
      have hlt : j < d - a := by
        have h1 : j < ((x.cps.toList.drop a).take (d - a)).length := (List.getElem?_eq_some_iff.mp hj).1
        simp at h1
        omega
      rw [List.getElem?_take_of_lt hlt, List.getElem?_drop] at hj
      exact hgap (a + j) (by omega) (by omega) (hat _ hj)
    have ih' : (x.cps.toList.drop (d + 2)).count 13 = r.length := ih
    rw [e1, List.count_append, hfree, e2, (at_two x d).mp hAt]
    simp [ih']
theorem count_ends {cs : List Nat} : Txt.count ⟨(enc true cs).toArray⟩ ⟨#[13, 10]⟩ = (endsN cs : Int) := by
  obtain ⟨f, hG, hn⟩ := StrLaws.occ_tight ⟨(enc true cs).toArray⟩ ⟨#[13, 10]⟩ (by show 1 ≤ 2; omega)
  have := chain_two ⟨(enc true cs).toArray⟩ (by simpa using pairs_enc cs true) _ 0 f hG hn
  unfold Txt.count
  rw [← this, List.drop_zero, List.toList_toArray, cnt13_enc]
  rfl

/-- the codes as they are sent keep the order: of two rows that stand alike -/
theorem enc_lt_b : ∀ (u v : List Nat) (b : Bool), 10 ∉ u → 10 ∉ v → (enc b u < enc b v ↔ u < v)
  | [], [], b, _, _ => by simp [enc]
  | [], c :: r, b, _, _ => by
    unfold enc
    split
    · simp
    · split <;> simp
  | c :: r, [], b, _, _ => by
    unfold enc
    split
    · simp
    · split <;> simp
  | c :: r, d :: q, b, hu, hv => by
    have hr : 10 ∉ r := fun h => hu (List.mem_cons_of_mem _ h)
    have hq : 10 ∉ q := fun h => hv (List.mem_cons_of_mem _ h)
    have i1 := enc_lt_b r q true hr hq
    have i2 := enc_lt_b r q false hr hq
    unfold enc
    by_cases e : c = d
    · subst e
      split
      · simp [i1, List.cons_lt_cons_iff]
      · split <;> simp [i2, List.cons_lt_cons_iff]
    · split <;> split <;> (try split) <;> (try split) <;> simp_all [List.cons_lt_cons_iff] <;> omega
theorem enc_lt {u v : List Nat} (hu : 10 ∉ u) (hv : 10 ∉ v) : enc true u < enc true v ↔ u < v := enc_lt_b u v true hu hv
theorem enc_inj {u v : List Nat} (hu : 10 ∉ u) (hv : 10 ∉ v) : enc true u = enc true v ↔ u = v := by
  constructor
  · intro h
    have a : ¬ u < v := fun q => by have := (enc_lt hu hv).mpr q; rw [h] at this; exact List.lt_irrefl _ this
    have b : ¬ v < u := fun q => by have := (enc_lt hv hu).mpr q; rw [h] at this; exact List.lt_irrefl _ this
    exact List.le_antisymm b a
  · rintro rfl; rfl
end Mine

namespace Mine
open PySem PySem.Calls PySem.W PyProof.Rows PySem.Builtin PySem.SeqAt
set_option maxRecDepth 100000
def LcAt (ns : List Int) (h₀ : Heap) (i : Nat) (h : Heap) (y : Value) : Prop := ∃ x T t1 t2 t3, (textsOf ns)[i]? = some x ∧ y = .ref T ∧ h₀.get? T = none ∧
  h.get? T = some { cls := .type "tuple", data := .seq #[.int (((codes x.cps.toList).length + endsN (codes x.cps.toList) + firsts (codes x.cps.toList) : Nat) : Int) t1, .int (endsN (codes x.cps.toList) : Nat) t2, .int ((dotsN (codes x.cps.toList) + firsts (codes x.cps.toList) : Nat) : Int) t3] }
theorem codes_len {ns : List Int} {i : Nat} {x : Str} (hx : (textsOf ns)[i]? = some x) : (codes x.cps.toList).length ≤ 2 ^ 20 := by
  have h2 := codes_len_le x.cps.toList false
  have h3 := text_len (List.mem_of_getElem? hx)
  unfold codes
  simp at *
  omega
section
variable {prog : Program} {w : World} {A : Around} {E : Value → Shared → Prop} {s : Shared}
theorem counts_same {ns : List Int} {h₀ : Heap} {Dn Dm : Addr} {ysN ysM : Array Value} {Q : Value → Shared → Prop} (k : KeepsH h₀ s.heap) (hDn : s.heap.PlainList Dn ysN) (hDm : s.heap.PlainList Dm ysM) (hN : ysN.size = 9) (hM : ysM.size = 9)
    (a : ∀ i y, ysN[i]? = some y → CntAt ns i h₀ y) (b : ∀ i y, ysM[i]? = some y → LcAt ns h₀ i s.heap y) (hu : A.units < 8000) (h : Q (.bool false) s) : wpAny (model prog w) A (compareOp .NotEq (.ref Dn) (.ref Dm)) Q E s := by
  have R := RcNeAt.lists (A := A) (e := fun _ => true) hDn.isList hDm.isList (by omega) (by show A.units < 9900; omega) (fun j h1 h2 => by
    obtain ⟨x, T, t1, t2, t3, hx, e, ho⟩ := a j _ (Array.getElem?_eq_getElem h1)
    obtain ⟨x', U, u1, u2, u3, hx', e', hn, ho'⟩ := b j _ (Array.getElem?_eq_getElem h2)
    rw [hx] at hx'
    cases hx'
    rw [e, e']
    have hTU : T ≠ U := fun q => by rw [q, hn] at ho; cases ho
    have hR := RcAt.tuples (A := A.in1) (s := s) (e := fun _ => true) ⟨_, k _ _ ho, rfl, 0, rfl⟩ ⟨_, ho', rfl, 0, rfl⟩ (by show A.units + 1 < 9900; omega) (fun j h1 h2 => by
      have q0 : sentOf x = ⟨(enc true (codes x.cps.toList)).toArray⟩ := by unfold sentOf; rw [quoted_eq]
      have e1 : ((sentOf x).length : Int) = (((codes x.cps.toList).length + endsN (codes x.cps.toList) + firsts (codes x.cps.toList) : Nat) : Int) := by
        rw [← len_enc, q0]
        show (((enc true (codes x.cps.toList)).toArray.size : Nat) : Int) = _
        rw [List.size_toArray]
      have e2 := count_ends (cs := codes x.cps.toList)
      have e3 := count_dots (cs := codes x.cps.toList)
      rw [← q0] at e2 e3
      have E := @EqAt.int_int A.in1.in1 s
      match j, h1 with
      | 0, _ => have := E ((sentOf x).length : Nat) t1 (((codes x.cps.toList).length + endsN (codes x.cps.toList) + firsts (codes x.cps.toList) : Nat) : Int) u1; rw [beq_iff_eq.mpr e1] at this; exact this
      | 1, _ => have := E (Txt.count (sentOf x) ⟨#[13, 10]⟩) t2 (endsN (codes x.cps.toList) : Nat) u2; rw [beq_iff_eq.mpr e2] at this; exact this
      | 2, _ => have := E (Txt.count (sentOf x) ⟨#[46]⟩) t3 ((dotsN (codes x.cps.toList) + firsts (codes x.cps.toList) : Nat) : Int) u3; rw [beq_iff_eq.mpr e3] at this; exact this)
    exact EqAt.of_refs hTU hR)
  refine R prog w E Q ?_
  rw [List.all_eq_true.mpr (fun _ _ => rfl)]
  exact h
end
end Mine

namespace Mine
open PySem PySem.Calls PySem.W PyProof.Rows PySem.Builtin PySem.SeqAt
open PySem.AutoSeq1 (wpAny_loadPart')
open PySem.MeetsSeq PySem.MeetsSeq2 PySem.MeetsSeq3
set_option maxRecDepth 100000

def ltI : List Int → List Int → Bool
  | [], [] => false
  | [], _ :: _ => true
  | _ :: _, [] => false
  | a :: r, b :: q => if a == b then ltI r q else decide (a < b)

theorem ltI_short : ∀ (a b : List Int), a.length = 0 ∨ b.length = 0 → ltI a b = decide (a.length < b.length)
  | [], [], _ => rfl
  | [], _ :: _, _ => by simp [ltI]
  | _ :: _, [], _ => by simp [ltI]
  | _ :: _, _ :: _, h => by simp at h

theorem lt_loopAt (l b : Addr) (items items2 : Array Value) (n n2 : Nat) (dd dd2 : Option Addr) (sl sl2 : Array (Option Value)) (ns ms : List Int) (hI : IntsAre items.toList ns) (hJ : IntsAre items2.toList ms) (k : Nat) :
    ∀ i : Nat, min items.size items2.size - i = k → i ≤ items.size → i ≤ items2.size → Meets (Builtin.«list.__eq__.loop» ⟨[.ref l, .ref b, rawInt i, rawInt 0], []⟩)
      (fun _ R s => s.heap.get? l = some { cls := .type "list", dict := dd, data := .seq items n, slots := sl } ∧ s.heap.get? b = some { cls := .type "list", dict := dd2, data := .seq items2 n2, slots := sl2 } ∧
        R (.ok (.ret (.bool (ltI (ns.drop i) (ms.drop i))))) s) := by
  have hIl := hI.length
  have hJl := hJ.length
  simp at hIl hJl
  induction k with
  | zero =>
    intro i hk hle1 hle2 prog w A R s h
    obtain ⟨hp, g, d, tk, os⟩ := s; obtain ⟨hl, hb, h⟩ := h
    wp_walk using wpAny_loadPart' hl, wpAny_loadPart' hb
    have hd : ltI (ns.drop i) (ms.drop i) = decide (items.size < items2.size) := by
      rw [ltI_short _ _ (by simp; omega)]
      simp
      omega
    rw [hd] at h
    by_cases c1 : items.size ≤ i
    · have hi1 : items[((i : Nat) : Int).toNat]? = none := by simp; omega
      rw [hi1]
      wp_walk using wpAny_loadPart' hl, wpAny_loadPart' hb
      exact h
    · have hlt : i < items.size := by omega
      have hi1 : items[((i : Nat) : Int).toNat]? = some items[i] := by simp [hlt]
      have hi2 : items2[((i : Nat) : Int).toNat]? = none := by simp; omega
      rw [hi1, hi2]
      wp_walk using wpAny_loadPart' hl, wpAny_loadPart' hb
      exact h
  | succ k ih =>
    intro i hk hle1 hle2 prog w A R s h
    obtain ⟨hp, g, d, tk, os⟩ := s; obtain ⟨hl, hb, h⟩ := h
    wp_walk using wpAny_loadPart' hl, wpAny_loadPart' hb
    have hlt : i < items.size := by omega
    have hlt2 : i < items2.size := by omega
    obtain ⟨a, t, ha, ea⟩ := ints_at hI (j := i) (v := items[i]) (by simp [hlt])
    obtain ⟨c, u, hc', ec⟩ := ints_at hJ (j := i) (v := items2[i]) (by simp [hlt2])
    have hi1 : items[((i : Nat) : Int).toNat]? = some (.int a t) := by simp [hlt, ea]
    have hi2 : items2[((i : Nat) : Int).toNat]? = some (.int c u) := by simp [hlt2, ec]
    have hd1 : ns.drop i = a :: ns.drop (i + 1) := by
      obtain ⟨q, e⟩ := List.getElem?_eq_some_iff.mp ha
      rw [List.drop_eq_getElem_cons q, e]
    have hd2 : ms.drop i = c :: ms.drop (i + 1) := by
      obtain ⟨q, e⟩ := List.getElem?_eq_some_iff.mp hc'
      rw [List.drop_eq_getElem_cons q, e]
    have hc : ((i : Int) + 1) = ((i + 1 : Nat) : Int) := by push_cast; rfl
    rw [hd1, hd2, ltI] at h
    rw [hi1, hi2]
    refine wpAny_bind (EqAt.int_int a t c u prog w _ _ ?_)
    cases hb' : a == c with
    | true =>
      rw [hb'] at h
      wp_walk
      rw [hc]
      exact ⟨plainId_quiet plain_eq_loop _, codeAny_builtin entry_eq_loop (by
        rw [Around.under_plainId plain_eq_loop _]
        exact ih (i + 1) (by omega) hlt hlt2 prog w A R _ ⟨hl, hb, by simpa using h⟩)⟩
    | false =>
      rw [hb'] at h
      wp_walk using wpAny_loadPart' hl, wpAny_loadPart' hb
      rw [hi1, hi2]
      show wpAny (model prog w) A.in1 (do let v ← richCompare CmpOp.Lt (.int a t) (.int c u); ret v) _ _ _
      refine wpAny_bind (show wpAny (model prog w) A.in1 (compareOp .Lt (.int a t) (.int c u)) _ _ _ from P.lt_int ?_)
      wp_walk
      simpa using h

theorem list_ltAt (l b : Addr) (items items2 : Array Value) (n n2 : Nat) (dd dd2 : Option Addr) (sl sl2 : Array (Option Value)) (ns ms : List Int) (hI : IntsAre items.toList ns) (hJ : IntsAre items2.toList ms) :
    Meets (Builtin.«list.__lt__» ⟨[.ref l, .ref b], []⟩)
      (fun _ R s => s.heap.get? l = some { cls := .type "list", dict := dd, data := .seq items n, slots := sl } ∧ s.heap.get? b = some { cls := .type "list", dict := dd2, data := .seq items2 n2, slots := sl2 } ∧
        R (.ok (.ret (.bool (ltI ns ms)))) s) := by
  intro prog w A R s h
  obtain ⟨hp, g, d, tk, os⟩ := s; obtain ⟨hl, hb, h⟩ := h
  have f3 := AutoSeq1.sub_list_list
  wp_walk using wpAny_loadPart' hl, wpAny_loadPart' hb
  exact ⟨plainId_quiet plain_eq_loop _, codeAny_builtin entry_eq_loop (by
    rw [Around.under_plainId plain_eq_loop _]
    exact lt_loopAt l b items items2 n n2 dd dd2 sl sl2 ns ms hI hJ _ 0 rfl (Nat.zero_le _) (Nat.zero_le _) prog w A R _ ⟨hl, hb, by simpa using h⟩)⟩

theorem lt_lists {prog : Program} {w : World} {A : Around} {E : Value → Shared → Prop} {s : Shared} {l b : Addr} {vs us : List Value} {ns ms : List Int} {Q : Value → Shared → Prop} (hl : s.heap.PlainList l vs.toArray) (hb : s.heap.PlainList b us.toArray)
    (hI : IntsAre vs ns) (hJ : IntsAre us ms) (hu : A.units < 8000) (h : Q (.bool (ltI ns ms)) s) : wpAny (model prog w) A (compareOp .Lt (.ref l) (.ref b)) Q E s := by
  obtain ⟨n, ho⟩ := hl
  obtain ⟨n2, ho2⟩ := hb
  exact richCompare_meets_room (op := .Lt) ⟨_, ho, rfl⟩ ⟨_, ho2, rfl⟩ PySem.F.slot_list_lt PySem.F.entry_list_lt (PySem.F.args_list_lt_2 _ _) (list_ltAt l b vs.toArray us.toArray n n2 none none #[] #[] ns ms (by simpa using hI) (by simpa using hJ))
    ⟨ho, ho2, show Value.bool (ltI ns ms) ≠ Value.notImplemented ∧ Q (.bool (ltI ns ms)) s from ⟨(fun x => nomatch x), h⟩⟩ (by show A.units < 9900; omega)
end Mine

namespace Mine
open PySem PySem.Calls PySem.W PyProof.Rows PySem.Builtin PySem.SeqAt
set_option maxRecDepth 100000

section
variable {prog : Program} {w : World} {A : Around} {s : Shared} {env : Env}

theorem sub_list {E : Value → Shared → Prop} {a x : Str} {pa px pos : Pos} {l : Addr} {items : Array Value} {v : Value} {k : Nat} {t : Tok} {m : Str → Option Value} {Q : Value → Shared → Prop}
    (hn : s.heap.Ns env.locals m) (ha : m a = some (.ref l)) (hx : m x = some (.int (k : Nat) t)) (hl : s.heap.PlainList l items) (hv : items[k]? = some v) (hk : k ≤ 100) (h : Q v s)
    (hkd : env.scope.kind = .function := by rfl) (hla : env.kindOf a = some .local := by rfl) (hda : (a == ("__debug__" : Str)) = false := by decide)
    (hlx : env.kindOf x = some .local := by rfl) (hdx : (x == ("__debug__" : Str)) = false := by decide) :
    wpAny (model prog w) A (eval (.Subscript (.Name a pa) (.Name x px) pos) env) Q E s :=
  wpAny_Subscript_Name (T := "list") slot_list_getitem.lookup (name_loc hn ha (name_loc hn hx ⟨hl.isList.typeIs, wpAny_getItem_list hl.isList (by omega) (by omega) (by simpa using hv) h⟩ hkd hlx hdx) hkd hla hda)

theorem small_range : ∀ n : Fin 10, Builtin.Range.small 0 (n.val : Int) 1 = true := by decide +kernel

theorem for_range {h₀ : Heap} {x : Str} {px pos : Pos} {iter : Expr} {body : List Stmt} {n : Nat} {m : Str → Option Value} {Q : Flow → Shared → Prop} (vars : List Str) (hh : A.handled = none) (hn : n ≤ 9) (F : Fr h₀ env.locals s.heap m) (hxv : x ∈ vars)
    (hit : ∀ Qv : Value → Shared → Prop, (∀ r t u v h' tk, KeepsH s.heap h' → IsRange h' r 0 (n : Int) 1 t u v → Qv (.ref r) { s with heap := h', toks := tk }) → wpAny (model prog w) A (eval iter env) Qv noE s)
    (turn : ∀ (i : Nat) t m₁ h₁ tk₁, i < n → Fr h₀ env.locals h₁ m₁ → m₁ x = some (.int (i : Nat) t) → (∀ z, z ∉ vars → m₁ z = m z) → (∀ b o, b ≠ env.locals → s.heap.get? b = some o → h₁.get? b = some o) →
      wpAny (model prog w) A (execs body env) (fun f s₃ => f = .next ∧ ∃ h' tk' m', s₃ = { s with heap := h', toks := tk' } ∧ Fr h₀ env.locals h' m' ∧ (∀ z, z ∉ vars → m' z = m z) ∧ (∀ b o, b ≠ env.locals → h₁.get? b = some o → h'.get? b = some o)) noE
        { s with heap := h₁, toks := tk₁ })
    (done : ∀ m₁ h₁ tk₁, Fr h₀ env.locals h₁ m₁ → (∀ z, z ∉ vars → m₁ z = m z) → (∀ b o, b ≠ env.locals → s.heap.get? b = some o → h₁.get? b = some o) → Q .next { s with heap := h₁, toks := tk₁ })
    (hx : env.kindOf x = some .local := by rfl) (hp : (env.scope.kind == .class || (env.scope.kind == .module && env.locals != env.globals)) = false := by rfl)
    (hs : ∀ x, foldedSetIterable iter env x = pure x := by intro _; rfl) :
    wpAny (model prog w) A (exec (.For (.Name x px) iter body [] pos) env) Q noE s := by
  refine wpAny_For (hit _ fun r t u v h' tk k hr => ?_) hs
  refine wpAny_pyIter_range hr (small_range ⟨n, by omega⟩) ?_
  have hsz : Builtin.Range.rangeSize 0 (n : Int) 1 = (n : Int) := by rw [rangeSize_one]; split <;> omega
  rw [hsz]
  dsimp only
  have hI : ∀ b o, s.heap.get? b = some o → b ≠ h'.objs.size := fun b o e => Nat.ne_of_lt (Heap.lt_size (k b o e))
  have kp : KeepsH s.heap (h'.push { cls := .type "range_iterator", data := .fields #[rawInt 0, rawInt (n : Int), rawInt 1] }) := fun b o e => Heap.get?_push_of_some _ (k b o e)
  have hL : env.locals ≠ h'.objs.size := by obtain ⟨o, _, _, e, _⟩ := F.ns; exact hI _ _ e
  refine for_walk (h₀ := h₀) (m := m) (Walks.range hh h'.objs.size 0 1 n) (fun _ m₁ h₁ => (∀ z, z ∉ vars → m₁ z = m z) ∧ ∀ b o, b ≠ env.locals → s.heap.get? b = some o → h₁.get? b = some o) ?_ ?_ ?_ (fr_mono F kp) ?_ ⟨fun _ _ => rfl, fun b o _ e => kp b o e⟩ ?_ ?_ hx hp
  · simpa using hL
  · intro b hb
    rw [List.mem_singleton.mp hb]
    cases e : h₀.get? h'.objs.size with
    | none => rfl
    | some o => exact absurd rfl (hI _ _ (F.keep _ _ e))
  · rintro i m₁ h₁ h₂ kk ⟨j1, j2⟩
    exact ⟨j1, fun b o hb e => kk b o (by rw [List.mem_singleton]; exact hI b o e) hb (j2 b o hb e)⟩
  · show IsRangeIter _ _ _ _ _
    simpa using Heap.get?_push_size _ rfl
  · rintro i v m₁ h₁ tk₁ hi ⟨tv, rfl⟩ F₁ ⟨j1, j2⟩
    have e0 : (0 : Int) + (i : Int) * 1 = (i : Nat) := by omega
    rw [e0] at F₁
    refine wpAny_mono (turn i tv _ h₁ tk₁ hi F₁ (if_pos rfl) (fun z hz => (if_neg fun (q : z = x) => hz (by rw [q]; exact hxv)).trans (j1 z hz)) j2) (fun f s₃ h => ?_) fun _ _ q => q
    obtain ⟨rfl, h₂, tk₂, m₂, rfl, F₂, z1, z2⟩ := h
    refine ⟨rfl, h₂, tk₂, m₂, rfl, F₂, ⟨z1, fun b o hb e => z2 b o hb (j2 b o hb e)⟩, fun b hb o e => z2 b o ?_ e⟩
    rw [List.mem_singleton.mp hb]
    exact Ne.symm hL
  · rintro m₁ h₁ tk₁ F₁ ⟨j1, j2⟩
    exact done m₁ h₁ tk₁ F₁ j1 j2
end

theorem ltI_zs : ∀ u v : List Nat, ltI (zs u) (zs v) = decide (u < v)
  | [], [] => by simp [ltI, zs]
  | [], _ :: _ => by simp [ltI, zs]
  | _ :: _, [] => by simp [ltI, zs]
  | a :: r, b :: q => by
    have ih := ltI_zs r q
    unfold zs at ih ⊢
    simp only [List.map_cons, ltI]
    rw [ih]
    by_cases h : a = b
    · simp [h, List.cons_lt_cons_iff]
    · have h2 : ¬ ((a : Int) = (b : Int)) := by omega
      simp [h, h2, List.cons_lt_cons_iff]
theorem zs_inj {u v : List Nat} : zs u = zs v ↔ u = v := by
  constructor
  · intro h
    have e : ∀ l : List Nat, (zs l).map Int.toNat = l := fun l => by unfold zs; induction l with | nil => rfl | cons a r ih => simp [ih]
    rw [← e u, h, e v]
  · rintro rfl; rfl
end Mine

namespace Mine
open PySem PySem.Calls PySem.W PyProof.Rows PySem.Builtin PySem.SeqAt
set_option maxRecDepth 100000
theorem units2 (env : Env) : (callerA.deeper env).units + 64 < cLine := by show callerA.units + 3 + 64 < 9900; decide
theorem same_lt (x y : Str) : (decide ((quoted x.cps.toList).toArray.toList < (quoted y.cps.toList).toArray.toList)) = ltI (zs (codes x.cps.toList)) (zs (codes y.cps.toList)) := by
  rw [ltI_zs, List.toList_toArray, List.toList_toArray, quoted_eq, quoted_eq]
  exact decide_eq_decide.mpr (enc_lt (codes_no10 _ _) (codes_no10 _ _))
theorem same_eq (x y : Str) : ((⟨(quoted x.cps.toList).toArray⟩ : Str).cps.toList == (⟨(quoted y.cps.toList).toArray⟩ : Str).cps.toList) = decide (zs (codes x.cps.toList) = zs (codes y.cps.toList)) := by
  rw [Bool.eq_iff_iff]
  simp only [beq_iff_eq, decide_eq_true_eq, quoted_eq]
  rw [zs_inj]
  exact enc_inj (u := codes x.cps.toList) (v := codes y.cps.toList) (codes_no10 _ _) (codes_no10 _ _)
end Mine

open PySem PySem.Calls PySem.W PyProof.Rows PySem.Builtin Mine
set_option maxRecDepth 100000 in
set_option maxHeartbeats 8000000 in
theorem PySem.Challenge.cw_oc0409_01_holds : PySem.Challenge.rw_oc0409_01.Holds := by
  refine Mine.hd ?_
  k_go0
  rename_i w s₀ s₁ mg mb G Y fa o pm doc ho hg KX X V GL T B' TE TW wa wb M wc wd hcd ns hs hlay0 hL1 hr1 hl2 as5 as4 l vs as1 hL ra w1 r0 hI hr hc1 hc2 K0' hD h₁ tk₁ F wo hcell N0 X0
  have B : Base w s₁.heap := ⟨KX, ⟨mb, T.b, T.builtins⟩, T.nolimit⟩
  have hns : ns.length ≤ 63 := by simp at hc1; omega
  have hcl : h₁.IsCell (s₁.heap.objs.size + 1) none := ⟨wo, (N0 _ (.head _)).1, hcell⟩
  refine wpAny_mono (Q := fun f s' => f = Flow.ret (.bool true) ∧ ∃ h' tk, s' = { s₁ with heap := h', toks := tk } ∧ KeepsH s₁.heap h') (E := noE) ?_ ?_ (fun _ _ q => q.elim)
  · have hCL : s₁.heap.objs.size + 1 ≠ s₁.heap.objs.size := Nat.succ_ne_self _
    -- cells
    refine wpAny_execs_cons (wpAny_mono (E := noE) (Q := fun f s' => f = Flow.next ∧ ∃ h tk D vsC m, s' = { s₁ with heap := h, toks := tk } ∧ Fr s₁.heap s₁.heap.objs.size h m ∧ m (Str.ofString "cells") = some (.ref D) ∧ h.PlainList D (List.toArray vsC) ∧
      IntsAre vsC (zs (cellsOf ns)) ∧ h.IsCell (s₁.heap.objs.size + 1) none) ?_ ?_ (fun _ _ q => q))
    · have B₁ : Base w h₁ := B.keeps F.keep
      refine wpAny_Assign_Name (cut_to (k := 6) (by decide) (wpAny_BinOp ?_))
      refine comp_expr (cl := []) (fun i _ y => ∃ n t, (ns.take 6)[i]? = some n ∧ y = .int (n.fmod 1000000) t) rfl (closureFor_none (by decide)) (by decide) rfl (by decide) rfl ?_
      refine cut_to (k := 6) (by decide) (name_loc F.ns rfl ⟨_, _, rfl, stays_list F.keep hL, by have := hI.length; simp; omega, fun D₂ h₂ tk₂ k₂ _ hD₂ => ?_⟩)
      have hI6 : IntsAre (vs.toArray.toList.take 6) (ns.take 6) := by simpa using ints_take hI 6
      refine ⟨D₂, _, rfl, ⟨hD₂.isList, by simp; omega, fun C i v h₃ tk₃ m₃ hv hn hm hk => ?_⟩, fun D₃ h₃ tk₃ ys _ hD₃ hys hR k₃ => ?_⟩
      · obtain ⟨n, t, hn', rfl⟩ := ints_at hI6 (by simpa using hv)
        have B₃ : Base w h₃ := B₁.keeps (k₂.trans hk)
        refine wpAny_BinOp (Call_Name1 (name_boot B₃ rfl boot_int (call_t1 (name_loc hn hm (PySem.call_int_int ?_)))))
        refine wpAny_BinOp (wpAny_Constant_int (wpAny_Constant_int (AutoIntOps.pow_4 (by decide) (by decide) (by decide) (by decide) (by decide +kernel) ?_)))
        refine PyProof.Rows.mod_int' (by decide) ?_
        exact ⟨_, _, rfl, fun _ _ e => e, Pin.pure fun _ => ⟨n, _, hn', rfl⟩⟩
      · have hy : IntsAre ys.toList ((ns.take 6).map fun (n : Int) => n.fmod 1000000) := ints_of_at _ _ (by have := hI.length; simp [hys]; omega) fun i y hy => by
          obtain ⟨n, t, a, rfl⟩ := (hR i y (by simpa using hy)).here
          exact ⟨_, t, by rw [List.getElem?_map, a]; rfl, rfl⟩
        refine list6 fun D₄ vs₄ h₄ tk₄ k₄ _ hD₄ hi₄ => ?_
        have hD₃' : h₄.PlainList D₃ ys.toList.toArray := by simpa using hD₃.at fun o e => k₄ _ o e
        refine cat_list hD₃' hD₄ (by have := hi₄.length; simp [hys] at this ⊢; omega) fun D₅ h₅ k₅ _ hD₅ => ?_
        refine ⟨D₅, _, rfl, hD₅.isList, by have := hi₄.length; simp [hys] at this ⊢; omega, fun D₆ h₆ tk₆ k₆ n₆ hD₆ => ?_⟩
        have hC6 := ints_take (hy.append hi₄) 6
        rw [cells_zs] at hC6
        rw [List.toList_toArray] at hD₆
        generalize (ys.toList ++ vs₄).take 6 = vsC at hD₆ hC6
        have k₁₆ : KeepsH h₁ h₆ := fun b o e => k₆ b o (k₅ b o (k₄ b o (k₃ b o (k₂ b o e))))
        have F₆ := fr_mono F k₁₆
        have hDL : D₆ ≠ s₁.heap.objs.size := fun q => by
          obtain ⟨oL, _, _, e, _⟩ := F.ns
          have e' := k₅ _ _ (k₄ _ _ (k₃ _ _ (k₂ _ _ e)))
          rw [q, e'] at n₆
          cases n₆
        refine wpAny_storeName_local rfl F₆.ns (fun h₇ hn₇ hs₇ => ?_)
        exact ⟨rfl, h₇, _, D₆, vsC, _, rfl, F₆.set hn₇ hs₇, if_pos rfl, hD₆.at fun o e => hs₇.extBut _ o hDL e, hC6, let ⟨oc, e, e'⟩ := hcl; ⟨oc, hs₇.extBut _ _ hCL (k₁₆ _ _ e), e'⟩⟩
    clear hcl F X0 N0
    rintro _ _ ⟨rfl, h₁, tk₁, Dc, vsC, m₁, rfl, F₁, hm₁, hDc, hCi, hcl₁⟩
    dsimp only
    have B₁ : Base w h₁ := B.keeps F₁.keep
    -- pieces
    refine wpAny_execs_cons (wpAny_mono (E := noE) (Q := fun f s' => f = Flow.next ∧ ∃ h tk D vsP, s' = { s₁ with heap := h, toks := tk } ∧ Fr s₁.heap s₁.heap.objs.size h m₁ ∧ h.PlainList D (List.toArray vsP) ∧
      StrsAre vsP ((cellsOf ns).map fun c => ⟨(textOf c).toArray⟩) ∧ h.IsCell (s₁.heap.objs.size + 1) (some (.ref D))) ?_ ?_ (fun _ _ q => q))
    · refine wpAny_Assign_Name ?_
      refine comp_expr (cl := []) (fun i _ y => ∃ c t, (cellsOf ns)[i]? = some c ∧ y = .str ⟨(textOf c).toArray⟩ t) rfl (closureFor_none (by decide)) (by decide) rfl (by decide) rfl ?_
      refine name_loc F₁.ns hm₁ ⟨Dc, _, rfl, ⟨hDc.isList, by have := hCi.length; have := cellsOf_len ns; simp [zs] at *; omega, fun C i v h₃ tk₃ m₃ hv hn hm hk => ?_⟩, fun D₃ h₃ tk₃ ys n₃ hD₃ hys hR k₃ => ?_⟩
      · obtain ⟨n, t, hn', rfl⟩ := ints_at hCi (by simpa using hv)
        unfold zs at hn'
        rw [List.getElem?_map] at hn'
        obtain ⟨c, hc, rfl⟩ := Option.map_eq_some_iff.mp hn'
        have B₃ : Base w h₃ := B₁.keeps hk
        refine Call_Name1 (name_top (v := .ref 55) B₃ rfl (call_f1 (name_loc hn hm ⟨⟨B₃.K 55 _ rfl, rfl⟩, ?_⟩)))
        refine law_text_ok B₃ (room1 _) rfl (cellsOf_lt ns c (List.mem_of_getElem? hc)) fun u tk h' k => ?_
        exact ⟨h', tk, rfl, k, Pin.pure fun _ => ⟨c, u, hc, rfl⟩⟩
      · have hS : StrsAre ys.toList ((cellsOf ns).map fun c => ⟨(textOf c).toArray⟩) := strs_of_at _ _ (by have := hCi.length; simp [zs, hys] at *; omega) fun i y hy => by
          obtain ⟨c, t, a, rfl⟩ := (hR i y (by simpa using hy)).here
          exact ⟨_, t, by rw [List.getElem?_map, a]; rfl, rfl⟩
        have hDC : D₃ ≠ s₁.heap.objs.size + 1 := fun q => by
          obtain ⟨oc, e, _⟩ := hcl₁
          rw [q, e] at n₃
          cases n₃
        refine wpAny_storeName_cell rfl rfl rfl (hcl₁.keeps k₃) (fun h₄ hc₄ hs₄ => ?_)
        have F₃ := fr_mono F₁ k₃
        refine ⟨rfl, h₄, _, D₃, ys.toList, rfl, ⟨F₃.ns.at' fun o e => hs₄.extBut _ o (Ne.symm hCL) e, fun b o e => hs₄.extBut b o ?_ (F₃.keep b o e), F₃.above⟩, ?_, hS, hc₄⟩
        · intro q
          exact absurd (Heap.lt_size e) (by rw [q]; show ¬ (_ : Nat) < _; omega)
        · simpa using hD₃.at fun o e => hs₄.extBut _ o hDC e
    clear hDc hcl₁ F₁ B₁
    rintro _ _ ⟨rfl, h₂, tk₂, Dp, vsP, rfl, F₂, hDp, hP, hcl₂⟩
    dsimp only
    have B₂ : Base w h₂ := B.keeps F₂.keep
    have hPl : vsP.length = 6 := by have := strs_len hP; have := cellsOf_len ns; simp at *; omega
    -- texts
    refine wpAny_execs_cons (wpAny_mono (E := noE) (Q := fun f s' => f = Flow.next ∧ ∃ h tk D vsT m, s' = { s₁ with heap := h, toks := tk } ∧ Fr s₁.heap s₁.heap.objs.size h m ∧ m (Str.ofString "texts") = some (.ref D) ∧ h.PlainList D (List.toArray vsT) ∧
      StrsAre vsT (textsOf ns)) ?_ ?_ (fun _ _ q => q))
    · refine two_assign (hs := ((cellsOf ns).map fun c => (⟨(textOf c).toArray⟩ : Str)).take 3) (ts := ((cellsOf ns).map fun c => (⟨(textOf c).toArray⟩ : Str)).drop 3) (cl := [(Str.ofString "pieces", s₁.heap.objs.size + 1)]) rfl rfl rfl (by decide) rfl (by decide) rfl rfl (by decide) ?_ rfl rfl (fun _ _ => rfl) ?_ (fun _ => rfl)
      · have := cellsOf_len ns; simp; omega
      refine cut_to (k := 3) (by decide) (name_cell rfl hcl₂ ⟨Dp, _, rfl, hDp.isList, by simp; omega, fun D₃ h₃ tk₃ k₃ n₃ hD₃ => ?_⟩)
      rw [List.toList_toArray] at hD₃
      have F₃ := fr_mono F₂ k₃
      refine ⟨D₃, vsP.take 3, m₁, rfl, hD₃, strs_take hP 3, F₃.ns, fun C h tk hk => ?_, fun C h tk m a b ta tb hn ha hb ha' hb' => ?_, fun D h' tk acc hD hpl hS hn hk => ?_⟩
      · refine cut_from (k := 3) (by decide) (name_cell rfl ((hcl₂.keeps k₃).keeps hk) ⟨Dp, _, rfl, (hDp.at fun o e => hk _ o (k₃ _ o e)).isList, by simp; omega, fun D₄ h₄ tk₄ k₄ n₄ hD₄ => ?_⟩)
        rw [List.toList_toArray] at hD₄
        exact ⟨D₄, vsP.drop 3, h₄, tk₄, rfl, rfl, k₄, n₄, hD₄, strs_drop hP 3⟩
      · have l1 := piece_len (List.mem_of_mem_take ha')
        have l2 := piece_len (List.mem_of_mem_drop hb')
        refine wpAny_BinOp (name_loc hn ha (name_loc hn hb (glue_str (by rw [sizeLine_eq]; simp; omega) fun v tk' => ?_)))
        exact ⟨v, tk', rfl, rfl⟩
      · exact ⟨rfl, h', tk, D, acc, _, rfl, ⟨hn, fun b o e => hk b o (Nat.ne_of_lt (Heap.lt_size e)) (F₃.keep b o e), F₃.above⟩, if_pos rfl, hpl, hS⟩
    clear hDp hcl₂ F₂ B₂
    rintro _ _ ⟨rfl, h₃, tk₃, Dt, vsT, m₃, rfl, F₃, hm₃, hDt, hT⟩
    dsimp only
    have B₃ : Base w h₃ := B.keeps F₃.keep
    have hTl : vsT.length = 9 := by have := strs_len hT; have := textsOf_len ns; omega
    -- sents
    refine wpAny_execs_cons (wpAny_mono (E := noE) (Q := fun f s' => f = Flow.next ∧ ∃ h tk D vsS m, s' = { s₁ with heap := h, toks := tk } ∧ Fr s₁.heap s₁.heap.objs.size h m ∧ m (Str.ofString "texts") = some (.ref Dt) ∧ m (Str.ofString "sents") = some (.ref D) ∧
      h.PlainList Dt (List.toArray vsT) ∧ h.PlainList D (List.toArray vsS) ∧ StrsAre vsS ((textsOf ns).map fun x => ⟨(quoted x.cps.toList).toArray⟩)) ?_ ?_ (fun _ _ q => q))
    · refine comp_assign (cl := []) (fun i _ y => ∃ x t, (textsOf ns)[i]? = some x ∧ y = .str ⟨(quoted x.cps.toList).toArray⟩ t) rfl rfl (closureFor_none (by decide)) (by decide) rfl (by decide) rfl rfl rfl ?_
      refine name_loc F₃.ns hm₃ ⟨Dt, _, m₃, rfl, ⟨hDt.isList, by simp; omega, fun C i v h₄ tk₄ m₄ hv hn hm hk => ?_⟩, F₃.ns, fun D₄ h₄ tk₄ ys n₄ hD₄ hys hR hn₄ hk₄ => ?_⟩
      · obtain ⟨x, t, hx, rfl⟩ := strs_at hT (by simpa using hv)
        have B₄ : Base w h₄ := B₃.keeps hk
        refine Call_Name1 (name_top (v := .ref 48) B₄ rfl (call_f1 (name_loc hn hm ⟨⟨B₄.K 48 _ rfl, rfl⟩, ?_⟩)))
        refine quotedata_ok B₄ (room1 _) (by have := text_len (List.mem_of_getElem? hx); omega) fun u tk h' k => ?_
        exact ⟨h', tk, rfl, k, Pin.pure fun _ => ⟨x, u, hx, rfl⟩⟩
      · have hS : StrsAre ys.toList ((textsOf ns).map fun x => ⟨(quoted x.cps.toList).toArray⟩) := strs_of_at _ _ (by have := textsOf_len ns; simp [hys]; omega) fun i y hy => by
          obtain ⟨c, t, a, rfl⟩ := (hR i y (by simpa using hy)).here
          exact ⟨_, t, by rw [List.getElem?_map, a]; rfl, rfl⟩
        exact ⟨rfl, h₄, tk₄, D₄, ys.toList, _, rfl, ⟨hn₄, fun b o e => hk₄ b o (Nat.ne_of_lt (Heap.lt_size e)) (F₃.keep b o e), F₃.above⟩, (if_neg (by decide)).trans hm₃, if_pos rfl, hDt.at fun o e => hk₄ _ o (list_ne_ns F₃.ns hDt) e, by simpa using hD₄, hS⟩
    clear hDt F₃ B₃ hm₃
    rintro _ _ ⟨rfl, h₃, tk₃, Ds, vsS, m₃, rfl, F₃, hm₃, hmS, hDt, hDs, hS⟩
    dsimp only
    have B₃ : Base w h₃ := B.keeps F₃.keep
    have hSl : vsS.length = 9 := by have := strs_len hS; have := textsOf_len ns; simp at *; omega
    -- rows
    refine wpAny_execs_cons (wpAny_mono (E := noE) (Q := fun f s' => f = Flow.next ∧ ∃ h tk D ys m, s' = { s₁ with heap := h, toks := tk } ∧ Fr s₁.heap s₁.heap.objs.size h m ∧ m (Str.ofString "sents") = some (.ref Ds) ∧ m (Str.ofString "rows") = some (.ref D) ∧
      h.PlainList Ds (List.toArray vsS) ∧ h.PlainList D ys ∧ ys.size = 9 ∧ ∀ i y, ys[i]? = some y → Pin (fun h => RowAt ns i h y) (fun b => b ≠ s₁.heap.objs.size) h) ?_ ?_ (fun _ _ q => q))
    · refine comp_assign (cl := []) (RowAt ns) rfl rfl (closureFor_none (by decide)) (by decide) rfl (by decide) rfl rfl rfl ?_
      refine name_loc F₃.ns hm₃ ⟨Dt, _, m₃, rfl, ⟨hDt.isList, by simp; omega, fun C i v h₄ tk₄ m₄ hv hn hm hk => ?_⟩, F₃.ns, fun D₄ h₄ tk₄ ys n₄ hD₄ hys hR hn₄ hk₄ => ?_⟩
      · obtain ⟨x, t, hx, rfl⟩ := strs_at hT (by simpa using hv)
        have B₄ : Base w h₄ := B₃.keeps hk
        refine Call_Name1 (name_top (v := .ref 62) B₄ rfl (call_f1 (name_loc hn hm ⟨⟨B₄.K 62 _ rfl, rfl⟩, ?_⟩)))
        refine law_codes_ok B₄ (room1 _) rfl (by have := text_len (List.mem_of_getElem? hx); omega) fun D ws tk h' k n pl ia => ?_
        exact ⟨h', tk, rfl, k, [D], fun b hb => by rw [List.mem_singleton.mp hb]; exact n, fun h'' hk'' => ⟨x, D, ws, hx, rfl, pl.at fun o e => hk'' D (.head _) o e, ia⟩⟩
      · have hLa : ∃ o, h₃.get? s₁.heap.objs.size = some o := by obtain ⟨o, _, _, e, _⟩ := F₃.ns; exact ⟨o, e⟩
        refine ⟨rfl, h₄, tk₄, D₄, ys, _, rfl, ⟨hn₄, fun b o e => hk₄ b o (Nat.ne_of_lt (Heap.lt_size e)) (F₃.keep b o e), F₃.above⟩, (if_neg (by decide)).trans hmS, if_pos rfl, hDs.at fun o e => hk₄ _ o (list_ne_ns F₃.ns hDs) e, hD₄, by simp [hys]; omega, fun i y hy => (hR i y hy).weaken fun b hok q => ?_⟩
        obtain ⟨o, e⟩ := hLa
        rw [q, e] at hok
        cases hok.2
    clear hDt hDs F₃ B₃ hm₃ hmS
    rintro _ _ ⟨rfl, h₃, tk₃, Dr, ysR, m₃, rfl, F₃, hmS, hmR, hDs, hDr, hRl, hRw⟩
    dsimp only
    have B₃ : Base w h₃ := B.keeps F₃.keep
    -- counts
    refine wpAny_execs_cons (wpAny_mono (E := noE) (Q := fun f s' => f = Flow.next ∧ ∃ h tk D ys m, s' = { s₁ with heap := h, toks := tk } ∧ Fr s₁.heap s₁.heap.objs.size h m ∧ m (Str.ofString "sents") = some (.ref Ds) ∧ m (Str.ofString "rows") = some (.ref Dr) ∧ m (Str.ofString "counts") = some (.ref D) ∧
      h.PlainList Ds (List.toArray vsS) ∧ h.PlainList Dr ysR ∧ (∀ i y, ysR[i]? = some y → Pin (fun h => RowAt ns i h y) (fun b => b ≠ s₁.heap.objs.size) h) ∧ h.PlainList D ys ∧ ys.size = 9 ∧
      ∀ i y, ys[i]? = some y → CntAt ns i h y) ?_ ?_ (fun _ _ q => q))
    · refine comp_assign (cl := []) (CntAt ns) rfl rfl (closureFor_none (by decide)) (by decide) rfl (by decide) rfl rfl rfl ?_
      refine name_loc F₃.ns hmS ⟨Ds, _, m₃, rfl, ⟨hDs.isList, by simp; omega, fun C i v h₄ tk₄ m₄ hv hn hm hk => ?_⟩, F₃.ns, fun D₄ h₄ tk₄ ys n₄ hD₄ hys hR hn₄ hk₄ => ?_⟩
      · obtain ⟨q, t, hq, rfl⟩ := strs_at hS (by simpa using hv)
        rw [List.getElem?_map] at hq
        obtain ⟨x, hx, rfl⟩ := Option.map_eq_some_iff.mp hq
        have B₄ : Base w h₄ := B₃.keeps hk
        refine Tuple_ (spliced_more (Call_Name1 (name_boot B₄ rfl boot_len (call_b1 (name_loc hn hm (P.len_str ?_ ?_))))))
        · exact sent_fits hx
        refine spliced_more (Call_method1 rfl rfl rfl (name_loc hn hm (PySem.SB.count (wpAny_Constant_str ⟨_, _, rfl, ?_⟩))))
        refine spliced_more (Call_method1 rfl rfl rfl (name_loc hn hm (PySem.SB.count (wpAny_Constant_str ⟨_, _, rfl, ?_⟩))))
        refine spliced_none (mk_tuple (Nat.le_of_ble_eq_true rfl) fun U h₅ k₅ hUn hU => ?_)
        exact ⟨h₅, _, rfl, k₅, [U], fun b hb => by rw [List.mem_singleton.mp hb]; exact hUn, fun h'' hk'' => ⟨x, U, _, _, _, hx, rfl, hk'' U (.head _) _ hU⟩⟩
      · have hLa : ∃ o, h₃.get? s₁.heap.objs.size = some o := by obtain ⟨o, _, _, e, _⟩ := F₃.ns; exact ⟨o, e⟩
        exact ⟨rfl, h₄, tk₄, D₄, ys, _, rfl, ⟨hn₄, fun b o e => hk₄ b o (Nat.ne_of_lt (Heap.lt_size e)) (F₃.keep b o e), F₃.above⟩, (if_neg (by decide)).trans hmS, (if_neg (by decide)).trans hmR, if_pos rfl, hDs.at fun o e => hk₄ _ o (list_ne_ns F₃.ns hDs) e,
          hDr.at fun o e => hk₄ _ o (list_ne_ns F₃.ns hDr) e, fun i y hy => (hRw i y hy).on fun b o hb e => hk₄ b o hb e, hD₄, by simp [hys]; omega, fun i y hy => (hR i y hy).here⟩
    clear hDs hDr F₃ B₃ hmS hmR hRw
    rintro _ _ ⟨rfl, h₃, tk₃, Dn, ysN, m₃, rfl, F₃, hmS, hmR, hmN, hDs, hDr, hRw, hDn, hNl, hNw⟩
    dsimp only
    have B₃ : Base w h₃ := B.keeps F₃.keep
    -- counts are the same
    refine wpAny_execs_cons (wpAny_mono (E := noE) (Q := fun f s' => f = Flow.next ∧ ∃ h tk, s' = { s₁ with heap := h, toks := tk } ∧ KeepsH h₃ h) ?_ ?_ (fun _ _ q => q))
    · refine wpAny_If (wpAny_isTrue_Compare1 (name_loc F₃.ns hmN ?_))
      refine comp_expr (cl := []) (LcAt ns h₃) rfl (closureFor_none (by decide)) (by decide) rfl (by decide) rfl ?_
      refine name_loc F₃.ns hmR ⟨Dr, _, rfl, ⟨hDr.isList, by omega, fun C i v h₄ tk₄ m₄ hv hn hm hk => ?_⟩, fun D₄ h₄ tk₄ ys n₄ hD₄ hys hR k₄ => ?_⟩
      · have B₄ : Base w h₄ := B₃.keeps hk
        obtain ⟨x, T, ws, hx, rfl, hpl, hia⟩ := ((hRw i v hv).on fun b o _ e => hk b o e).here
        refine Call_Name1 (name_top (v := .ref 69) B₄ rfl (call_f1 (name_loc hn hm ⟨⟨B₄.K 69 _ rfl, rfl⟩, ?_⟩)))
        refine law_counts_ok B₄ (room1 _) rfl (units1 _) hpl hia (codes_len hx) fun U t1 t2 t3 tk h' k hUn hU => ?_
        exact ⟨h', tk, rfl, k, [U], fun b hb => by rw [List.mem_singleton.mp hb]; exact hUn, fun h'' hk'' => ⟨x, U, t1, t2, t3, hx, rfl, none_of hk hUn, hk'' U (.head _) _ hU⟩⟩
      · refine counts_same k₄ (hDn.at fun o e => k₄ _ o e) hD₄ hNl (by omega) hNw (fun i y hy => (hR i y hy).here) (units1 _) (wpAny_truthy_bool ?_)
        exact wpAny_execs_nil ⟨rfl, h₄, tk₄, rfl, k₄⟩
    rintro _ _ ⟨rfl, h₄, tk₄, rfl, k₄⟩
    dsimp only
    replace F₃ := fr_mono F₃ k₄
    replace B₃ : Base w h₄ := B.keeps F₃.keep
    replace hDs : h₄.PlainList Ds _ := hDs.at fun o e => k₄ _ o e
    replace hDr : h₄.PlainList Dr _ := hDr.at fun o e => k₄ _ o e
    replace hRw : ∀ i y, ysR[i]? = some y → Pin (fun h => RowAt ns i h y) (fun b => b ≠ s₁.heap.objs.size) h₄ := fun i y hy => (hRw i y hy).on fun b o _ e => k₄ b o e
    clear hDn hNw hmN k₄
    -- the pairs
    refine wpAny_execs_cons (wpAny_mono (E := noE) (Q := fun f s' => f = Flow.next ∧ ∃ h tk, s' = { s₁ with heap := h, toks := tk } ∧ KeepsH s₁.heap h) ?_ ?_ (fun _ _ q => q))
    · refine for_range (n := 9) (h₀ := s₁.heap) [Str.ofString "late", Str.ofString "early"] rfl (Nat.le_refl _) F₃ (.head _)
        (fun Qv k => Call_Name1 (name_boot B₃ rfl boot_range (call_t1 (wpAny_Constant_int (call_range_1 (k _ _ _ _ _ _ (fun b o e => Heap.get?_push_of_some _ e) (IsRange.new _ _ _ _ _ _ _))))))) ?_ ?_
      · intro j tj m₅ h₅ tk₅ hj F₅ hmj hm₅ k₅
        refine wpAny_execs_cons (for_range (n := j) (h₀ := s₁.heap) [Str.ofString "early"] rfl (Nat.le_of_lt hj) F₅ (.head _)
          (fun Qv k => Call_Name1 (name_boot (B.keeps F₅.keep) rfl boot_range (call_t1 (name_loc F₅.ns hmj (call_range_1 (k _ _ _ _ _ _ (fun b o e => Heap.get?_push_of_some _ e) (IsRange.new _ _ _ _ _ _ _))))))) ?_ ?_)
        · intro i ti m₆ h₆ tk₆ hi F₆ hmi hm₆ k₆
          have hmj₆ : m₆ (Str.ofString "late") = some (.int (j : Nat) tj) := (hm₆ _ (by decide)).trans hmj
          have hmS₆ : m₆ (Str.ofString "sents") = some (.ref Ds) := ((hm₆ _ (by decide)).trans (hm₅ _ (by decide))).trans hmS
          have hmR₆ : m₆ (Str.ofString "rows") = some (.ref Dr) := ((hm₆ _ (by decide)).trans (hm₅ _ (by decide))).trans hmR
          have k₃₆ : ∀ b o, b ≠ s₁.heap.objs.size → h₄.get? b = some o → h₆.get? b = some o := fun b o hb e => k₆ b o hb (k₅ b o hb e)
          have hDs₆ : h₆.PlainList Ds _ := hDs.at fun o e => k₃₆ _ o (list_ne_ns F₃.ns hDs) e
          have hDr₆ : h₆.PlainList Dr _ := hDr.at fun o e => k₃₆ _ o (list_ne_ns F₃.ns hDr) e
          obtain ⟨xi, Ti, wi, hxi, ei, pli, iai⟩ := ((hRw i _ (Array.getElem?_eq_getElem (by omega))).on k₃₆).here
          obtain ⟨xj, Tj, wj, hxj, ej, plj, iaj⟩ := ((hRw j _ (Array.getElem?_eq_getElem (by omega))).on k₃₆).here
          have hri : ysR[i]? = some (.ref Ti) := by rw [← ei]; exact Array.getElem?_eq_getElem (by omega)
          have hrj : ysR[j]? = some (.ref Tj) := by rw [← ej]; exact Array.getElem?_eq_getElem (by omega)
          obtain ⟨qi, ui, hqi, esi⟩ := strs_at hS (List.getElem?_eq_getElem (i := i) (by omega))
          obtain ⟨qj, uj, hqj, esj⟩ := strs_at hS (List.getElem?_eq_getElem (i := j) (by omega))
          rw [List.getElem?_map, hxi] at hqi
          rw [List.getElem?_map, hxj] at hqj
          cases hqi
          cases hqj
          have hsi : vsS.toArray[i]? = some (.str ⟨(quoted xi.cps.toList).toArray⟩ ui) := by rw [← esi]; simp
          have hsj : vsS.toArray[j]? = some (.str ⟨(quoted xj.cps.toList).toArray⟩ uj) := by rw [← esj]; simp
          clear ei ej esi esj
          refine wpAny_execs_cons (wpAny_If (wpAny_isTrue_Compare1 (wpAny_Compare1 ?_)))
          refine sub_list F₆.ns hmS₆ hmi hDs₆ hsi (by omega) (sub_list F₆.ns hmS₆ hmj₆ hDs₆ hsj (by omega) (P.lt_str ?_))
          refine wpAny_Compare1 (sub_list F₆.ns hmR₆ hmi hDr₆ hri (by omega) (sub_list F₆.ns hmR₆ hmj₆ hDr₆ hrj (by omega) (lt_lists pli plj iai iaj (units1 _) ?_)))
          refine PySem.SeqAt.RcNeAt.bool_bool _ _ _ _ _ _ (wpAny_truthy_bool ?_)
          rw [same_lt, beq_self_eq_true]
          refine wpAny_execs_nil ?_
          refine wpAny_execs_cons (wpAny_If (wpAny_isTrue_Compare1 (wpAny_Compare1 ?_)))
          refine sub_list F₆.ns hmS₆ hmi hDs₆ hsi (by omega) (sub_list F₆.ns hmS₆ hmj₆ hDs₆ hsj (by omega) (P.eq_str ?_))
          refine wpAny_Compare1 (sub_list F₆.ns hmR₆ hmi hDr₆ hri (by omega) (sub_list F₆.ns hmR₆ hmj₆ hDr₆ hrj (by omega) (ke_eq_ints pli.isList plj.isList iai iaj (units2 _) ?_)))
          refine PySem.SeqAt.RcNeAt.bool_bool _ _ _ _ _ _ (wpAny_truthy_bool ?_)
          rw [same_eq, beq_self_eq_true]
          exact wpAny_execs_nil (wpAny_execs_nil ⟨rfl, h₆, tk₆, m₆, rfl, F₆, hm₆, fun _ _ _ e => e⟩)
        · intro m₆ h₆ tk₆ F₆ hm₆ k₆
          exact wpAny_execs_nil ⟨rfl, h₆, tk₆, m₆, rfl, F₆, fun z hz => (hm₆ z fun q => hz (by rw [List.mem_singleton.mp q]; decide)).trans (hm₅ z hz), k₆⟩
      · intro m₅ h₅ tk₅ F₅ _ _
        exact ⟨rfl, h₅, tk₅, rfl, F₅.keep⟩
    rintro _ _ ⟨rfl, h₅, tk₅, rfl, k₅⟩
    dsimp only
    exact wpAny_execs_cons (wpAny_Return_some (wpAny_Constant_bool ⟨rfl, h₅, tk₅, rfl, k₅⟩))
  · rintro _ _ ⟨rfl, h', tk', rfl, k'⟩
    dsimp only
    refine ⟨.inl ⟨.bool true, .bool true, [], rfl, raisesW_false ?_, .bool true, ?_, unshared_nil⟩, k', rfl, hg⟩
    · wrow_none_raised
    · kc_post

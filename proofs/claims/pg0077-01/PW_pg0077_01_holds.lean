import PyProof.Rows.All
import Wide.All
import OpenK.AllK
import Wide.FinOn
import PySem.Challenge.RW_pg0077_01
set_option Elab.async false
/-! part A1 -/
namespace Mine
open PySem PySem.Sre

abbrev c1 : Array Nat := #[14, 4, 0, 1, 1, 6, 1, 16, 46, 1]
abbrev c2 : Array Nat := #[14, 9, 4, 1, 2, 16, 10, 16, 13, 0, 7, 7, 16, 13, 16, 10, 15, 18, 5, 16, 10, 15, 13, 11, 16, 13, 5, 5, 0, 16, 10, 1, 15, 2, 0, 1]

/-- a machine of ours: no groups, no loops -/
abbrev mach (code text : Array Nat) (lim start last pc pos handed : Nat) (om : Bool) (fr : List Sre.Frame) (wt : Nat) (an : Option Bool) (sn : Seen) (oc : Option Sre.Outcome) : M :=
  { code, text, lim, start, lastStart := last, pc, pos, handed, outermost := om, marks := #[], frames := fr, weight := wt, answer := an, seen := sn, outcome := oc }

theorem runFor_add (a b : Nat) (m : M) : m.runFor (a + b) = (m.runFor a).runFor b := by
  induction a generalizing m with
  | zero => simp [M.runFor]
  | succ a ih =>
    rw [Nat.succ_add]
    show (if m.outcome.isSome then m else M.runFor (a + b) m.step) = M.runFor b (if m.outcome.isSome then m else M.runFor a m.step)
    split
    · rename_i h
      cases b with
      | zero => rfl
      | succ b => show m = if m.outcome.isSome then m else _; rw [if_pos h]
    · exact ih _

/-- within k steps the machine has come to an end that P tells -/
def Ends (m : M) (k : Nat) (P : M → Prop) : Prop := ∃ j, j ≤ k ∧ (m.runFor j).outcome.isSome = true ∧ P (m.runFor j)
def Hit (i e : Nat) (m : M) : Prop := m.outcome = some .matched ∧ m.start = i ∧ m.handed = e
def Miss (m : M) : Prop := m.outcome = some .failed

theorem Ends.after {m : M} {a k : Nat} {P : M → Prop} (h : Ends (m.runFor a) k P) : Ends m (a + k) P := by
  obtain ⟨j, hj, ho, hp⟩ := h
  exact ⟨a + j, by omega, by rw [runFor_add]; exact ho, by rw [runFor_add]; exact hp⟩
theorem Ends.mono {m : M} {k k' : Nat} {P : M → Prop} (h : Ends m k P) (hk : k ≤ k') : Ends m k' P := by
  obtain ⟨j, hj, x⟩ := h
  exact ⟨j, by omega, x⟩

section
variable {text : Array Nat} {lim start last : Nat} {sn : Seen}

abbrev fr2 (i : Nat) : Sre.Frame := { wait := .nextStart, pc := 10, pos := i, outermost := true }

theorem at2_crlf {i : Nat} (h2 : i + 1 < lim) (e1 : text.getD i 0 = 13) (e2 : text.getD (i+1) 0 = 10) :
    Ends (mach c2 text lim i last 10 i i true [fr2 i] 1 none sn none) 8 (Hit i (i + 2)) := by
  have h1 : i < lim := by omega
  refine ⟨8, Nat.le_refl _, ?_⟩
  unfold Hit
  simp [M.runFor, M.step, M.exec, M.word, ops, c2, M.alternative, M.attempt, M.keep, M.frame, accepts, itemWidth, M.resume, M.say, h1, h2, e1, e2, Nat.not_le_of_gt]
theorem at2_lf {i : Nat} (h1 : i < lim) (e1 : text.getD i 0 = 10) :
    Ends (mach c2 text lim i last 10 i i true [fr2 i] 1 none sn none) 9 (Hit i (i + 1)) := by
  refine ⟨9, Nat.le_refl _, ?_⟩
  unfold Hit
  simp [M.runFor, M.step, M.exec, M.word, ops, c2, M.alternative, M.attempt, M.keep, M.frame, accepts, itemWidth, M.resume, M.say, h1, e1, M.putBack, Nat.not_le_of_gt]
theorem at2_cr_end {i : Nat} (h1 : i + 1 = lim) (e1 : text.getD i 0 = 13) :
    Ends (mach c2 text lim i last 10 i i true [fr2 i] 1 none sn none) 20 (Hit i (i + 1)) := by
  have h2 : i < lim := by omega
  have h3 : lim ≤ i + 1 := by omega
  refine ⟨15, by omega, ?_⟩
  unfold Hit
  simp [M.runFor, M.step, M.exec, M.word, ops, c2, M.alternative, M.attempt, M.keep, M.frame, accepts, itemWidth, M.resume, M.say, h2, h3, e1, M.putBack, Nat.not_le_of_gt]
theorem runFor_step {m m' : M} {n : Nat} (ho : m.outcome = none) (e : m.step = m') : m.runFor (n + 1) = m'.runFor n := by
  show (if m.outcome.isSome then m else M.runFor n m.step) = _
  rw [ho, e]; rfl
abbrev fb (pc pos : Nat) : Sre.Frame := { wait := .nextBranch, pc, pos, outermost := true }
abbrev fl (pc pos : Nat) : Sre.Frame := { wait := .lookNot, pc, pos, outermost := true }
theorem at2_cr {i : Nat} (h1 : i + 1 < lim) (e1 : text.getD i 0 = 13) (e2 : text.getD (i + 1) 0 ≠ 10) :
    Ends (mach c2 text lim i last 10 i i true [fr2 i] 1 none sn none) 20 (Hit i (i + 1)) := by
  have h2 : i < lim := by omega
  have e2' : (text[i + 1]?.getD 0 == 10) = false := by simpa using e2
  have e1' : text[i]?.getD 0 = 13 := by simpa using e1
  have st (m : M) (h : m.outcome = none) {k : Nat} {P : M → Prop} (x : Ends m.step k P) : Ends m (k + 1) P := by
    have : Ends m (1 + k) P := Ends.after (a := 1) (by rw [show m.runFor 1 = m.step from by rw [runFor_step h rfl]; rfl]; exact x)
    exact this.mono (by omega)
  refine st _ rfl (k := 19) ?_
  rw [show (mach c2 text lim i last 10 i i true [fr2 i] 1 none sn none).step = mach c2 text lim i last 12 i i true [fb 11 i, fr2 i] 2 none (sn.add 7) none from rfl]
  refine st _ rfl (k := 18) ?_
  rw [show (mach c2 text lim i last 12 i i true [fb 11 i, fr2 i] 2 none (sn.add 7) none).step = mach c2 text lim i last 14 (i + 1) i true [fb 11 i, fr2 i] 2 none ((sn.add 7).add 16) none from by
    simp [M.step, M.exec, M.word, ops, accepts, itemWidth, h2, e1', Nat.not_le_of_gt]]
  refine st _ rfl (k := 17) ?_
  rw [show (mach c2 text lim i last 14 (i + 1) i true [fb 11 i, fr2 i] 2 none ((sn.add 7).add 16) none).step = mach c2 text lim i last 14 (i + 1) i true [fb 11 i, fr2 i] 2 (some false) (((sn.add 7).add 16).add 16) none from by
    simp [M.step, M.exec, M.word, ops, accepts, M.say, h1, e2', Nat.not_le_of_gt]]
  generalize ((sn.add 7).add 16).add 16 = sn
  refine st _ rfl (k := 16) ?_
  rw [show (mach c2 text lim i last 14 (i + 1) i true [fb 11 i, fr2 i] 2 (some false) sn none).step = mach c2 text lim i last 19 i i true [fb 18 i, fr2 i] 2 none sn none from rfl]
  refine st _ rfl (k := 15) ?_
  rw [show (mach c2 text lim i last 19 i i true [fb 18 i, fr2 i] 2 none sn none).step = mach c2 text lim i last 19 i i true [fb 18 i, fr2 i] 2 (some false) (sn.add 16) none from by
    simp [M.step, M.exec, M.word, ops, accepts, M.say, h2, e1', Nat.not_le_of_gt]]
  generalize sn.add 16 = sn
  refine st _ rfl (k := 14) ?_
  rw [show (mach c2 text lim i last 19 i i true [fb 18 i, fr2 i] 2 (some false) sn none).step = mach c2 text lim i last 24 i i true [fb 23 i, fr2 i] 2 none sn none from rfl]
  refine st _ rfl (k := 13) ?_
  rw [show (mach c2 text lim i last 24 i i true [fb 23 i, fr2 i] 2 none sn none).step = mach c2 text lim i last 26 (i + 1) i true [fb 23 i, fr2 i] 2 none (sn.add 16) none from by
    simp [M.step, M.exec, M.word, ops, accepts, itemWidth, h2, e1', Nat.not_le_of_gt]]
  generalize sn.add 16 = sn
  refine st _ rfl (k := 12) ?_
  rw [show (mach c2 text lim i last 26 (i + 1) i true [fb 23 i, fr2 i] 2 none sn none).step = mach c2 text lim i last 29 (i + 1) (i + 1) false [fl 26 (i + 1), fb 23 i, fr2 i] 3 none (sn.add 5) none from rfl]
  generalize sn.add 5 = sn
  refine st _ rfl (k := 11) ?_
  rw [show (mach c2 text lim i last 29 (i + 1) (i + 1) false [fl 26 (i + 1), fb 23 i, fr2 i] 3 none sn none).step = mach c2 text lim i last 29 (i + 1) (i + 1) false [fl 26 (i + 1), fb 23 i, fr2 i] 3 (some false) (sn.add 16) none from by
    simp [M.step, M.exec, M.word, ops, accepts, M.say, h1, e2', Nat.not_le_of_gt]]
  generalize sn.add 16 = sn
  refine st _ rfl (k := 10) ?_
  rw [show (mach c2 text lim i last 29 (i + 1) (i + 1) false [fl 26 (i + 1), fb 23 i, fr2 i] 3 (some false) sn none).step = mach c2 text lim i last 32 (i + 1) (i + 1) true [fb 23 i, fr2 i] 2 none sn none from rfl]
  refine st _ rfl (k := 9) ?_
  rw [show (mach c2 text lim i last 32 (i + 1) (i + 1) true [fb 23 i, fr2 i] 2 none sn none).step = mach c2 text lim i last 35 (i + 1) (i + 1) true [fb 23 i, fr2 i] 2 none (sn.add 15) none from rfl]
  generalize sn.add 15 = sn
  refine st _ rfl (k := 8) ?_
  rw [show (mach c2 text lim i last 35 (i + 1) (i + 1) true [fb 23 i, fr2 i] 2 none sn none).step = mach c2 text lim i last 35 (i + 1) (i + 1) true [fb 23 i, fr2 i] 2 (some true) (sn.add 1) none from rfl]
  generalize sn.add 1 = sn
  refine st _ rfl (k := 7) ?_
  rw [show (mach c2 text lim i last 35 (i + 1) (i + 1) true [fb 23 i, fr2 i] 2 (some true) sn none).step = mach c2 text lim i last 23 i (i + 1) true [fr2 i] 1 (some true) sn none from rfl]
  refine st _ rfl (k := 6) ?_
  rw [show (mach c2 text lim i last 23 i (i + 1) true [fr2 i] 1 (some true) sn none).step = mach c2 text lim i last 10 i (i + 1) true [] 0 (some true) sn none from rfl]
  refine st _ rfl (k := 5) ?_
  rw [show (mach c2 text lim i last 10 i (i + 1) true [] 0 (some true) sn none).step = mach c2 text lim i last 10 i (i + 1) true [] 0 (some true) sn (some .matched) from rfl]
  exact ⟨0, by omega, rfl, rfl, rfl, rfl⟩

abbrev eol (c : Nat) : Prop := c = 10 ∨ c = 13

theorem inSet2 (c : Nat) (sn : Seen) : ∃ sn', inSet c2 c c2.size 5 true sn = .ok (decide (c = 10 ∨ c = 13), sn') := by
  by_cases h : c = 10
  · subst h; exact ⟨_, by simp [inSet, c2, ops]; rfl⟩
  · by_cases h' : c = 13
    · subst h'; exact ⟨_, by simp [inSet, c2, ops]; rfl⟩
    · exact ⟨_, by simp [inSet, c2, ops, h, h']; rfl⟩

theorem admitted_hit {m : M} (hc : m.code = c2) {i : Nat} (hi : i < m.lim) (he : eol (m.text.getD i 0)) :
    ∀ (fuel s : Nat) (sn : Seen), s ≤ i → i - s < fuel → (∀ j, s ≤ j → j < i → ¬ eol (m.text.getD j 0)) → ∃ sn', m.admitted fuel s sn = .ok (some i, sn')
  | 0, s, sn, _, h, _ => by omega
  | fuel + 1, s, sn, hs, hf, hn => by
    unfold M.admitted
    have hl : ¬ s ≥ m.lim := by omega
    rw [if_neg hl, hc]
    obtain ⟨sn', e⟩ := inSet2 (m.text.getD s 0) sn
    rw [e]
    by_cases h : s = i
    · subst h
      rw [decide_eq_true he]
      exact ⟨sn', rfl⟩
    · rw [decide_eq_false (hn s (Nat.le_refl _) (by omega))]
      exact admitted_hit hc hi he fuel (s + 1) sn' (by omega) (by omega) fun j h1 h2 => hn j (by omega) h2
theorem admitted_miss {m : M} (hc : m.code = c2) :
    ∀ (fuel s : Nat) (sn : Seen), m.lim - s < fuel → (∀ j, s ≤ j → j < m.lim → ¬ eol (m.text.getD j 0)) → ∃ sn', m.admitted fuel s sn = .ok (none, sn')
  | 0, s, sn, h, _ => by omega
  | fuel + 1, s, sn, hf, hn => by
    unfold M.admitted
    by_cases hl : s ≥ m.lim
    · rw [if_pos hl]; exact ⟨sn, rfl⟩
    rw [if_neg hl, hc]
    obtain ⟨sn', e⟩ := inSet2 (m.text.getD s 0) sn
    rw [e, decide_eq_false (hn s (Nat.le_refl _) (by omega))]
    exact admitted_miss hc fuel (s + 1) sn' (by omega) fun j h1 h2 => hn j (by omega) h2

theorem search2_hit {pos i : Nat} (hp : pos ≤ i) (hi : i < lim) (he : eol (text.getD i 0)) (hn : ∀ j, pos ≤ j → j < i → ¬ eol (text.getD j 0)) :
    Ends (forSearch c2 text 0 pos lim false) 20 (Hit i (if text.getD i 0 = 13 ∧ i + 1 < lim ∧ text.getD (i + 1) 0 = 10 then i + 2 else i + 1)) := by
  obtain ⟨sn', e⟩ := admitted_hit (m := { mach c2 text lim pos lim 10 pos pos true [] 0 none (({} : Seen).add 14) none with lastStart := lim }) rfl hi he (lim + 1 - pos) pos (({} : Seen).add 14) hp (by omega) hn
  have key : forSearch c2 text 0 pos lim false = mach c2 text lim i lim 10 i i true [fr2 i] 1 none sn' none := by
    have hr : ¬ (pos > lim ∨ lim - pos < 1) := by omega
    show (if pos > lim || decide (lim - pos < 1) then _ else M.attemptFrom (mach c2 text lim pos lim 10 pos pos true [] 0 none (({} : Seen).add 14) none) pos true) = _
    rw [if_neg (by simpa using hr)]
    show (match M.admitted (mach c2 text lim pos lim 10 pos pos true [] 0 none (({} : Seen).add 14) none) (lim + 1 - pos) pos (({} : Seen).add 14) with | .ok (some s, seen) => _ | .ok (none, seen) => _ | .error why => _) = _
    rw [e]
    rfl
  rw [key]
  rcases he with he | he
  · rw [if_neg (by rw [he]; simp)]
    exact (at2_lf hi he).mono (by omega)
  · by_cases h2 : i + 1 < lim
    · by_cases h3 : text.getD (i + 1) 0 = 10
      · rw [if_pos ⟨he, h2, h3⟩]
        exact (at2_crlf h2 he h3).mono (by omega)
      · rw [if_neg (fun x => h3 x.2.2)]
        exact at2_cr h2 he h3
    · rw [if_neg (fun x => h2 x.2.1)]
      exact at2_cr_end (by omega) he

theorem ends_miss (m : M) (ho : m.outcome = none) (hf : m.frames = []) : Ends (m.say false) 1 Miss := by
  refine ⟨1, Nat.le_refl _, ?_⟩
  unfold Miss
  simp [M.runFor, M.step, M.say, ho, hf]

theorem search2_miss {pos : Nat} (hn : ∀ j, pos ≤ j → j < lim → ¬ eol (text.getD j 0)) : Ends (forSearch c2 text 0 pos lim false) 20 Miss := by
  have hx : ∃ m : M, m.outcome = none ∧ m.frames = [] ∧ forSearch c2 text 0 pos lim false = m.say false := by
    by_cases hr : pos > lim ∨ lim - pos < 1
    · refine ⟨mach c2 text lim pos 0 10 pos pos true [] 0 none (({} : Seen).add 14) none, rfl, rfl, ?_⟩
      show (if pos > lim || decide (lim - pos < 1) then _ else _) = _
      rw [if_pos (by simpa using hr)]
      rfl
    · obtain ⟨sn', e⟩ := admitted_miss (m := mach c2 text lim pos lim 10 pos pos true [] 0 none (({} : Seen).add 14) none) rfl (lim + 1 - pos) pos (({} : Seen).add 14) (by show lim - pos < _; omega) hn
      refine ⟨{ mach c2 text lim pos lim 10 pos pos true [] 0 none (({} : Seen).add 14) none with seen := sn' }, rfl, rfl, ?_⟩
      show (if pos > lim || decide (lim - pos < 1) then _ else M.attemptFrom (mach c2 text lim pos lim 10 pos pos true [] 0 none (({} : Seen).add 14) none) pos true) = _
      rw [if_neg (by simpa using hr)]
      show (match M.admitted (mach c2 text lim pos lim 10 pos pos true [] 0 none (({} : Seen).add 14) none) (lim + 1 - pos) pos (({} : Seen).add 14) with | .ok (some s, seen) => _ | .ok (none, seen) => _ | .error why => _) = _
      rw [e]
  obtain ⟨m, h1, h2, e⟩ := hx
  rw [e]
  exact (ends_miss m h1 h2).mono (by omega)

/-- the first pattern's place: at the head of a line, a dot -/
def dotAt (text : Array Nat) (lim i : Nat) : Prop := (i = 0 ∨ text.getD (i - 1) 0 = 10) ∧ i < lim ∧ text.getD i 0 = 46
abbrev fr1 (om : Bool) (i : Nat) : Sre.Frame := { wait := .nextStart, pc := 5, pos := i, outermost := om }
theorem at1_hit {om : Bool} {i h : Nat} (d : dotAt text lim i) : Ends (mach c1 text lim i lim 5 i h om [fr1 om i] 1 none sn none) 8 (Hit i (i + 1)) := by
  obtain ⟨h1, h2, h3⟩ := d
  have h1' : i = 0 ∨ text[i - 1]?.getD 0 = 10 := by simpa using h1
  have h3' : text[i]?.getD 0 = 46 := by simpa using h3
  refine ⟨5, by omega, ?_⟩
  unfold Hit
  simp [M.runFor, M.step, M.exec, M.word, ops, c1, M.isAt, accepts, itemWidth, M.resume, M.say, h1', h2, h3', M.putBack, Nat.not_le_of_gt]
theorem at1_next {om : Bool} {i h : Nat} (hi : i < lim) (d : ¬ dotAt text lim i) :
    ∃ k sn', k ≤ 4 ∧ (mach c1 text lim i lim 5 i h om [fr1 om i] 1 none sn none).runFor k = mach c1 text lim (i + 1) lim 5 (i + 1) (i + 1) false [fr1 false (i + 1)] 1 none sn' none := by
  by_cases h1 : i = 0 ∨ text[i - 1]?.getD 0 = 10
  · have h3 : (text[i]?.getD 0 == 46) = false := by
      rw [beq_eq_false_iff_ne]
      exact fun x => d ⟨by simpa using h1, hi, by simpa using x⟩
    refine ⟨3, ((mach c1 text lim i lim 5 i h om [fr1 om i] 1 none sn none).runFor 3).seen, by omega, ?_⟩
    simp [M.runFor, M.step, M.exec, M.word, ops, c1, M.isAt, accepts, itemWidth, M.resume, M.say, h1, hi, h3, M.putBack, Nat.not_le_of_gt, M.attemptFrom, M.hasFirstSet, M.attemptAt, M.attempt]
  · refine ⟨2, ((mach c1 text lim i lim 5 i h om [fr1 om i] 1 none sn none).runFor 2).seen, by omega, ?_⟩
    simp [M.runFor, M.step, M.exec, M.word, ops, c1, M.isAt, accepts, itemWidth, M.resume, M.say, h1, hi, M.putBack, Nat.not_le_of_gt, M.attemptFrom, M.hasFirstSet, M.attemptAt, M.attempt]
theorem at1_end {om : Bool} {h : Nat} : Ends (mach c1 text lim lim lim 5 lim h om [fr1 om lim] 1 none sn none) 8 Miss := by
  by_cases h1 : lim = 0 ∨ text[lim - 1]?.getD 0 = 10
  · refine ⟨4, by omega, ?_⟩
    unfold Miss
    simp [M.runFor, M.step, M.exec, M.word, ops, c1, M.isAt, M.resume, M.say, h1]
  · refine ⟨3, by omega, ?_⟩
    unfold Miss
    simp [M.runFor, M.step, M.exec, M.word, ops, c1, M.isAt, M.resume, M.say, h1]
theorem from1_hit {i : Nat} (d : dotAt text lim i) : ∀ (n s : Nat) (om : Bool) (h : Nat) (sn : Seen), i - s = n → s ≤ i → (∀ j, s ≤ j → j < i → ¬ dotAt text lim j) →
    Ends (mach c1 text lim s lim 5 s h om [fr1 om s] 1 none sn none) (8 + 4 * n) (Hit i (i + 1))
  | 0, s, om, h, sn, hn, hs, _ => by
    obtain rfl : s = i := by omega
    exact (at1_hit d).mono (by omega)
  | n + 1, s, om, h, sn, hn, hs, hno => by
    obtain ⟨k, sn', hk, e⟩ := at1_next (om := om) (h := h) (sn := sn) (show s < lim by have := d.2.1; omega) (hno s (Nat.le_refl _) (by omega))
    have := from1_hit d n (s + 1) false (s + 1) sn' (by omega) (by omega) fun j h1 h2 => hno j (by omega) h2
    rw [← e] at this
    exact this.after.mono (by omega)
theorem from1_miss : ∀ (n s : Nat) (om : Bool) (h : Nat) (sn : Seen), lim - s = n → s ≤ lim → (∀ j, s ≤ j → j < lim → ¬ dotAt text lim j) →
    Ends (mach c1 text lim s lim 5 s h om [fr1 om s] 1 none sn none) (8 + 4 * n) Miss
  | 0, s, om, h, sn, hn, hs, _ => by
    obtain rfl : s = lim := by omega
    exact at1_end.mono (by omega)
  | n + 1, s, om, h, sn, hn, hs, hno => by
    obtain ⟨k, sn', hk, e⟩ := at1_next (om := om) (h := h) (sn := sn) (show s < lim by omega) (hno s (Nat.le_refl _) (by omega))
    have := from1_miss n (s + 1) false (s + 1) sn' (by omega) (by omega) fun j h1 h2 => hno j (by omega) h2
    rw [← e] at this
    exact this.after.mono (by omega)
theorem search1_is {pos : Nat} (hp : pos < lim) : forSearch c1 text 0 pos lim false = mach c1 text lim pos lim 5 pos pos true [fr1 true pos] 1 none (({} : Seen).add 14) none := by
  have hr : ¬ (pos > lim ∨ lim - pos < 1) := by omega
  show (if pos > lim || decide (lim - pos < 1) then _ else M.attemptFrom (mach c1 text lim pos lim 5 pos pos true [] 0 none (({} : Seen).add 14) none) pos true) = _
  rw [if_neg (by simpa using hr)]
  rfl
theorem search1_hit {pos i : Nat} (hp : pos ≤ i) (d : dotAt text lim i) (hn : ∀ j, pos ≤ j → j < i → ¬ dotAt text lim j) : Ends (forSearch c1 text 0 pos lim false) (8 + 4 * lim) (Hit i (i + 1)) := by
  rw [search1_is (by have := d.2.1; omega)]
  exact (from1_hit d (i - pos) pos true pos _ rfl hp hn).mono (by have := d.2.1; omega)
theorem search1_miss {pos : Nat} (hn : ∀ j, pos ≤ j → j < lim → ¬ dotAt text lim j) : Ends (forSearch c1 text 0 pos lim false) (8 + 4 * lim) Miss := by
  by_cases hp : pos < lim
  · rw [search1_is hp]
    exact (from1_miss (lim - pos) pos true pos _ rfl (by omega) hn).mono (by omega)
  · have e : forSearch c1 text 0 pos lim false = (mach c1 text lim pos 0 5 pos pos true [] 0 none (({} : Seen).add 14) none).say false := by
      show (if pos > lim || decide (lim - pos < 1) then _ else _) = _
      rw [if_pos (by simp; omega)]
      rfl
    rw [e]
    exact (ends_miss _ rfl rfl).mono (by omega)
end
end Mine

/-! part A2 -/
namespace Mine
open PySem PySem.Sre PySem.Builtin PySem.Builtin.Re
set_option maxRecDepth 100000

theorem slot_re_sub : Slot "re.Pattern" "sub" "re.Pattern.sub" :=
  .of (owner := "re.Pattern") (n := "sub") (by rw [typeLookup_type, builtinLookup_eq_fast]; kernel_rfl) (by decide +kernel) (by decide +kernel) (by decide +kernel)
    (by first | exact .inl (by decide +kernel) | exact .inr (by decide +kernel)) (by rw [isSubtype_type]; kernel_rfl)
theorem type_re_sub : typeOf (.builtin "re.Pattern.sub") = pure (.type "method_descriptor") := by show builtinType _ = _; rw [builtinType_eq_fast]; kernel_rfl
theorem entry_re_sub : entryFor table "re.Pattern.sub" = some Builtin.«re.Pattern.sub» := entryFor_of_tree (by kernel_rfl)
theorem entry_re_loop : entryFor table "re.Pattern.sub.loop" = some Builtin.«re.Pattern.sub.loop» := entryFor_of_tree (by kernel_rfl)
theorem plain_re_loop : plainId "re.Pattern.sub.loop" = true := by decide +kernel
theorem args_re_sub (a b c : Value) : argsOk "re.Pattern.sub" ⟨[a, b, c], []⟩ := by
  unfold argsOk; kernel_rfl

/-- the pattern's object -/
def IsPat (h : Heap) (p : Addr) (code : Array Nat) : Prop :=
  ∃ o vs q oq its n, h.get? p = some o ∧ (o.cls = .type "re.Pattern" ∧ o.dict = none) ∧ o.data = .fields vs ∧ vs.getD 2 .none = rawInt 0 ∧ vs.getD 5 .none = .ref q ∧ vs.getD 6 .none = rawInt 0 ∧
    h.get? q = some oq ∧ oq.cls = .type "tuple" ∧ oq.data = .seq its n ∧ (its.map reRawOf).map (·.toNat) = code
theorem IsPat.keeps {h h' : Heap} {p : Addr} {code : Array Nat} (x : IsPat h p code) (k : ∀ b o, h.get? b = some o → h'.get? b = some o) : IsPat h' p code := by
  obtain ⟨o, vs, q, oq, its, n, h1, h2, h3, h4, h5, h6, h7, h8, h9⟩ := x
  exact ⟨o, vs, q, oq, its, n, k _ _ h1, h2, h3, h4, h5, h6, k _ _ h7, h8, h9⟩
theorem IsPat.upd {h h' : Heap} {p P : Addr} {oP : Obj} {code : Array Nat} (x : IsPat h p code) (hP : h.get? P = some oP) (hc : oP.cls = .type "list") (k : ∀ b o, b ≠ P → h.get? b = some o → h'.get? b = some o) : IsPat h' p code := by
  obtain ⟨o, vs, q, oq, its, n, h1, h2, h3, h4, h5, h6, h7, h8, h9⟩ := x
  refine ⟨o, vs, q, oq, its, n, k _ _ ?_ h1, h2, h3, h4, h5, h6, k _ _ ?_ h7, h8, h9⟩
  · rintro rfl; rw [h1] at hP; cases hP; rw [h2.1] at hc; exact absurd hc (by decide)
  · rintro rfl; rw [h7] at hP; cases hP; rw [h8] at hc; exact absurd hc (by decide)
section
variable {prog : Program} {w : World} {A : Around} {E : Value → Shared → Prop} {s : Shared}

theorem wp_drive {Q : M → Shared → Prop} {P : M → Prop} : ∀ (turns k : Nat) (m : M), k ≤ 4 * turns → turns ≠ 0 → Ends m k P → (∀ m', m'.outcome.isSome = true → P m' → Q m' s) → wpAny (model prog w) A (reDrive turns m) Q E s
  | 0, _, _, _, h, _, _ => absurd rfl h
  | turns + 1, k, m, hk, _, he, hQ => by
    have key : ∀ j, (m.runFor j).outcome.isSome = true → ∀ i, j ≤ i → m.runFor i = m.runFor j := by
      intro j ho i hi
      obtain ⟨d, rfl⟩ := Nat.exists_eq_add_of_le hi
      rw [runFor_add]
      cases d with
      | zero => rfl
      | succ d => show (if _ then _ else _) = _; rw [if_pos ho]
    obtain ⟨j, hj, ho, hp⟩ := he
    show wpAny _ _ (if (m.runFor 4).outcome.isSome then pure (m.runFor 4) else (do rule "sre.turn"; reDrive turns (m.runFor 4))) _ _ _
    by_cases h4 : (m.runFor 4).outcome.isSome = true
    · rw [if_pos h4]
      have e : m.runFor 4 = m.runFor j := by
        rcases Nat.le_total 4 j with q | q
        · exact (key 4 h4 j q).symm
        · exact key j ho 4 q
      exact wpAny_pure (hQ _ h4 (e ▸ hp))
    · rw [if_neg h4]
      refine wpAny_bind (wpAny_rule ?_)
      have hj4 : 4 < j := by
        rcases Nat.lt_or_ge 4 j with q | q
        · exact q
        · rw [key j ho 4 q] at h4; exact absurd ho h4
      refine wp_drive turns (k - 4) _ (by omega) (by omega) ⟨j - 4, by omega, ?_⟩ hQ
      rw [← runFor_add, Nat.add_sub_cancel' (by omega)]
      exact ⟨ho, hp⟩

theorem wp_end {Q : Option M → Shared → Prop} {P : M → Prop} {k : Nat} {m : M} (hk : k ≤ 2 ^ 60) (he : Ends m k P) (hQ : ∀ m', P m' → (m'.outcome = some .matched → Q (some m') s) ∧ (m'.outcome = some .failed → Q none s) ∧ (m'.outcome = some .matched ∨ m'.outcome = some .failed)) :
    wpAny (model prog w) A (reRunToEnd m) Q E s := by
  unfold reRunToEnd
  refine wpAny_bind (wp_drive (2 ^ 64) k m (by omega) (by decide) he fun m' ho hp => ?_)
  refine wpAny_bind ?_
  refine wpAny_forIn_list _ (fun _ _ s' => s' = s) _ ?_ ?_ _ _ rfl
  · rintro x rest b s' rfl
    split
    · exact wpAny_bind (wpAny_rule (wpAny_pure rfl))
    · exact wpAny_pure rfl
  · rintro b s' rfl
    obtain ⟨h1, h2, h3⟩ := hQ m' hp
    rcases h3 with h3 | h3
    · rw [h3]; exact wpAny_pure (h1 h3)
    · rw [h3]; exact wpAny_pure (h2 h3)

theorem wp_whole {p : Addr} {code : Array Nat} {x : Str} {t : Tok} {Q : ReTarget → Shared → Prop} (hp : IsPat s.heap p code)
    (h : Q { pattern := .ref p, string := .str x t, code, text := x.cps, kind := 0, groups := 0, pos := 0, lim := x.cps.size } s) : wpAny (model prog w) A (reWholeTarget (.ref p) (.str x t)) Q E s := by
  obtain ⟨o, vs, q, oq, its, n, h1, h2, h3, h4, h5, h6, h7, _, h8, rfl⟩ := hp
  unfold reWholeTarget
  refine wpAny_bind (wpAny_fieldsOf h1 h3 ?_)
  refine wpAny_bind (wpAny_of_eq (a := (x.cps, 0)) rfl ?_)
  simp only [h6]
  refine wpAny_bind (wpAny_pure ?_)
  rw [h5]
  unfold reRawItems
  refine wpAny_bind (wpAny_bind (wpAny_seqItems h7 h8 (wpAny_pure ?_)))
  rw [h4]
  exact wpAny_pure h

/-- what the loop gives, told from each place on -/
def Subs (code text : Array Nat) (r : List Nat) (F : Nat → List Nat) : Prop :=
  ∀ pos, pos ≤ text.size → (Ends (forSearch code text 0 pos text.size false) (2 ^ 60) Miss ∧ F pos = text.toList.drop pos) ∨
    ∃ i e, Ends (forSearch code text 0 pos text.size false) (2 ^ 60) (Hit i e) ∧ pos ≤ i ∧ i < e ∧ e ≤ text.size ∧ F pos = (text.extract pos i).toList ++ r ++ F e

theorem join_empty : ∀ texts : List Str, Txt.join ⟨#[]⟩ texts = ⟨(texts.map fun p => p.cps.toList).flatten.toArray⟩ := by
  intro texts
  unfold Txt.join
  rw [StrLaws.glued_eq_join]
  induction texts with
  | nil => rfl
  | cons a r ih =>
    cases r with
    | nil => show a = _; apply Str.ext'; simp
    | cons b r =>
      show a ++ ⟨#[]⟩ ++ Str.join ⟨#[]⟩ (b :: r) = _
      rw [ih]
      apply Str.ext'
      simp [Str.cps_append]
theorem foldl_len (f : List Str) : ∀ k : Nat, f.foldl (fun a b => a + b.length + (⟨#[]⟩ : Str).length) k = k + (f.map fun p => p.cps.toList).flatten.length := by
  induction f with
  | nil => intro k; simp
  | cons a r ih =>
    intro k
    rw [List.foldl_cons, ih]
    have : a.length = a.cps.toList.length := Array.length_toList.symm
    have h0 : (⟨#[]⟩ : Str).length = 0 := rfl
    simp only [List.map_cons, List.flatten_cons, List.length_append, this, h0]
    omega

def catL (l : List (Str × Tok)) : List Nat := (l.map fun p => p.1.cps.toList).flatten
theorem catL_snoc (l : List (Str × Tok)) (x : Str) (t : Tok) : catL (l ++ [(x, t)]) = catL l ++ x.cps.toList := by simp [catL]
theorem values_snoc (l : List (Str × Tok)) (x : Str) (t : Tok) : (strValues l).toArray.push (.str x t) = (strValues (l ++ [(x, t)])).toArray := by simp [strValues]
theorem push_at {h : Heap} {P : Addr} {l : List (Str × Tok)} {ep : Nat} (x : Str) (t : Tok) (hP : h.get? P = some { cls := .type "list", data := .seq (strValues l).toArray ep }) :
    ∃ ep', (h.update P (Obj.mapSeq (·.push (.str x t)))).get? P = some { cls := .type "list", data := .seq (strValues (l ++ [(x, t)])).toArray ep' } := by
  refine ⟨if ((strValues l).toArray.push (.str x t)).size == (strValues l).toArray.size then ep else ep + 1, (Heap.get?_update_self _ hP rfl).trans ?_⟩
  rw [← values_snoc]; rfl
theorem push_off {h : Heap} {P : Addr} (f : Obj → Obj) : ∀ b o, b ≠ P → h.get? b = some o → (h.update P f).get? b = some o := fun b o hb e => (Heap.get?_update_other _ _ (Ne.symm hb)).trans e

theorem loop_sub {p P : Addr} {code : Array Nat} {x r : Str} {t u : Tok} {F : Nat → List Nat} {R : Result → Shared → Prop} (hF : Subs code x.cps r.cps.toList F) (hr : r.length ≤ 2) (hx : x.length ≤ 100000) :
    ∀ (k pos : Nat) (s : Shared) (l : List (Str × Tok)) (n : Int) (ep : Nat), x.cps.size - pos = k → pos ≤ x.cps.size → IsPat s.heap p code →
    s.heap.get? P = some { cls := .type "list", data := .seq (strValues l).toArray ep } →
    l.length ≤ 2 * pos → (catL l).length ≤ 3 * pos →
    (∀ h' tk t', (∀ b o, b ≠ P → s.heap.get? b = some o → h'.get? b = some o) → R (.ok (.ret (.str ⟨(catL l ++ F pos).toArray⟩ t'))) { s with heap := h', toks := tk }) →
    codeAny (model prog w) A (.builtin "re.Pattern.sub.loop" ⟨[.ref p, .str x t, .str r u, rawInt 0, rawInt 0, rawInt n, rawInt pos, rawInt pos, .bool false, .ref P, .bool false], []⟩) R s := by
  intro k
  induction k using Nat.strongRecOn with
  | _ k ih =>
  intro pos s l n ep hk hpos hp hP hl hc hR
  have hxs : x.cps.size ≤ 100000 := hx
  have hrs : r.cps.size ≤ 2 := hr
  have hsl : sizeLine = 2 ^ 24 := rfl
  refine codeAny_builtin entry_re_loop ?_
  rw [Around.under_plainId plain_re_loop _]
  show wpAny _ A.in1 (reWholeTarget (.ref p) (.str x t) >>= _) _ _ s
  refine wpAny_bind (wp_whole hp ?_)
  refine wpAny_bind (wpAny_of_eq (a := ()) rfl ?_)
  show wpAny _ A.in1 (reRunToEnd (forSearch code x.cps 0 (pos : Int).toNat x.cps.size false) >>= _) _ _ s
  rw [Int.toNat_natCast]
  have hsv : (strValues l).toArray.size ≤ 200000 := by
    rw [List.size_toArray]; unfold strValues; rw [List.length_map]; omega
  rcases hF pos hpos with ⟨he, e⟩ | ⟨i, e, he, h1, h2, h3, hFe⟩
  · refine wpAny_bind (wp_end (Nat.le_refl _) he fun m' hm => ⟨fun x => ?_, fun _ => ?_, .inr hm⟩)
    · rw [hm] at x; cases x
    have fin : ∀ (s' : Shared) (l' : List (Str × Tok)) ep', s'.heap.get? P = some { cls := .type "list", data := .seq (strValues l').toArray ep' } → catL l' = catL l ++ x.cps.toList.drop pos → l'.length ≤ 2 * pos + 1 →
        (∃ h' tk, s' = { s with heap := h', toks := tk } ∧ ∀ b o, b ≠ P → s.heap.get? b = some o → h'.get? b = some o) →
        wpAny (model prog w) A.in1 (do
          let joiner ← reSlice x.cps 0 0 0
          let text ← if ((← seqItems? (.ref P)).getD #[]).isEmpty then pure joiner
            else call (.builtin (if (0 : Nat) == 0 then "str.join" else "bytes.join")) [joiner, .ref P]
          if false then ret (← holding [text] do newTuple [text, ← mkInt n]) else ret text) (fun fin s' => match fin with | .done f => R (.ok f) s' | .again c' => c'.quiet = true ∧ codeAny (model prog w) A c' R s') (fun e s' => R (.error e) s') s' := by
      rintro s' l' ep' hP' hcat hlen ⟨h', tk, rfl, hkeep⟩
      have hcl : (catL l').length ≤ 400000 := by
        rw [hcat, List.length_append, List.length_drop]
        have : x.cps.toList.length = x.cps.size := Array.length_toList
        omega
      have e0 : (⟨x.cps.extract 0 0⟩ : Str) = ⟨#[]⟩ := by apply Str.ext'; simp
      show wpAny _ A.in1 (mkStr ⟨x.cps.extract 0 0⟩ >>= _) _ _ _
      rw [e0]
      refine wpAny_bind (wpAny_mkStr ?_ (Nat.zero_le _))
      refine wpAny_bind (wpAny_seqItems hP' rfl ?_)
      have res : ∀ h'' tk'' t', (∀ b o, b ≠ P → s.heap.get? b = some o → h''.get? b = some o) → R (.ok (.ret (.str ⟨(catL l').toArray⟩ t'))) { s with heap := h'', toks := tk'' } := by
        intro h'' tk'' t' hk''
        have := hR h'' tk'' t' hk''
        rw [e, ← hcat] at this
        exact this
      cases l' with
      | nil =>
        show wpAny _ A.in1 (pure _ >>= _) _ _ _
        exact wpAny_bind (wpAny_pure (wpAny_pure (res h' _ _ hkeep)))
      | cons q l' =>
        show wpAny _ A.in1 (call (.builtin "str.join") [_, .ref P] >>= _) _ _ _
        refine wpAny_bind (SC.join (l := q :: l') ⟨_, hP', rfl, _, rfl⟩ rfl ?_ fun t' k => ?_)
        · unfold JoinOk
          rw [show ∀ (ts : List Str) (f : Nat → Str → Nat), ts.toArray.foldl f 0 = ts.foldl f 0 from fun ts f => by simp, foldl_len]
          have : ((List.map (fun x => x.1) (q :: l')).map fun p => p.cps.toList).flatten = catL (q :: l') := by
            unfold catL; rw [List.map_map]; rfl
          rw [this]
          unfold PySem.Builtin.Str.tooLong
          simp only [Bool.not_eq_true', decide_eq_false_iff_not]
          omega
        · rw [join_empty]
          have : ((List.map (fun x => x.1) (q :: l')).map fun p => p.cps.toList).flatten = catL (q :: l') := by
            unfold catL; rw [List.map_map]; rfl
          rw [this]
          exact wpAny_pure (res h' _ _ hkeep)
    by_cases hlt : pos < x.cps.size
    · show wpAny _ A.in1 (if pos < x.cps.size then _ else _) _ _ _
      rw [if_pos hlt]
      show wpAny _ A.in1 (mkStr ⟨x.cps.extract pos x.cps.size⟩ >>= _) _ _ _
      have hsz : (⟨x.cps.extract pos x.cps.size⟩ : Str).length ≤ x.cps.size := by
        show (x.cps.extract pos x.cps.size).size ≤ _
        rw [Array.size_extract]; omega
      refine wpAny_bind (wpAny_mkStr ?_ (by omega))
      refine wpAny_bind (wpAny_updateSeq hP rfl ?_ (by omega) (by rw [Array.size_push]; omega))
      obtain ⟨ep', hP'⟩ := push_at (h := s.heap) ⟨x.cps.extract pos x.cps.size⟩ s.toks hP
      refine fin _ (l ++ [(⟨x.cps.extract pos x.cps.size⟩, s.toks)]) ep' hP' ?_ (by rw [List.length_append]; show l.length + 1 ≤ _; omega) ⟨_, _, rfl, push_off _⟩
      rw [catL_snoc]
      simp only [Array.toList_extract, List.extract_eq_take_drop]
      rw [List.take_of_length_le (by rw [List.length_drop, Array.length_toList]; omega)]
    · show wpAny _ A.in1 (if pos < x.cps.size then _ else _) _ _ _
      rw [if_neg hlt]
      refine fin s l ep hP ?_ (by omega) ⟨_, _, rfl, fun _ _ _ x => x⟩
      rw [List.drop_eq_nil_of_le (by rw [Array.length_toList]; omega), List.append_nil]
  · refine wpAny_bind (wp_end (Nat.le_refl _) he fun m' hm => ⟨fun _ => ?_, fun x => ?_, .inl hm.1⟩)
    rotate_left
    · rw [hm.1] at x; cases x
    obtain ⟨_, rfl, rfl⟩ := hm
    have fin : ∀ (s' : Shared) (l' : List (Str × Tok)) ep', s'.heap.get? P = some { cls := .type "list", data := .seq (strValues l').toArray ep' } → catL l' = catL l ++ (x.cps.extract pos m'.start).toList → l'.length ≤ l.length + 1 →
        (∃ h' tk, s' = { s with heap := h', toks := tk } ∧ ∀ b o, b ≠ P → s.heap.get? b = some o → h'.get? b = some o) →
        wpAny (model prog w) A.in1 (do
          updateSeq P fun x => x.push (.str r u)
          again (.builtin "re.Pattern.sub.loop" ⟨[.ref p, .str x t, .str r u, rawInt 0, rawInt 0, rawInt (n + 1), rawInt m'.handed, rawInt m'.handed, .bool (m'.handed == m'.start), .ref P, .bool false], []⟩))
          (fun fin s' => match fin with | .done f => R (.ok f) s' | .again c' => c'.quiet = true ∧ codeAny (model prog w) A c' R s') (fun e s' => R (.error e) s') s' := by
      rintro s' l' ep' hP' hcat hlen ⟨h', tk, rfl, hkeep⟩
      have hsv' : (strValues l').toArray.size ≤ 200001 := by
        rw [List.size_toArray]; unfold strValues; rw [List.length_map]; omega
      refine wpAny_bind (wpAny_updateSeq hP' rfl ?_ (by omega) (by rw [Array.size_push]; omega))
      obtain ⟨ep'', hP''⟩ := push_at (h := h') r u hP'
      refine wpAny_pure ⟨plainId_quiet plain_re_loop _, ?_⟩
      rw [show (m'.handed == m'.start) = false from by rw [beq_eq_false_iff_ne]; omega]
      refine ih (x.cps.size - m'.handed) (by omega) m'.handed _ (l' ++ [(r, u)]) (n + 1) ep'' rfl h3 ?_ hP'' ?_ ?_ ?_
      · exact hp.upd hP rfl fun b o hb q => push_off _ b o hb (hkeep b o hb q)
      · rw [List.length_append]; show l'.length + 1 ≤ _; omega
      · rw [catL_snoc, hcat]
        simp only [List.length_append, Array.length_toList, Array.size_extract]
        omega
      · intro h'' tk'' t' hk''
        have := hR h'' tk'' t' fun b o hb q => hk'' b o hb (push_off _ b o hb (hkeep b o hb q))
        rw [hFe] at this
        rw [catL_snoc, hcat]
        simpa only [List.append_assoc] using this
    show wpAny _ A.in1 (if pos < m'.start then _ else _) _ _ _
    by_cases hlt : pos < m'.start
    · rw [if_pos hlt]
      show wpAny _ A.in1 (mkStr ⟨x.cps.extract pos m'.start⟩ >>= _) _ _ _
      have hsz : (⟨x.cps.extract pos m'.start⟩ : Str).length ≤ x.cps.size := by
        show (x.cps.extract pos m'.start).size ≤ _
        rw [Array.size_extract]; omega
      refine wpAny_bind (wpAny_mkStr ?_ (by omega))
      refine wpAny_bind (wpAny_updateSeq hP rfl ?_ (by omega) (by rw [Array.size_push]; omega))
      obtain ⟨ep', hP'⟩ := push_at (h := s.heap) ⟨x.cps.extract pos m'.start⟩ s.toks hP
      refine fin _ (l ++ [(⟨x.cps.extract pos m'.start⟩, s.toks)]) ep' hP' (catL_snoc ..) (by rw [List.length_append]; exact Nat.le_refl _) ⟨_, _, rfl, push_off _⟩
    · rw [if_neg hlt]
      refine fin s l ep hP ?_ (by omega) ⟨_, _, rfl, fun _ _ _ x => x⟩
      rw [show (x.cps.extract pos m'.start) = #[] from by apply Array.eq_empty_of_size_eq_zero; rw [Array.size_extract]; omega]
      simp

theorem call_sub {p : Addr} {code : Array Nat} {x r : Str} {t u : Tok} {F : Nat → List Nat} {Q : Value → Shared → Prop} (hp : IsPat s.heap p code) (hF : Subs code x.cps r.cps.toList F) (hr : r.length ≤ 2) (hx : x.length ≤ 100000) (h92 : r.cps.contains 92 = false)
    (h : ∀ h' tk t', (∀ b o, s.heap.get? b = some o → h'.get? b = some o) → Q (.str ⟨(F 0).toArray⟩ t') { s with heap := h', toks := tk }) :
    wpAny (model prog w) A (call (.builtin "re.Pattern.sub") [.ref p, .str r u, .str x t]) Q E s := by
  have hT : s.TypeIs (.ref p) "re.Pattern" := by
    obtain ⟨o, vs, q, oq, its, n, h1, h2, _⟩ := hp
    exact ⟨o, h1, h2.1⟩
  refine wpAny_call (codeAny_call_builtin slot_re_sub.plain entry_re_sub (slot_re_sub.check _ _ _ _ _ _ _ _ hT (args_re_sub _ _ _) ?_))
  unfold Builtin.«re.Pattern.sub» reSubstitute
  refine wpAny_bind (wpAny_of_eq (a := [some (.str r u), some (.str x t), none]) rfl ?_)
  refine wpAny_bind (wpAny_pure ?_)
  refine wpAny_bind (wpAny_specialOf_val (T := "str") (r := none) (by rfl) (by rw [typeLookup_type, builtinLookup_eq_fast]; kernel_rfl) ?_)
  refine wpAny_bind (wpAny_of_eq (a := some r) rfl ?_)
  show wpAny _ _ (pure (!r.cps.contains 92) >>= _) _ _ _
  rw [h92]
  refine wpAny_bind (wpAny_pure ?_)
  refine wpAny_bind (wpAny_pure ?_)
  refine wpAny_bind (wpAny_holding (wp_whole hp ?_))
  refine wpAny_bind (wpAny_newList ?_)
  have hP : (s.heap.push { cls := .type "list", data := .seq [].toArray }).get? s.heap.objs.size = some { cls := .type "list", data := .seq (strValues []).toArray 0 } := Heap.get?_push_size _ rfl
  refine wpAny_pure ⟨plainId_quiet plain_re_loop _, loop_sub hF hr hx (x.cps.size - 0) 0 _ [] 0 0 rfl (Nat.zero_le _) (hp.keeps fun _ _ e => Heap.get?_push_of_some _ e) hP (Nat.zero_le _) (Nat.zero_le _) fun h' tk t' hk => ?_⟩
  exact h h' tk t' fun b o e => hk b o (Nat.ne_of_lt (Heap.lt_size e)) (Heap.get?_push_of_some _ e)
end
end Mine

/-! part A3 -/
namespace Mine
open PySem PySem.Sre

/-- line ends mended -/
def fixL : List Nat → List Nat
  | [] => []
  | 13 :: 10 :: r => 13 :: 10 :: fixL r
  | c :: r => if c = 10 ∨ c = 13 then 13 :: 10 :: fixL r else c :: fixL r
/-- a dot at a line's head doubled -/
def quoteL : Bool → List Nat → List Nat
  | _, [] => []
  | b, c :: r => if b = true ∧ c = 46 then 46 :: 46 :: quoteL false r else c :: quoteL (c == 10) r

theorem fixL_crlf (r : List Nat) : fixL (13 :: 10 :: r) = 13 :: 10 :: fixL r := by rw [fixL]
theorem fixL_plain {c : Nat} (r : List Nat) (h : ¬ eol c) : fixL (c :: r) = c :: fixL r := by
  rw [fixL, if_neg h]
  intro r' h1; exact absurd (.inr h1) h
theorem fixL_lf (r : List Nat) : fixL (10 :: r) = 13 :: 10 :: fixL r := by
  rw [fixL, if_pos (.inl rfl)]
  intro r' h1; cases h1
theorem fixL_cr (r : List Nat) (h : ∀ r', r ≠ 10 :: r') : fixL (13 :: r) = 13 :: 10 :: fixL r := by
  rw [fixL, if_pos (.inr rfl)]
  intro r' _ h2; exact h r' h2
theorem fixL_clean : ∀ (u v : List Nat), (∀ c ∈ u, ¬ eol c) → fixL (u ++ v) = u ++ fixL v
  | [], _, _ => rfl
  | c :: u, v, h => by
    rw [List.cons_append, fixL_plain _ (h c (.head _)), fixL_clean u v fun d hd => h d (.tail _ hd)]; rfl
theorem quoteL_clean : ∀ (u v : List Nat) (b : Bool), (∀ c ∈ u, c ≠ 10) → (b = true → ∀ c r, u = c :: r → c ≠ 46) → u ≠ [] → quoteL b (u ++ v) = u ++ quoteL false v
  | [], _, _, _, _, h => absurd rfl h
  | c :: u, v, b, h, h46, _ => by
    rw [List.cons_append, quoteL, if_neg (fun x => h46 x.1 c u rfl x.2), show (c == 10) = false from by rw [beq_eq_false_iff_ne]; exact h c (.head _)]
    cases u with
    | nil => rfl
    | cons d u =>
      have := quoteL_clean (d :: u) v false (fun e he => h e (.tail _ he)) (fun x => by cases x) (by simp)
      rw [this]; rfl

theorem drop_cons {text : Array Nat} {i : Nat} (h : i < text.size) : text.toList.drop i = text.getD i 0 :: text.toList.drop (i + 1) := by
  rw [List.drop_eq_getElem_cons (by rw [Array.length_toList]; exact h)]
  simp [h]

theorem subs2 (text : Array Nat) : Subs c2 text [13, 10] (fun pos => fixL (text.toList.drop pos)) := by
  intro pos hpos
  -- the first end from pos on
  have key : ∀ k pos, text.size - pos = k → pos ≤ text.size → (∀ j, pos ≤ j → j < text.size → ¬ eol (text.getD j 0)) ∨ ∃ i, pos ≤ i ∧ i < text.size ∧ eol (text.getD i 0) ∧ ∀ j, pos ≤ j → j < i → ¬ eol (text.getD j 0) := by
    intro k
    induction k with
    | zero => intro pos h1 h2; exact .inl fun j a b => by omega
    | succ k ih =>
      intro pos h1 h2
      by_cases he : eol (text.getD pos 0)
      · exact .inr ⟨pos, Nat.le_refl _, by omega, he, fun j a b => by omega⟩
      · rcases ih (pos + 1) (by omega) (by omega) with h | ⟨i, a, b, c, d⟩
        · exact .inl fun j a b => if q : j = pos then q ▸ he else h j (by omega) b
        · exact .inr ⟨i, by omega, b, c, fun j a b => if q : j = pos then q ▸ he else d j (by omega) b⟩
  have clean : ∀ n pos, pos + n ≤ text.size → (∀ j, pos ≤ j → j < pos + n → ¬ eol (text.getD j 0)) → fixL (text.toList.drop pos) = (text.extract pos (pos + n)).toList ++ fixL (text.toList.drop (pos + n)) := by
    intro n pos hn hno
    have e : text.toList.drop pos = (text.extract pos (pos + n)).toList ++ text.toList.drop (pos + n) := by
      rw [Array.toList_extract, List.extract_eq_take_drop, Nat.add_sub_cancel_left, ← List.drop_drop, List.take_append_drop]
    rw [e]
    refine fixL_clean _ _ fun c hc => ?_
    obtain ⟨j, hj, rfl⟩ := List.getElem_of_mem hc
    rw [Array.length_toList, Array.size_extract] at hj
    have := hno (pos + j) (by omega) (by omega)
    simpa [show pos + j < text.size by omega] using this
  rcases key _ pos rfl hpos with h | ⟨i, h1, h2, h3, h4⟩
  · refine .inl ⟨(search2_miss h).mono (by decide), ?_⟩
    have := clean (text.size - pos) pos (by omega) fun j a b => h j a (by omega)
    rw [show pos + (text.size - pos) = text.size by omega, List.drop_eq_nil_of_le (as := text.toList) (i := text.size) (by rw [Array.length_toList]; exact Nat.le_refl _)] at this
    show fixL _ = _
    rw [this, fixL, List.append_nil, Array.toList_extract, List.extract_eq_take_drop, List.take_of_length_le (by rw [List.length_drop, Array.length_toList]; omega)]
  · have hlt : ∀ P : Prop, [Decidable P] → (P → i + 1 < text.size) → i < (if P then i + 2 else i + 1) ∧ (if P then i + 2 else i + 1) ≤ text.size := by
      intro P _ hP
      by_cases q : P
      · rw [if_pos q]; have := hP q; omega
      · rw [if_neg q]; omega
    refine .inr ⟨i, _, (search2_hit h1 h2 h3 h4).mono (by decide), h1, (hlt _ fun x => x.2.1).1, (hlt _ fun x => x.2.1).2, ?_⟩
    have c := clean (i - pos) pos (by omega) fun j a b => h4 j a (by omega)
    rw [show pos + (i - pos) = i by omega] at c
    show fixL _ = _
    rw [c, List.append_assoc]
    congr 1
    rw [drop_cons h2]
    rcases h3 with h3 | h3
    · rw [if_neg (by rw [h3]; simp), h3, fixL_lf]; rfl
    · rw [h3]
      by_cases q : i + 1 < text.size ∧ text.getD (i + 1) 0 = 10
      · rw [if_pos ⟨rfl, q⟩, drop_cons q.1, q.2, fixL_crlf]; rfl
      · rw [if_neg (fun x => q x.2), fixL_cr]; · rfl
        intro r' er
        by_cases q1 : i + 1 < text.size
        · rw [drop_cons q1] at er
          exact q ⟨q1, (List.cons.inj er).1⟩
        · rw [List.drop_eq_nil_of_le (by rw [Array.length_toList]; omega)] at er; cases er

def bol (text : Array Nat) (i : Nat) : Bool := decide (i = 0 ∨ text.getD (i - 1) 0 = 10)
theorem bol_succ (text : Array Nat) (i : Nat) : bol text (i + 1) = (text.getD i 0 == 10) := by
  unfold bol
  rw [Bool.eq_iff_iff]
  simp

theorem subs1 (text : Array Nat) (hlen : text.size ≤ 100000) : Subs c1 text [46, 46] (fun pos => quoteL (bol text pos) (text.toList.drop pos)) := by
  intro pos hpos
  have dec : ∀ i, i < text.size → (dotAt text text.size i ↔ bol text i = true ∧ text.getD i 0 = 46) := by
    intro i hi
    unfold dotAt bol
    rw [decide_eq_true_eq]
    exact ⟨fun x => ⟨x.1, x.2.2⟩, fun x => ⟨x.1, hi, x.2⟩⟩
  have key : ∀ k pos, text.size - pos = k → pos ≤ text.size → (∀ j, pos ≤ j → j < text.size → ¬ dotAt text text.size j) ∨ ∃ i, pos ≤ i ∧ i < text.size ∧ dotAt text text.size i ∧ ∀ j, pos ≤ j → j < i → ¬ dotAt text text.size j := by
    intro k
    induction k with
    | zero => intro pos h1 h2; exact .inl fun j a b => by omega
    | succ k ih =>
      intro pos h1 h2
      by_cases he : dotAt text text.size pos
      · exact .inr ⟨pos, Nat.le_refl _, by omega, he, fun j a b => by omega⟩
      · rcases ih (pos + 1) (by omega) (by omega) with h | ⟨i, a, b, c, d⟩
        · exact .inl fun j a b => if q : j = pos then q ▸ he else h j (by omega) b
        · exact .inr ⟨i, by omega, b, c, fun j a b => if q : j = pos then q ▸ he else d j (by omega) b⟩
  have clean : ∀ n pos, pos + n ≤ text.size → (∀ j, pos ≤ j → j < pos + n → ¬ dotAt text text.size j) → quoteL (bol text pos) (text.toList.drop pos) = (text.extract pos (pos + n)).toList ++ quoteL (bol text (pos + n)) (text.toList.drop (pos + n)) := by
    intro n
    induction n with
    | zero => intro pos _ _; simp
    | succ n ih =>
      intro pos hn hno
      have hp : pos < text.size := by omega
      rw [drop_cons hp, quoteL, if_neg (fun x => hno pos (Nat.le_refl _) (by omega) ((dec pos hp).mpr x)), ← bol_succ, ih (pos + 1) (by omega) fun j a b => hno j (by omega) (by omega)]
      rw [show pos + 1 + n = pos + (n + 1) by omega, ← List.cons_append]
      congr 1
      simp only [Array.toList_extract, List.extract_eq_take_drop]
      rw [drop_cons hp, show pos + (n + 1) - pos = n + 1 by omega, show pos + (n + 1) - (pos + 1) = n by omega, List.take_succ_cons]
  have hb : 8 + 4 * text.size ≤ 2 ^ 60 := by omega
  rcases key _ pos rfl hpos with h | ⟨i, h1, h2, h3, h4⟩
  · refine .inl ⟨(search1_miss h).mono hb, ?_⟩
    have := clean (text.size - pos) pos (by omega) fun j a b => h j a (by omega)
    rw [show pos + (text.size - pos) = text.size by omega, List.drop_eq_nil_of_le (as := text.toList) (i := text.size) (by rw [Array.length_toList]; exact Nat.le_refl _)] at this
    show quoteL _ _ = _
    rw [this, quoteL, List.append_nil, Array.toList_extract, List.extract_eq_take_drop, List.take_of_length_le (by rw [List.length_drop, Array.length_toList]; omega)]
  · refine .inr ⟨i, i + 1, (search1_hit h1 h3 h4).mono hb, h1, by omega, by omega, ?_⟩
    have c := clean (i - pos) pos (by omega) fun j a b => h4 j a (by omega)
    rw [show pos + (i - pos) = i by omega] at c
    show quoteL _ _ = _
    rw [c, List.append_assoc]
    congr 1
    show _ = [46, 46] ++ quoteL (bol text (i + 1)) _
    rw [drop_cons h2, quoteL, if_pos ((dec i h2).mp h3), bol_succ, h3.2.2]
    rfl

section
variable {prog : Program} {w : World} {A : Around} {E : Value → Shared → Prop} {s : Shared}
def fixS (x : Str) : Str := ⟨(fixL x.cps.toList).toArray⟩
def dotS (x : Str) : Str := ⟨(quoteL true x.cps.toList).toArray⟩
theorem call_fix {p : Addr} {x : Str} {t u : Tok} {Q : Value → Shared → Prop} (hp : IsPat s.heap p c2) (hx : x.length ≤ 100000)
    (h : ∀ h' tk t', (∀ b o, s.heap.get? b = some o → h'.get? b = some o) → Q (.str (fixS x) t') { s with heap := h', toks := tk }) :
    wpAny (model prog w) A (call (.builtin "re.Pattern.sub") [.ref p, .str ⟨#[13, 10]⟩ u, .str x t]) Q E s :=
  call_sub hp (subs2 x.cps) (by decide) hx (by simp) h
theorem call_dots {p : Addr} {x : Str} {t u : Tok} {Q : Value → Shared → Prop} (hp : IsPat s.heap p c1) (hx : x.length ≤ 100000)
    (h : ∀ h' tk t', (∀ b o, s.heap.get? b = some o → h'.get? b = some o) → Q (.str (dotS x) t') { s with heap := h', toks := tk }) :
    wpAny (model prog w) A (call (.builtin "re.Pattern.sub") [.ref p, .str ⟨#[46, 46]⟩ u, .str x t]) Q E s :=
  call_sub hp (subs1 x.cps hx) (by decide) hx (by simp) h
end
end Mine

/-! part B0 -/
namespace Mine
open PySem PySem.Calls PyProof.Rows
set_option maxRecDepth 100000

abbrev NR : Value → Shared → Prop := fun _ _ => False
/-- the heap is another, but for wr as it was -/
def Off (wr : List Addr) (s₀ s₁ : Shared) : Prop := ∃ h tk, s₁ = { s₀ with heap := h, toks := tk } ∧ ∀ b o, b ∉ wr → s₀.heap.get? b = some o → h.get? b = some o

theorem Fr_off {h₀ h h' : Heap} {L It : Addr} {m : Str → Option Value} (F : Fr h₀ L h m) (hk : ∀ b o, b ∉ [It] → h.get? b = some o → h'.get? b = some o) (hI : L < It) : Fr h₀ L h' m :=
  ⟨F.ns.at' fun o e => hk L o (by simpa using Nat.ne_of_lt hI) e, fun b o e => hk b o (by simpa using Nat.ne_of_lt (Nat.lt_of_lt_of_le (Heap.lt_size e) (Nat.le_trans F.above (Nat.le_of_lt hI)))) (F.keep b o e), F.above⟩
theorem mkNews {h₀ h : Heap} {L : Addr} {m : Str → Option Value} {news : List (Addr × Obj)} (F : Fr h₀ L h m) (hn : ∀ p ∈ news, h.get? p.1 = some p.2 ∧ L < p.1) : News h₀ L h news := fun p hp =>
  ⟨(hn p hp).1, Nat.ne_of_gt (hn p hp).2, by
    cases e : h₀.get? p.1 with
    | none => rfl
    | some o => exact absurd (Nat.lt_of_lt_of_le (Heap.lt_size e) (Nat.le_trans F.above (Nat.le_of_lt (hn p hp).2))) (Nat.lt_irrefl _)⟩
def SeqO (o : Obj) : Prop := match o.data with | .seq .. => True | _ => False
theorem Off.refl (wr : List Addr) (s : Shared) : Off wr s s := ⟨s.heap, s.toks, rfl, fun _ _ _ e => e⟩

section
variable {prog : Program} {w : World} {A : Around} {s : Shared} {env : Env}

structure ForAt (prog : Program) (w : World) (A : Around) (env : Env) (x : Str) (body : List Stmt) (Q : Flow → Shared → Prop) (I : Addr) (fp wr : List Addr) (n : Nat) (P : Nat → Value → Prop) (St : Nat → Heap → Prop) (Inv : Nat → Shared → Prop) (s₂ : Shared) : Prop where
  walks : Walks prog w A I fp wr n P St
  st : St 0 s₂.heap
  start : Inv 0 s₂
  turn : ∀ i v s₀ s₁, i < n → P i v → St i s₀.heap → St (i + 1) s₁.heap → Inv i s₀ → Off wr s₀ s₁ → wpAny (model prog w) A (storeName env x v) (fun _ s₂ => wpAny (model prog w) A (execs body env) (fun f s₃ => match f with
      | .next | .cont => Inv (i + 1) s₃ ∧ ∀ b ∈ fp, ∀ o, s₁.heap.get? b = some o → s₃.heap.get? b = some o
      | .brk => Q .next s₃
      | .ret v => Q (.ret v) s₃) NR s₂) NR s₁
  done : ∀ s₀ s₁, St n s₀.heap → Inv n s₀ → Off wr s₀ s₁ → Q .next s₁

theorem for_gen {x : Str} {px pos : Pos} {iter : Expr} {body : List Stmt} {Q : Flow → Shared → Prop}
    (h : wpAny (model prog w) A (eval iter env) (fun xv s₁ => wpAny (model prog w) A (pyIter xv) (fun it s₂ => ∃ I fp wr n P St Inv, it = .ref I ∧ ForAt prog w A env x body Q I fp wr n P St Inv s₂) NR s₁) NR s)
    (hs : ∀ x, foldedSetIterable iter env x = pure x) : wpAny (model prog w) A (exec (.For (.Name x px) iter body [] pos) env) Q NR s := by
  refine wpAny_For (wpAny_mono h (fun xv s₁ h₁ => wpAny_mono h₁ (fun it s₂ h₂ => ?_) fun _ _ x => x) fun _ _ x => x) hs
  obtain ⟨I, fp, wr, n, P, St, Inv, rfl, Z⟩ := h₂
  refine codeAny_forLoop (fun k s' => ∃ i, k = n + 1 - i ∧ i ≤ n ∧ St i s'.heap ∧ Inv i s') ?_ (n + 1) ⟨0, rfl, Nat.zero_le _, Z.st, Z.start⟩
  rintro k s' ⟨i, rfl, hi, hst, hI⟩
  by_cases hlt : i < n
  · refine Z.walks.item i s' _ _ hlt hst fun v h' tk hP hst' hk => ?_
    refine wpAny_assign_Name ?_
    refine wpAny_noRaise (wpAny_mono (Z.turn i v s' _ hlt hP hst hst' hI ⟨h', tk, rfl, hk⟩) (fun _ s₂ h₂ => wpAny_noRaise (wpAny_mono h₂ (fun f s₃ h₃ => ?_) fun _ _ x => x)) fun _ _ x => x)
    have go : (Inv (i + 1) s₃ ∧ ∀ b ∈ fp, ∀ o, h'.get? b = some o → s₃.heap.get? b = some o) → ∃ m, m < n + 1 - i ∧ ∃ j, m = n + 1 - j ∧ j ≤ n ∧ St j s₃.heap ∧ Inv j s₃ :=
      fun x => ⟨n + 1 - (i + 1), by omega, i + 1, rfl, hlt, Z.walks.frame _ _ _ hst' x.2, x.1⟩
    cases f with
    | next => exact go h₃
    | cont => exact go h₃
    | brk => exact h₃
    | ret v => exact h₃
  · have e : i = n := by omega
    subst e
    exact Z.walks.done s' _ _ hst fun h' tk hk => wpAny_execs_nil (Z.done s' _ hst hI ⟨h', tk, rfl, hk⟩)

/-- over a list -/
theorem over_list {l : Addr} {items : Array Value} {x : Str} {body : List Stmt} {Q : Flow → Shared → Prop} (Inv : Nat → Shared → Prop) (hh : A.handled = none) (hl : s.heap.IsList l items)
    (start : ∀ o, Inv 0 { s with heap := s.heap.push o })
    (turn : ∀ i v s₀ s₁, items[i]? = some v → (∀ o, s₀.heap.get? s.heap.objs.size = some o → ¬ SeqO o) → s₁.heap.IsList l items → (∃ o, s₁.heap.get? s.heap.objs.size = some o) → Inv i s₀ → Off [s.heap.objs.size] s₀ s₁ → wpAny (model prog w) A (storeName env x v) (fun _ s₂ => wpAny (model prog w) A (execs body env) (fun f s₃ => match f with
      | .next | .cont => Inv (i + 1) s₃ ∧ ∀ b, b = s.heap.objs.size ∨ b = l → ∀ o, s₁.heap.get? b = some o → s₃.heap.get? b = some o
      | .brk => Q .next s₃
      | .ret v => Q (.ret v) s₃) NR s₂) NR s₁)
    (done : ∀ s₀ s₁, (∀ o, s₀.heap.get? s.heap.objs.size = some o → ¬ SeqO o) → Inv items.size s₀ → Off [s.heap.objs.size] s₀ s₁ → Q .next s₁) :
    wpAny (model prog w) A (pyIter (.ref l)) (fun it s₂ => ∃ I fp wr n P St Inv, it = .ref I ∧ ForAt prog w A env x body Q I fp wr n P St Inv s₂) NR s := by
  refine wpAny_pyIter_list hl ?_
  obtain ⟨ol, hol, _⟩ := id hl
  have hne : l ≠ s.heap.objs.size := Nat.ne_of_lt (Heap.lt_size hol)
  refine ⟨_, _, _, _, _, _, Inv, rfl, Walks.list hh s.heap.objs.size l hne items, ⟨⟨_, Heap.get?_push_size _ rfl, rfl, rfl⟩, hl.push _⟩, start _, ?_, fun s₀ s₁ hst => done s₀ s₁ (fun o ho => by obtain ⟨⟨oI, hoI, _, hd⟩, _⟩ := hst; rw [hoI] at ho; cases ho; simp [SeqO, hd])⟩
  intro i v s₀ s₁ hi hv hst0 hst hI hoff
  obtain ⟨⟨oI, hoI, _⟩, hl1⟩ := hst
  refine wpAny_mono (turn i v s₀ s₁ hv (fun o ho => by obtain ⟨⟨oI, hoI, _, hd⟩, _⟩ := hst0; rw [hoI] at ho; cases ho; simp [SeqO, hd]) hl1 ⟨oI, hoI⟩ hI hoff) (fun _ s₂ h₂ => wpAny_mono h₂ (fun f s₃ h₃ => ?_) fun _ _ x => x) fun _ _ x => x
  have go : (Inv (i + 1) s₃ ∧ ∀ b, b = s.heap.objs.size ∨ b = l → ∀ o, s₁.heap.get? b = some o → s₃.heap.get? b = some o) → Inv (i + 1) s₃ ∧ ∀ b ∈ [s.heap.objs.size, l], ∀ o, s₁.heap.get? b = some o → s₃.heap.get? b = some o :=
    fun x => ⟨x.1, fun b hb => x.2 b (by simpa using hb)⟩
  cases f with
  | next => exact go h₃
  | cont => exact go h₃
  | brk => exact h₃
  | ret v => exact h₃

/-- over a range's iterator -/
theorem over_range {a c : Int} {n : Nat} {I : Addr} {x : Str} {body : List Stmt} {Q : Flow → Shared → Prop} (Inv : Nat → Shared → Prop) (hh : A.handled = none) (hI : IsRangeIter s.heap I (a + ((0 : Nat) : Int) * c) ((n : Int) - ((0 : Nat) : Int)) c)
    (start : Inv 0 s)
    (turn : ∀ i t s₀ s₁, i < n → (∀ o, s₀.heap.get? I = some o → ¬ SeqO o) → (∃ o, s₁.heap.get? I = some o) → Inv i s₀ → Off [I] s₀ s₁ → wpAny (model prog w) A (storeName env x (.int (a + i * c) t)) (fun _ s₂ => wpAny (model prog w) A (execs body env) (fun f s₃ => match f with
      | .next | .cont => Inv (i + 1) s₃ ∧ ∀ o, s₁.heap.get? I = some o → s₃.heap.get? I = some o
      | .brk => Q .next s₃
      | .ret v => Q (.ret v) s₃) NR s₂) NR s₁)
    (done : ∀ s₀ s₁, (∀ o, s₀.heap.get? I = some o → ¬ SeqO o) → Inv n s₀ → Off [I] s₀ s₁ → Q .next s₁) :
    ∃ I' fp wr n P St Inv, (Value.ref I) = .ref I' ∧ ForAt prog w A env x body Q I' fp wr n P St Inv s := by
  refine ⟨_, _, _, _, _, _, Inv, rfl, Walks.range hh I a c n, hI, start, ?_, fun s₀ s₁ hst => done s₀ s₁ (fun o ho => by rw [show s₀.heap.get? I = some _ from hst] at ho; cases ho; simp [SeqO])⟩
  intro i v s₀ s₁ hi hv hst0 hst hI hoff
  obtain ⟨t, rfl⟩ := hv
  refine wpAny_mono (turn i t s₀ s₁ hi (fun o ho => by rw [show s₀.heap.get? I = some _ from hst0] at ho; cases ho; simp [SeqO]) ⟨_, hst⟩ hI hoff) (fun _ s₂ h₂ => wpAny_mono h₂ (fun f s₃ h₃ => ?_) fun _ _ x => x) fun _ _ x => x
  have go : (Inv (i + 1) s₃ ∧ ∀ o, s₁.heap.get? I = some o → s₃.heap.get? I = some o) → Inv (i + 1) s₃ ∧ ∀ b ∈ [I], ∀ o, s₁.heap.get? b = some o → s₃.heap.get? b = some o :=
    fun x => ⟨x.1, fun b hb => by rw [List.mem_singleton.mp hb]; exact x.2⟩
  cases f with
  | next => exact go h₃
  | cont => exact go h₃
  | brk => exact h₃
  | ret v => exact h₃
end
end Mine

/-! part B1 -/
namespace Mine
open PySem PySem.Calls PyProof.Rows
set_option maxRecDepth 100000

abbrev prg : Program := PySem.Challenge.pw_pg0077_01
def stAt (i : Nat) : Stmt := prg.main.body.getD i (.Pass default)
def nameAt (i : Nat) : Str := match stAt i with | .FunctionDef n _ _ _ _ _ _ _ _ _ => n | _ => ⟨#[]⟩
def paramsAt (i : Nat) : Arguments := match stAt i with | .FunctionDef _ a _ _ _ _ _ _ _ _ => a | _ => default
def bodyAt (i : Nat) : List Stmt := match stAt i with | .FunctionDef _ _ b _ _ _ _ _ _ _ => b | _ => []
def scopeAt (i : Nat) : Scope := match stAt i with | .FunctionDef _ _ _ _ _ _ s _ _ _ => s | _ => default

abbrev Ext (h h' : Heap) : Prop := ∀ b o, h.get? b = some o → h'.get? b = some o

def FnAt (mg : Str → Option Value) (h : Heap) (i : Nat) : Prop :=
  ∃ a o pm cd doc, mg (nameAt i) = some (.ref a) ∧ h.get? a = some o ∧ o.data = .func (docDef (nameAt i) (paramsAt i) (bodyAt i) (scopeAt i) pm cd doc) ∧ h.CodeRec cd (nameAt i)

/-- what the calls read of the top -/
structure Gd (mg mb : Str → Option Value) (h : Heap) : Prop where
  g : h.Ns mainGlobals mg
  b : h.Ns builtinsNs mb
  lim : h.NoLimit
  p1 : ∃ a, mg "_twin_re_1" = some (.ref a) ∧ IsPat h a c1
  p2 : ∃ a, mg "_twin_re_2" = some (.ref a) ∧ IsPat h a c2
  crlf : ∃ t, mg "CRLF" = some (.str ⟨#[13, 10]⟩ t)
  dots : ∃ t, mg "ELLIPSIS_MARKER" = some (.str ⟨#[46, 46, 46]⟩ t)
  bi : ∀ x ∈ (["len", "range", "sum", "chr", "isinstance", "tuple", "zip"] : List Str), mg x = none ∧ mb x = bootBuiltins x
  fn : ∀ i ∈ [3, 5, 10, 11, 13, 14], FnAt mg h i
  bm : ∃ a ob, BMod h mainGlobals mg a ob

theorem Gd.keeps {mg mb : Str → Option Value} {h h' : Heap} (G : Gd mg mb h) (k : Ext h h') : Gd mg mb h' where
  g := G.g.keeps k
  b := G.b.keeps k
  lim := G.lim.keeps k
  p1 := let ⟨a, e, x⟩ := G.p1; ⟨a, e, x.keeps k⟩
  p2 := let ⟨a, e, x⟩ := G.p2; ⟨a, e, x.keeps k⟩
  crlf := G.crlf
  dots := G.dots
  bi := G.bi
  fn := fun i hi => let ⟨a, o, pm, cd, doc, h1, h2, h3, h4⟩ := G.fn i hi; ⟨a, o, pm, cd, doc, h1, k _ _ h2, h3, h4.keeps k⟩
  bm := let ⟨a, ob, x⟩ := G.bm; ⟨a, ob, x.keeps k⟩

section
variable {prog : Program} {w : World} {A : Around} {E : Value → Shared → Prop} {s : Shared} {mg mb : Str → Option Value}

theorem plain_re : PlainAttrs "re.Pattern" :=
  ⟨⟨"object.__getattribute__", by rw [typeLookup_type, builtinLookup_eq_fast]; kernel_rfl, by decide +kernel⟩, by rw [typeLookup_type, builtinLookup_eq_fast]; kernel_rfl⟩

/-- a call's frame -/
abbrev envAt (i : Nat) (L a : Addr) (cd : Value) : Env := envOf (nameAt i) (scopeAt i) L a cd

theorem isPat_noDict {h : Heap} {p : Addr} {c : Array Nat} (x : IsPat h p c) : ∃ o, h.get? p = some o ∧ o.cls = .type "re.Pattern" ∧ o.dict = none := let ⟨o, _, _, _, _, _, h1, h2, _⟩ := x; ⟨o, h1, h2.1, h2.2⟩

theorem glob {i : Nat} {L a : Addr} {cd : Value} {x : Str} {pos : Pos} {v : Value} {Q : Value → Shared → Prop} (G : Gd mg mb s.heap) (hv : mg x = some v) (h : Q v s)
    (hk : (scopeAt i).kind = .function := by rfl) (hx : (envAt i L a cd).kindOf x = some .globalImplicit := by rfl) (hd : (x == ("__debug__" : Str)) = false := by decide) : wpAny (model prog w) A (eval (.Name x pos) (envAt i L a cd)) Q E s :=
  Name_function_global hk hx (loadGlobal_global (env := envAt i L a cd) G.g hv h) hd
theorem blt {i : Nat} {L a : Addr} {cd : Value} {x : Str} {pos : Pos} {v : Value} {Q : Value → Shared → Prop} (G : Gd mg mb s.heap) (hm : x ∈ (["len", "range", "sum", "chr", "isinstance", "tuple", "zip"] : List Str)) (hv : bootBuiltins x = some v) (h : Q v s)
    (hk : (scopeAt i).kind = .function := by rfl) (hx : (envAt i L a cd).kindOf x = some .globalImplicit := by rfl) (hd : (x == ("__debug__" : Str)) = false := by decide) : wpAny (model prog w) A (eval (.Name x pos) (envAt i L a cd)) Q E s :=
  Name_function_global hk hx (loadGlobal_builtin (env := envAt i L a cd) G.g (G.bi x hm).1 G.b ((G.bi x hm).2.trans hv) h) hd
theorem loc {i : Nat} {L a : Addr} {cd : Value} {x : Str} {pos : Pos} {v : Value} {m : Str → Option Value} {Q : Value → Shared → Prop} (hn : s.heap.Ns L m) (hv : m x = some v) (h : Q v s)
    (hk : (scopeAt i).kind = .function := by rfl) (hx : (envAt i L a cd).kindOf x = some .local := by rfl) (hd : (x == ("__debug__" : Str)) = false := by decide) : wpAny (model prog w) A (eval (.Name x pos) (envAt i L a cd)) Q E s :=
  wpAny_Name (wpAny_loadName_local hk hx hn hv h) hd

/-- x.sub(r, e) at a pattern -/
theorem sub_meth {env : Env} {o e1 e2 : Expr} {apos pos : Pos} {p : Addr} {c : Array Nat} {Q : Value → Shared → Prop} (hbase : attributeBase o "sub" env (eval o env) = eval o env) (hline : (apos.endLine == pos.line) = true)
    (he1 : starEach [e1, e2] env = [(false, eval e1 env), (false, eval e2 env)])
    (h : wpAny (model prog w) A (eval o env) (fun ov s₁ => ov = .ref p ∧ IsPat s₁.heap p c ∧ wpAny (model prog w) A (eval e1 env) (fun v1 s₂ => wpAny (model prog w) A (eval e2 env) (fun v2 s₃ => wpAny (model prog w) A (call (.builtin "re.Pattern.sub") [.ref p, v1, v2]) Q E s₃) E s₂) E s₁) E s) :
    wpAny (model prog w) A (eval (.Call (.Attribute o "sub" apos) [e1, e2] [] pos) env) Q E s := by
  refine wpAny_Call_method (T := "re.Pattern") (id := "re.Pattern.sub") hbase ?_ hline plain_re slot_re_sub type_re_sub (wpAny_mono h (fun ov s₁ h₁ => ?_) fun _ _ x => x)
  · rw [he1]; rfl
  obtain ⟨rfl, hp, h₁⟩ := h₁
  obtain ⟨ob, k1, k2, k3⟩ := isPat_noDict hp
  refine ⟨⟨ob, k1, k2⟩, fun a e => by cases e; exact ⟨ob, k1, k3⟩, ?_⟩
  rw [he1]
  show wpAny _ _ (callWith pos _ _ [(false, eval e1 env), (false, eval e2 env)] []) _ _ _
  refine callWith_builtin rfl (evalArgs_plain (spliced_cons (wpAny_mono h₁ (fun v1 s₂ h₂ => spliced_cons (wpAny_mono h₂ (fun v2 s₃ h₃ => spliced_nil ?_) fun _ _ x => x)) fun _ _ x => x)))
  exact h₃

theorem fixEols_K {x : Str} {t : Tok} {Q : Value → Shared → Prop} (G : Gd mg mb s.heap) (hd : A.depth < recursionLimit) (hx : x.length ≤ 100000) {a : Addr} (ha : mg "_fix_eols" = some (.ref a))
    (h : ∀ h' tk t', Ext s.heap h' → Q (.str (fixS x) t') { s with heap := h', toks := tk }) : wpAny (model prog w) A (call (.ref a) [.str x t]) Q E s := by
  obtain ⟨a', o, pm, cd, doc, h1, h2, h3, h4⟩ := G.fn 11 (by simp)
  obtain rfl : a' = a := by
    have : mg (nameAt 11) = some (.ref a) := ha
    rw [h1] at this; injection this with e; injection e
  refine wpAny_call (call_pos_ret hd h2 h3 G.lim h4 rfl (locs rfl) (fun h₁ F => ?_) rfl rfl rfl (by decide))
  have G₁ : Gd mg mb h₁ := G.keeps F.keep
  obtain ⟨p, hp, hP⟩ := G₁.p2
  obtain ⟨tc, hc⟩ := G₁.crlf
  with_unfolding_all refine wpAny_execs_cons (wpAny_Return_some (sub_meth (c := c2) rfl rfl rfl (glob G₁ hp ⟨rfl, hP, glob G₁ hc (loc F.ns rfl ?_)⟩)))
  exact call_fix hP hx fun h' tk t' k => h h' tk t' fun b o e => k b o (F.keep b o e)

theorem len_fix : ∀ l : List Nat, (fixL l).length ≤ 2 * l.length := by
  intro l
  induction l using fixL.induct with
  | case1 => simp [fixL]
  | case2 r ih => rw [fixL_crlf]; simp only [List.length_cons]; omega
  | case3 c r h hc ih =>
    rw [fixL, if_pos hc]; · simp only [List.length_cons]; omega
    · exact h
  | case4 c r h hc ih => rw [fixL, if_neg hc]; · simp only [List.length_cons]; omega
                         · exact h

theorem quotedata_K {x : Str} {t : Tok} {Q : Value → Shared → Prop} (G : Gd mg mb s.heap) (hd : A.depth < recursionLimit) (hx : x.length ≤ 50000) {a : Addr} (ha : mg "quotedata" = some (.ref a))
    (h : ∀ h' tk t', Ext s.heap h' → Q (.str (dotS (fixS x)) t') { s with heap := h', toks := tk }) : wpAny (model prog w) A (call (.ref a) [.str x t]) Q E s := by
  obtain ⟨a', o, pm, cd, doc, h1, h2, h3, h4⟩ := G.fn 10 (by simp)
  obtain rfl : a' = a := by
    have : mg (nameAt 10) = some (.ref a) := ha
    rw [h1] at this; injection this with e; injection e
  refine wpAny_call (call_pos_ret hd h2 h3 G.lim h4 rfl (locs rfl) (fun h₁ F => ?_) rfl rfl rfl (by decide))
  have G₁ : Gd mg mb h₁ := G.keeps F.keep
  obtain ⟨p, hp, hP⟩ := G₁.p2
  obtain ⟨p', hp', hP'⟩ := G₁.p1
  obtain ⟨tc, hc⟩ := G₁.crlf
  with_unfolding_all refine wpAny_execs_cons (wpAny_Return_some (sub_meth (c := c1) rfl rfl rfl (glob G₁ hp' ⟨rfl, hP', Constant_str (sub_meth (c := c2) rfl rfl rfl (glob G₁ hp ⟨rfl, hP, glob G₁ hc (loc F.ns rfl ?_)⟩))⟩)))
  refine call_fix hP (by omega) fun h' tk t' k => call_dots (hP'.keeps k) ?_ fun h'' tk' t'' k' => h h'' tk' t'' fun b o e => k' b o (k b o (F.keep b o e))
  show ((fixL x.cps.toList).toArray).size ≤ _
  rw [List.size_toArray]
  have e1 := len_fix x.cps.toList
  have e2 : x.cps.toList.length = x.cps.size := Array.length_toList
  have e3 : x.length = x.cps.size := rfl
  omega
end
end Mine

/-! part B2 -/
namespace Mine
open PySem PySem.Calls PyProof.Rows
set_option maxRecDepth 100000

section
variable {prog : Program} {w : World} {A : Around} {E : Value → Shared → Prop} {s : Shared} {mg mb : Str → Option Value}

abbrev dots : Str := ⟨#[46, 46, 46]⟩

theorem meth1 {env : Env} {o e1 : Expr} {name : Str} {id : String} {apos pos : Pos} {Q : Value → Shared → Prop} (slot : Slot "str" name id) (hty : typeOf (.builtin id) = pure (.type "method_descriptor"))
    (hbase : attributeBase o name env (eval o env) = eval o env) (hline : (apos.endLine == pos.line) = true)
    (he1 : starEach [e1] env = [(false, eval e1 env)])
    (h : wpAny (model prog w) A (eval o env) (fun ov s₁ => ∃ x t, ov = .str x t ∧ wpAny (model prog w) A (eval e1 env) (fun v1 s₂ => wpAny (model prog w) A (call (.builtin id) [.str x t, v1]) Q E s₂) E s₁) E s) :
    wpAny (model prog w) A (eval (.Call (.Attribute o name apos) [e1] [] pos) env) Q E s := by
  refine wpAny_Call_method (T := "str") (id := id) hbase ?_ hline PySem.F.plainAttrs_str slot hty (wpAny_mono h (fun ov s₁ h₁ => ?_) fun _ _ x => x)
  · rw [he1]; rfl
  obtain ⟨x, t, rfl, h₁⟩ := h₁
  refine ⟨typeIs_str _ _ _, fun a e => (by cases e), ?_⟩
  rw [he1]
  show wpAny _ _ (callWith pos _ _ [(false, eval e1 env)] []) _ _ _
  refine callWith_builtin rfl (evalArgs_plain (spliced_cons (wpAny_mono h₁ (fun v1 s₂ h₂ => spliced_nil ?_) fun _ _ x => x)))
  exact h₂
theorem meth3 {env : Env} {o e1 e2 e3 : Expr} {name : Str} {id : String} {apos pos : Pos} {Q : Value → Shared → Prop} (slot : Slot "str" name id) (hty : typeOf (.builtin id) = pure (.type "method_descriptor"))
    (hbase : attributeBase o name env (eval o env) = eval o env) (hline : (apos.endLine == pos.line) = true)
    (he1 : starEach [e1, e2, e3] env = [(false, eval e1 env), (false, eval e2 env), (false, eval e3 env)])
    (h : wpAny (model prog w) A (eval o env) (fun ov s₁ => ∃ x t, ov = .str x t ∧ wpAny (model prog w) A (eval e1 env) (fun v1 s₂ => wpAny (model prog w) A (eval e2 env) (fun v2 s₃ => wpAny (model prog w) A (eval e3 env) (fun v3 s₄ => wpAny (model prog w) A (call (.builtin id) [.str x t, v1, v2, v3]) Q E s₄) E s₃) E s₂) E s₁) E s) :
    wpAny (model prog w) A (eval (.Call (.Attribute o name apos) [e1, e2, e3] [] pos) env) Q E s := by
  refine wpAny_Call_method (T := "str") (id := id) hbase ?_ hline PySem.F.plainAttrs_str slot hty (wpAny_mono h (fun ov s₁ h₁ => ?_) fun _ _ x => x)
  · rw [he1]; rfl
  obtain ⟨x, t, rfl, h₁⟩ := h₁
  refine ⟨typeIs_str _ _ _, fun a e => (by cases e), ?_⟩
  rw [he1]
  show wpAny _ _ (callWith pos _ _ [(false, eval e1 env), (false, eval e2 env), (false, eval e3 env)] []) _ _ _
  refine callWith_builtin rfl (evalArgs_plain (spliced_cons (wpAny_mono h₁ (fun v1 s₂ h₂ => spliced_cons (wpAny_mono h₂ (fun v2 s₃ h₃ => spliced_cons (wpAny_mono h₃ (fun v3 s₄ h₄ => spliced_nil ?_) fun _ _ x => x)) fun _ _ x => x)) fun _ _ x => x)))
  exact h₄

/-- f(e) of a built-in -/
theorem fun1 {env : Env} {x : Str} {p pos : Pos} {id : String} {e1 : Expr} {Q : Value → Shared → Prop} (he1 : starEach [e1] env = [(false, eval e1 env)])
    (h : wpAny (model prog w) A (eval (.Name x p) env) (fun f s₁ => f = .builtin id ∧ wpAny (model prog w) A (eval e1 env) (fun v s₂ => wpAny (model prog w) A (call (.builtin id) [v]) Q E s₂) E s₁) E s) :
    wpAny (model prog w) A (eval (.Call (.Name x p) [e1] [] pos) env) Q E s := by
  refine wpAny_Call_NameR (wpAny_mono h (fun f s₁ h₁ => ?_) fun _ _ x => x)
  obtain ⟨rfl, h₁⟩ := h₁
  rw [he1]
  show wpAny _ _ (callWith pos _ _ [(false, eval e1 env)] []) _ _ _
  refine callWith_builtin rfl (evalArgs_plain (spliced_cons (wpAny_mono h₁ (fun v1 s₂ h₂ => spliced_nil ?_) fun _ _ x => x)))
  exact h₂

open PySem.Builtin.Str in
theorem split_new {x y p q : Str} {t u : Tok} {Q : Value → Shared → Prop} (hsp : Txt.split x y = [p, q]) (hy : (y.length == 0) = false) (hx : x.length ≤ 100000)
    (h : ∀ ta tb tk, Q (.ref s.heap.objs.size) { s with heap := s.heap.push { cls := .type "list", data := .seq #[.str p ta, .str q tb] }, toks := tk }) :
    wpAny (model prog w) A (call (.builtin "str.split") [.str x t, .str y u]) Q E s := by
  have hsl : sizeLine = 2 ^ 24 := rfl
  unfold Txt.split at hsp
  cases h1 : (decide (x.length < y.length) || decide (strKind x < strKind y)) with
  | true => rw [h1, if_pos rfl] at hsp; cases hsp
  | false =>
    rw [h1, if_neg (by decide)] at hsp
    cases hf : (occurrences x y 0 x.length (x.length + 1)).isEmpty with
    | true => rw [hf, if_pos rfl] at hsp; cases hsp
    | false =>
      rw [hf, if_neg (by decide)] at hsp
      refine call_meets PySem.F.slot_str_split (typeIs_str _ _ _) PySem.F.entry_str_split (PySem.F.args_str_split_2 _ _) (meets_str_split_sep x y t u h1 hy hf (by omega) (by rw [hsp]; show 2 ≤ sizeLine; omega)) ?_
      show wants Q E _ { s with toks := _, heap := s.heap.push { cls := .type "list", data := .seq (strsFrom s.toks (partsBetween x (occurrences x y 0 x.length (x.length + 1)) y.length)).toArray } }
      rw [hsp]
      exact h _ _ _

theorem anyTok {α : Type} {M : Model} {t : Sem α} {Q : α → Shared → Prop} {h : Heap} (H : ∀ tk, wpAny M A t Q E { s with heap := h, toks := tk }) {tk₀ : Nat} : wpAny M A t Q E { s with heap := h, toks := tk₀ } := H tk₀

open PySem.Builtin.Str in
theorem occ_empty (x : Str) (e : Nat) : ∃ r, occurrences x ⟨#[]⟩ 0 e 1 = 0 :: r := by
  have key : (forIn (List.range' 0 (e + 1 - 0)) (#[], 0) (StrLaws.occBody x ⟨#[]⟩ e 1)).run.fst[0]? = some 0 := by
    rw [Nat.sub_zero, List.range'_succ, List.forIn_cons]
    have hb : StrLaws.occBody x ⟨#[]⟩ e 1 0 (#[], 0) = pure (.yield (#[0], 0)) := by
      unfold StrLaws.occBody
      simp [subAt, Str.length]
    rw [hb]
    exact StrLaws.occ_head_keeps x ⟨#[]⟩ e 1 0 _ (#[0], 0) rfl
  rw [StrLaws.occ_eq]
  generalize (forIn (List.range' 0 (e + 1 - 0)) (#[], 0) (StrLaws.occBody x ⟨#[]⟩ e 1)).run.fst = arr at key
  rw [← Array.getElem?_toList] at key
  cases h : arr.toList with
  | nil => rw [h] at key; cases key
  | cons a r => rw [h] at key; cases key; exact ⟨r, rfl⟩

open PySem.Builtin PySem.Builtin.Str in
theorem gives_find4 (x y : Str) (i j : Int) (t u v v' : Tok) : Gives («str.find» ⟨[.str x t, .str y u, .int i v, .int j v'], []⟩) (.int (match occurrences x y (fromIndex x.length i) (min (fromIndex x.length j) x.length) 1 with | k :: _ => (k : Int) | [] => -1)) := by
  show Gives (match occurrences x y (fromIndex x.length i) (min (fromIndex x.length j) x.length) 1 with | k :: _ => retInt k | [] => (do rule "str.find.not-found"; retInt (-1))) _
  cases occurrences x y (fromIndex x.length i) (min (fromIndex x.length j) x.length) 1 with
  | nil => exact .rule (.of_eq rfl)
  | cons k _ => exact .of_eq rfl

theorem find_empty {x : Str} {t u v v' : Tok} {e : Int} {Q : Value → Shared → Prop} (h : ∀ tk tk', Q (.int 0 tk) { s with toks := tk' }) :
    wpAny (model prog w) A (call (.builtin "str.find") [.str x t, .str ⟨#[]⟩ u, .int 0 v, .int e v']) Q E s := by
  refine call_gives PySem.F.slot_str_find (typeIs_str _ _ _) PySem.F.entry_str_find (PySem.F.args_str_find_4 _ _ _ _) (gives_find4 x ⟨#[]⟩ 0 e t u v v') ?_
  obtain ⟨r, hr⟩ := occ_empty x (min (fromIndex x.length e) x.length)
  have e0 : fromIndex x.length 0 = 0 := by unfold fromIndex; simp
  rw [e0, hr]
  exact h _ _

set_option maxHeartbeats 4000000 in
theorem ellipsis_body {W got tl : Str} {t u : Tok} {Q : Flow → Shared → Prop} {h₀ : Heap} {L a : Addr} {cd : Value} {m : Str → Option Value} (G : Gd mg mb h₀) (hh : A.handled = none) (hW : W.length ≤ 100000) (hgl : got.length ≤ 100000)
    (hc : Txt.contains W dots = true) (hsp : Txt.split W dots = [⟨#[]⟩, tl]) (htl : tl.length ≠ 0) (htl' : tl.length ≤ 100000) (F0 : Fr h₀ L s.heap m) (hm1 : m "want" = some (.str W t)) (hm2 : m "got" = some (.str got u))
    (h : ∀ h' tk, Ext h₀ h' → Q (.ret (.bool (Txt.endswith got tl))) { s with heap := h', toks := tk }) : wpAny (model prog w) A (execs (bodyAt 3) (envAt 3 L a cd)) Q (fun _ _ => False) s := by
  have G₁ : Gd mg mb s.heap := G.keeps F0.keep
  obtain ⟨td, hdots⟩ := G₁.dots
  with_unfolding_all refine wpAny_execs_cons (wpAny_If (wpAny_isTrue_Compare1 (glob G₁ hdots (loc F0.ns hm1 (SB.notContains (wpAny_truthy_bool ?_))))))
  rw [hc]
  with_unfolding_all refine wpAny_execs_nil (wpAny_execs_cons (wpAny_Assign_Name (meth1 PySem.F.slot_str_split PySem.F.type_str_split rfl rfl rfl (loc F0.ns hm1 ⟨W, _, rfl, glob G₁ hdots (split_new hsp rfl hW fun ta tb tk => ?_)⟩))))
  -- the new list
  generalize hD : s.heap.objs.size = D
  have hDL : D ≠ L := by rw [← hD]; exact Nat.ne_of_gt F0.ns.lt
  have F1 := F0.push { cls := .type "list", data := .seq #[.str ⟨#[]⟩ ta, .str tl tb] }
  have N1 : News h₀ L (s.heap.push { cls := .type "list", data := .seq #[.str ⟨#[]⟩ ta, .str tl tb] }) [(D, { cls := .type "list", data := .seq #[.str ⟨#[]⟩ ta, .str tl tb] })] := hD ▸ News.push F0 News.nil _
  with_unfolding_all refine stN F1 N1 fun h2 F2 N2 => ?_
  clear F1 N1
  refine anyTok (s := s) (h := h2) fun tk => ?_
  have G2 : Gd mg mb h2 := G.keeps F2.keep
  have L2 : h2.IsList D #[.str ⟨#[]⟩ ta, .str tl tb] := ⟨_, (N2 _ (.head _)).1, rfl, _, rfl⟩
  -- assert len(ws) >= 2
  with_unfolding_all refine wpAny_execs_cons (wpAny_Assert_holds (wpAny_isTrue_Compare1 (fun1 rfl (blt G2 (by simp) rfl ⟨rfl, loc F2.ns rfl (call_len_list L2 (show (2 : Int) < 2 ^ 63 by decide) (wpAny_Constant_int (P.ge_int (wpAny_truthy_bool ⟨rfl, ?_⟩))))⟩))))
  refine anyTok (s := s) (h := h2) fun tk => ?_
  -- startpos, endpos = (0, len(got))
  with_unfolding_all refine wpAny_execs_cons (Assign_Tuple_swapped (names := ["startpos", "endpos"]) (Tuple_ (args_cons (wpAny_Constant_int (args_cons (fun1 rfl (blt G2 (by simp) rfl ⟨rfl, loc F2.ns hm2 (P.len_str ?_ (args_nil (newTuple_N F2 N2 fun h3 F3 N3 => ?_)))⟩)))))) rfl rfl)
  · omega
  refine wpAny_unpackItems_tuple (items := #[_, _]) hh ⟨_, (N3 _ (.head _)).1, rfl, _, rfl⟩ fun h4 e4 => ?_
  have F4 := F3.extBut e4 (Nat.le_refl _)
  have N4 : News h₀ L h4 [(D, { cls := .type "list", data := .seq #[.str ⟨#[]⟩ ta, .str tl tb] })] := fun p hp => (N3.extBut e4 (Nat.le_refl _)) p (.tail _ hp)
  clear F3 N3 e4
  refine anyTok (s := s) (h := h4) fun tk => ?_
  refine wpAny_assignInOrder_more (wpAny_bindName (stN F4 N4 fun h5 F5 N5 => wpAny_assignInOrder_more (wpAny_bindName (stN F5 N5 fun h6 F6 N6 => wpAny_assignInOrder_none ?_))))
  refine anyTok (s := s) (h := h6) fun tk => ?_
  have L6 : h6.IsList D #[.str ⟨#[]⟩ ta, .str tl tb] := ⟨_, (N6 _ (.head _)).1, rfl, _, rfl⟩
  clear F4 N4 F5 N5 L2 G2 F2 N2
  -- w = ws[0]
  with_unfolding_all refine wpAny_execs_cons (wpAny_Assign_Name (Subscript_ (loc F6.ns rfl (wpAny_Constant_int (item_list (x := .str ⟨#[]⟩ ta) L6 (by decide) (by decide) rfl (stN F6 N6 fun h7 F7 N7 => ?_))))))
  refine anyTok (s := s) (h := h7) fun tk => ?_
  -- if w:
  with_unfolding_all refine wpAny_execs_cons (wpAny_If (wpAny_isTrue_value (loc F7.ns rfl (P.truthy_str (by decide) (wpAny_execs_nil ?_)))))
  refine anyTok (s := s) (h := h7) fun tk => ?_
  have L7 : h7.IsList D #[.str ⟨#[]⟩ ta, .str tl tb] := ⟨_, (N7 _ (.head _)).1, rfl, _, rfl⟩
  -- w = ws[-1]
  with_unfolding_all refine wpAny_execs_cons (wpAny_Assign_Name (Subscript_ (loc F7.ns rfl (wpAny_UnaryOp (wpAny_Constant_int (P.neg_int (subscriptTail_builtin L7.typeIs slot_list_getitem.lookup (wpAny_getItem_list_neg (x := .str tl tb) L7 (by decide) (show -(2 : Int) ≤ -1 by decide) (by decide) rfl (stN F7 N7 fun h8 F8 N8 => ?_)))))))))
  refine anyTok (s := s) (h := h8) fun tk => ?_
  clear F6 N6 F7 N7 L6 L7
  have htw : ((tl.length : Int) != 0) = true := by rw [bne_iff_ne]; omega
  -- if w: if got.endswith(w)
  with_unfolding_all refine wpAny_execs_cons (wpAny_If (wpAny_isTrue_value (loc F8.ns rfl (P.truthy_str ?_ ?_))))
  · omega
  rw [htw, if_pos rfl]
  with_unfolding_all refine wpAny_execs_cons (wpAny_If (wpAny_isTrue_value (meth1 PySem.F.slot_str_endswith PySem.F.type_str_endswith rfl rfl rfl (loc F8.ns hm2 ⟨got, _, rfl, loc F8.ns rfl (SC.endswith (wpAny_truthy_bool ?_))⟩))))
  cases hen : Txt.endswith got tl with
  | false =>
    rw [if_neg (by decide)]
    with_unfolding_all refine wpAny_execs_cons (wpAny_Return_some (wpAny_Constant_bool ?_))
    rw [hen] at h
    exact h _ _ F8.keep
  | true =>
    rw [if_pos rfl]
    refine anyTok (s := s) (h := h8) fun tk => ?_
    have hle : tl.length ≤ got.length := by
      unfold Txt.endswith at hen
      have := (Bool.and_eq_true_iff.mp hen).1
      have := of_decide_eq_true this
      omega
    have G8 : Gd mg mb h8 := G.keeps F8.keep
    -- endpos -= len(w)
    with_unfolding_all refine wpAny_execs_cons (wpAny_AugAssign_Name (wpAny_loadName_local rfl rfl F8.ns rfl (fun1 rfl (blt G8 (by simp) rfl ⟨rfl, loc F8.ns rfl (P.len_str ?_ (P.isub_int (stN F8 N8 fun h9 F9 N9 => ?_)))⟩))))
    · omega
    refine anyTok (s := s) (h := h9) fun tk => ?_
    -- del ws[-1]
    with_unfolding_all refine wpAny_execs_cons (wpAny_Delete (wpAny_deleteEach_cons (wpAny_delete_Subscript (loc F9.ns rfl (wpAny_UnaryOp (wpAny_Constant_int (P.neg_int (wpAny_delItem_plain (k := 1) (items := #[.str ⟨#[]⟩ ta, .str tl tb]) ⟨_, (N9 _ (.head _)).1⟩ rfl rfl (fun h10 hp10 hs10 => wpAny_deleteEach_nil (wpAny_execs_nil ?_)) ?_))))))))
    rotate_left
    · show 2 ≤ sizeLine
      decide
    replace hs10 : Heap.SameBut D h9 h10 := hs10
    have hLD : L < D := hD ▸ F0.ns.lt
    have F10 := Fr.sameNew F9 hLD hs10
    have L10 : h10.IsList D #[.str ⟨#[]⟩ ta] := by
      have := hp10.isList
      rwa [show (#[Value.str ⟨#[]⟩ ta, .str tl tb] : Array Value).eraseIdxIfInBounds 1 = #[.str ⟨#[]⟩ ta] from by with_unfolding_all rfl] at this
    clear F8 N8 F9 N9 hs10 hp10
    refine anyTok (s := s) (h := h10) fun tk => ?_
    refine wpAny_execs_nil ?_
    -- if startpos > endpos
    with_unfolding_all refine wpAny_execs_cons (wpAny_If (wpAny_isTrue_Compare1 (loc F10.ns rfl (loc F10.ns rfl (P.gt_int (wpAny_truthy_bool ?_))))))
    rw [decide_eq_false (by omega), if_neg (by decide)]
    refine wpAny_execs_nil ?_
    -- for w in ws
    refine wpAny_execs_cons ?_
    with_unfolding_all refine for_gen (s := { s with heap := h10, toks := _ }) (env := envAt 3 L a cd) (A := A) (loc F10.ns rfl (over_list (s := { s with heap := h10, toks := _ }) (fun _ s' => ∃ h tk m', s' = { s with heap := h, toks := tk } ∧ Fr h₀ L h m' ∧ m' "got" = some (.str got u) ∧ (∃ t1, m' "startpos" = some (.int 0 t1)) ∧ ∃ t2, m' "endpos" = some (.int (got.length - tl.length) t2)) hh L10 ?_ ?_ ?_)) (fun _ => rfl)
    · intro o
      exact ⟨_, _, _, rfl, F10.push o, hm2, ⟨_, rfl⟩, ⟨_, rfl⟩⟩
    · rintro i v s0 s1 hv - hl1 ⟨oI, hoI⟩ ⟨hx, tkx, m1, rfl, Fx, k1, ⟨t1, k2⟩, ⟨t2, k3⟩⟩ ⟨hy, tky, rfl, hk⟩
      have hLI : L < h10.objs.size := F10.ns.lt
      have Fy := Fr_off Fx hk hLI
      obtain rfl : v = .str ⟨#[]⟩ ta := by
        cases i with
        | zero => simpa using hv.symm
        | succ i => simp at hv
      obtain ⟨oD, hoD, _⟩ := id hl1
      have Ny : News h₀ L hy [(h10.objs.size, oI), (D, oD)] := mkNews Fy fun p hp => by
        rcases List.mem_cons.mp hp with rfl | hp
        · exact ⟨hoI, hLI⟩
        · rw [List.mem_singleton.mp hp]; exact ⟨hoD, hLD⟩
      with_unfolding_all refine stN Fy Ny fun h11 F11 N11 => ?_
      refine anyTok (s := s) (h := h11) fun tk => ?_
      with_unfolding_all refine wpAny_execs_cons (wpAny_Assign_Name (meth3 PySem.F.slot_str_find PySem.F.type_str_find rfl rfl rfl (loc F11.ns k1 ⟨got, _, rfl, loc F11.ns rfl (loc F11.ns k2 (loc F11.ns k3 (find_empty fun ta' tk' => stN F11 N11 fun h12 F12 N12 => ?_)))⟩)))
      refine anyTok (s := s) (h := h12) fun tk => ?_
      with_unfolding_all refine wpAny_execs_cons (wpAny_If (wpAny_isTrue_Compare1 (loc F12.ns rfl (wpAny_Constant_int (P.lt_int (wpAny_truthy_bool (wpAny_execs_nil ?_)))))))
      refine anyTok (s := s) (h := h12) fun tk => ?_
      have G12 : Gd mg mb h12 := G.keeps F12.keep
      with_unfolding_all refine wpAny_execs_cons (wpAny_AugAssign_Name (wpAny_loadName_local rfl rfl F12.ns rfl (fun1 rfl (blt G12 (by simp) rfl ⟨rfl, loc F12.ns rfl (P.len_str (by decide) (P.iadd_int (stN F12 N12 fun h13 F13 N13 => wpAny_execs_nil ⟨⟨h13, _, _, rfl, F13, ?_, ⟨_, rfl⟩, ?_⟩, ?_⟩)))⟩))))
      · exact k1
      · exact ⟨t2, k3⟩
      · rintro b (rfl | rfl) o ho
        · rw [hoI] at ho; cases ho; exact (N13 _ (.head _)).1
        · rw [hoD] at ho; cases ho; exact (N13 _ (.tail _ (.head _))).1
    · rintro s0 s1 - ⟨hx, tkx, m1, rfl, Fx, k1, ⟨t1, k2⟩, ⟨t2, k3⟩⟩ ⟨hy, tky, rfl, hk⟩
      have Fy := Fr_off Fx hk F10.ns.lt
      with_unfolding_all refine wpAny_execs_cons (wpAny_Return_some (wpAny_Constant_bool ?_))
      rw [hen] at h
      exact h hy _ Fy.keep

theorem ellipsis_K {W got tl : Str} {t u : Tok} {Q : Value → Shared → Prop} (G : Gd mg mb s.heap) (hh : A.handled = none) (hd : A.depth < recursionLimit) (hW : W.length ≤ 100000) (hgl : got.length ≤ 100000) {a : Addr} (ha : mg "_ellipsis_match" = some (.ref a))
    (hc : Txt.contains W dots = true) (hsp : Txt.split W dots = [⟨#[]⟩, tl]) (htl : tl.length ≠ 0) (htl' : tl.length ≤ 100000)
    (h : ∀ h' tk, Ext s.heap h' → Q (.bool (Txt.endswith got tl)) { s with heap := h', toks := tk }) : wpAny (model prog w) A (call (.ref a) [.str W t, .str got u]) Q E s := by
  obtain ⟨a', o, pm, cd, doc, h1, h2, h3, h4⟩ := G.fn 3 (by simp)
  obtain rfl : a' = a := by
    have : mg (nameAt 3) = some (.ref a) := ha
    rw [h1] at this; injection this with e; injection e
  refine wpAny_call (call_pos_ret hd h2 h3 G.lim h4 rfl (locs rfl) (fun h₁ Fm => ?_) rfl rfl rfl (by decide))
  exact ellipsis_body (s := { s with heap := h₁, toks := _ }) G hh hW hgl hc hsp htl htl' Fm rfl rfl fun h' tk k => h h' tk k
end
end Mine

/-! part Z1 -/
namespace Mine
open PySem PySem.Calls PyProof.Rows
set_option maxRecDepth 100000
section
variable {prog : Program} {w : World} {A : Around} {E : Value → Shared → Prop} {s : Shared}

theorem nextOf_tup {it t : Addr} {i : Nat} {items : Array Value} {x : Value} {Q : Value → Shared → Prop} (hit : s.heap.IsTupleIter it t i) (ht : s.heap.IsTuple t items) (hx : items[i]? = some x)
    (hQ : ∀ h', h'.IsTupleIter it t (i + 1) → Heap.SameBut it s.heap h' → Q x { s with heap := h' }) : wpAny (model prog w) A (Builtin.SmallTypes.nextOf (.ref it)) Q E s := by
  obtain ⟨o, ho, hc, hd⟩ := id hit
  obtain ⟨ol, hol, _, nl, hdl⟩ := ht
  unfold Builtin.SmallTypes.nextOf
  refine wpAny_bind (wpAny_callSpecial?_slot (name := Str.ofString "__next__") hit.typeIs F.slot_tuple_iterator_next
    (wpAny_call_entry F.slot_tuple_iterator_next hit.typeIs F.entry_tuple_iterator_next ?_ (F.args_tuple_iterator_next_1 _)))
  show wpAny _ _ (field (.ref it) 0 >>= _) _ _ s
  refine wpAny_bind (wpAny_field ho hd (x := .ref t) rfl ?_)
  show wpAny _ _ (if (Value.ref t == Value.none) = true then _ else _) _ _ s
  rw [if_neg (show ¬ ((Value.ref t == Value.none) = true) from Bool.false_ne_true)]
  show wpAny _ _ (field (.ref it) 1 >>= _) _ _ s
  refine wpAny_bind (wpAny_field ho hd (x := .int i 0) rfl ?_)
  show wpAny _ _ (seqItems? (.ref t) >>= _) _ _ s
  refine wpAny_bind (wpAny_seqItems hol hdl ?_)
  simp only [Int.toNat_natCast, hx]
  refine wpAny_bind (wpAny_setField ho hd (by simp) (wpAny_pure ⟨x, rfl, wpAny_pure (hQ _ ?_ (Heap.SameBut.update ..))⟩))
  refine ⟨_, Heap.get?_update_self _ ho (Obj.isFreed_of_fields (Obj.data_mapFields hd _)), (Obj.cls_mapFields ..).trans hc, ?_⟩
  rw [Obj.data_mapFields hd]; simp [rawInt]

theorem nextOf_tup_end {it t : Addr} {i : Nat} {items : Array Value} {Q : Value → Shared → Prop} (hh : A.handled = none) (hit : s.heap.IsTupleIter it t i) (ht : s.heap.IsTuple t items) (hx : items[i]? = none)
    (hE : ∀ h' e, Heap.ExtBut it s.heap h' → (∃ o, h'.get? e = some o ∧ o.cls = .type "StopIteration") → E (.ref e) { s with heap := h' }) : wpAny (model prog w) A (Builtin.SmallTypes.nextOf (.ref it)) Q E s := by
  obtain ⟨o, ho, hc, hd⟩ := id hit
  obtain ⟨ol, hol, _, nl, hdl⟩ := ht
  unfold Builtin.SmallTypes.nextOf
  refine wpAny_bind (wpAny_callSpecial?_slot (name := Str.ofString "__next__") hit.typeIs F.slot_tuple_iterator_next
    (wpAny_call_entry F.slot_tuple_iterator_next hit.typeIs F.entry_tuple_iterator_next ?_ (F.args_tuple_iterator_next_1 _)))
  show wpAny _ _ (field (.ref it) 0 >>= _) _ _ s
  refine wpAny_bind (wpAny_field ho hd (x := .ref t) rfl ?_)
  show wpAny _ _ (if (Value.ref t == Value.none) = true then _ else _) _ _ s
  rw [if_neg (show ¬ ((Value.ref t == Value.none) = true) from Bool.false_ne_true)]
  show wpAny _ _ (field (.ref it) 1 >>= _) _ _ s
  refine wpAny_bind (wpAny_field ho hd (x := .int i 0) rfl ?_)
  show wpAny _ _ (seqItems? (.ref t) >>= _) _ _ s
  refine wpAny_bind (wpAny_seqItems hol hdl ?_)
  simp only [Int.toNat_natCast, hx]
  refine wpAny_bind (wpAny_rule (wpAny_bind (wpAny_setField ho hd (by simp) ?_)))
  show wpAny _ _ (newExc (.type "StopIteration") [] >>= _) _ _ _
  refine wpAny_bind ?_
  simp only [newExc, newTuple]
  refine wpAny_bind (wpAny_newObj_type ?_ (by size_fits))
  refine wpAny_bind (m := firstArgMember _ _) (wpAny_of_eq (a := Value.none) (by first | rfl | (simp only [firstArgMember]; rfl)) ?_)
  refine wpAny_newObj_type ?_ (by size_fits)
  simp only [raiseNew]
  refine wpAny_bind (wpAny_handled ?_)
  rw [show A.in1.handled = none from hh]
  refine wpAny_bind (wpAny_pure (wpAny_throw ?_))
  exact hE _ _ (((Heap.SameBut.update ..).extBut.push _).push _) ⟨_, Heap.get?_push_size _ rfl, rfl⟩

theorem drawsTuple (hh : A.handled = none) (it t : Addr) (hne : t ≠ it) (items : Array Value) : Draws prog w A it [it, t] items.size (fun i v => items[i]? = some v) (fun i h => h.IsTupleIter it t i ∧ h.IsTuple t items) where
  live := fun _ _ st => let ⟨o, ho, _⟩ := st.1; ⟨o, ho⟩
  frame := fun _ _ _ st hk => ⟨st.1.at fun o e => hk it (by simp) o e, st.2.at fun o e => hk t (by simp) o e⟩
  item := fun i s Q E hi st hQ => nextOf_tup st.1 st.2 (x := items[i]) (by simp [hi]) fun h' hit' hs' => hQ _ h' s.toks (by simp [hi]) ⟨hit', st.2.extBut hs'.extBut hne⟩ hs'
  done := fun s Q E st hE => nextOf_tup_end hh st.1 st.2 (by simp) hE

/-- the parts of a zip of two iterators lie apart -/
structure Apart (z TI TO i1 i2 : Addr) (f1 f2 : List Addr) : Prop where
  TIz : TI ≠ z
  TITO : TI ≠ TO
  TI1 : TI ≠ i1
  TI2 : TI ≠ i2
  TOz : TO ≠ z
  z1 : z ∉ f1
  z2 : z ∉ f2
  TO1 : TO ∉ f1
  TO2 : TO ∉ f2
  one : i1 ∈ f1
  two : i2 ∈ f2
  x12 : i1 ∉ f2
  x21 : i2 ∉ f1

variable {z TI TO i1 i2 : Addr} {f1 f2 : List Addr} {n1 n2 : Nat} {P1 P2 : Nat → Value → Prop} {S1 S2 : Nat → Heap → Prop}

theorem zip_item (D : Apart z TI TO i1 i2 f1 f2) (D1 : Draws prog w A.in1 i1 f1 n1 P1 S1) (D2 : Draws prog w A.in1 i2 f2 n2 P2 S2) {a b : Value} {k : Nat} {Q : Option Value → Shared → Prop}
    (hz : IsZip s.heap z TI TO .none) (hTI : IsPair s.heap TI (.ref i1) (.ref i2)) (hTO : IsPair s.heap TO a b) (h1 : S1 k s.heap) (h2 : S2 k s.heap) (hk1 : k < n1) (hk2 : k < n2)
    (hQ : ∀ h' x y tk, P1 k x → P2 k y → IsZip h' z TI TO (rawInt s.heap.objs.size) → IsPair h' TO x y → S1 (k + 1) h' → S2 (k + 1) h' → IsPair h' s.heap.objs.size x y →
      (∀ c o, c ≠ z → c ≠ TO → c ≠ i1 → c ≠ i2 → s.heap.get? c = some o → h'.get? c = some o) → Q (some (.ref s.heap.objs.size)) { s with heap := h', toks := tk }) :
    wpAny (model prog w) A (pyNext (.ref z)) Q E s := by
  have n1z : ∀ c ∈ f1, c ≠ z := fun c hc e => D.z1 (e ▸ hc)
  have n2z : ∀ c ∈ f2, c ≠ z := fun c hc e => D.z2 (e ▸ hc)
  have n1T : ∀ c ∈ f1, c ≠ TO := fun c hc e => D.TO1 (e ▸ hc)
  have n2T : ∀ c ∈ f2, c ≠ TO := fun c hc e => D.TO2 (e ▸ hc)
  have hT : s.TypeIs (.ref z) "zip" := ⟨_, hz, rfl⟩
  unfold pyNext
  refine wpAny_bind (wpAny_attempt (wpAny_callSpecial?_slot (name := Str.ofString "__next__") hT F.slot_zip_next (wpAny_call_entry F.slot_zip_next hT F.entry_zip_next ?_ (F.args_zip_next_1 _))))
  show wpAny _ _ (field (.ref z) 2 >>= _) _ _ _
  refine wpAny_bind (wpAny_field hz rfl (x := .bool false) rfl ?_)
  show wpAny _ _ (field (.ref z) 3 >>= _) _ _ _
  refine wpAny_bind (wpAny_field hz rfl (x := .ref TI) rfl ?_)
  refine wpAny_bind (wpAny_seqItems hTI rfl ?_)
  show wpAny _ _ (Builtin.SmallTypes.ownedTupleIsFree (.ref z) >>= _) _ _ _
  refine wpAny_bind ?_
  unfold Builtin.SmallTypes.ownedTupleIsFree
  refine wpAny_bind (wpAny_field hz rfl (x := .none) rfl (wpAny_pure ?_))
  simp only [if_true]
  refine wpAny_bind (wpAny_rule ?_)
  refine wpAny_bind (wpAny_field hz rfl (x := .ref TO) rfl ?_)
  refine wpAny_bind (wpAny_setField_rec hz (by simp) fun h₁ hz₁ hs₁ => ?_)
  replace hz₁ : IsZip h₁ z TI TO .ellipsis := hz₁
  replace hs₁ : Heap.SameBut z s.heap h₁ := hs₁
  refine wpAny_bind ?_
  simp only [List.zipIdx_cons, List.zipIdx_nil, List.forIn_cons, List.forIn_nil]
  -- the first
  refine wpAny_bind (wpAny_bind (wpAny_onRaise ?_))
  show wpAny _ _ (Builtin.SmallTypes.nextOf (.ref i1) >>= _) _ _ _
  refine wpAny_bind (D1.item k _ _ _ hk1 (D1.frame _ _ _ h1 fun c hc o e => hs₁.extBut c o (n1z c hc) e) fun x h₂ tk₂ hx h1₂ hs₂ => wpAny_pure ?_)
  replace hs₂ : Heap.SameBut i1 h₁ h₂ := hs₂
  have hTO₂ : IsPair h₂ TO a b := hs₂.extBut _ _ (n1T _ D.one).symm (hs₁.extBut _ _ D.TOz hTO)
  refine wpAny_bind (wpAny_seqItems hTO₂ rfl ?_)
  refine wpAny_bind (wpAny_updateSeq_pair hTO₂ fun h₃ hTO₃ hs₃ => ?_)
  replace hTO₃ : IsPair h₃ TO x b := hTO₃
  replace hs₃ : Heap.SameBut TO h₂ h₃ := hs₃
  refine wpAny_bind (wpAny_letGo (wpAny_pure ?_))
  -- the second
  refine wpAny_bind (wpAny_bind (wpAny_onRaise ?_))
  show wpAny _ _ (Builtin.SmallTypes.nextOf (.ref i2) >>= _) _ _ _
  have n21 : ∀ c ∈ f2, c ≠ i1 := fun c hc e => D.x12 (e ▸ hc)
  refine wpAny_bind (D2.item k _ _ _ hk2 (D2.frame _ _ _ h2 fun c hc o e => hs₃.extBut c o (n2T c hc) (hs₂.extBut c o (n21 c hc) (hs₁.extBut c o (n2z c hc) e))) fun y h₄ tk₄ hy h2₄ hs₄ => wpAny_pure ?_)
  replace hs₄ : Heap.SameBut i2 h₃ h₄ := hs₄
  have hTO₄ : IsPair h₄ TO x b := hs₄.extBut _ _ (n2T _ D.two).symm hTO₃
  refine wpAny_bind (wpAny_seqItems hTO₄ rfl ?_)
  refine wpAny_bind (wpAny_updateSeq_pair hTO₄ fun h₅ hTO₅ hs₅ => ?_)
  replace hTO₅ : IsPair h₅ TO x y := hTO₅
  replace hs₅ : Heap.SameBut TO h₄ h₅ := hs₅
  refine wpAny_bind (wpAny_letGo (wpAny_pure (wpAny_pure ?_)))
  refine wpAny_bind (wpAny_seqItems hTO₅ rfl ?_)
  refine wpAny_bind (wpAny_newTuple ?_)
  have hsz : h₅.objs.size = s.heap.objs.size := by rw [hs₅.1, hs₄.1, hs₃.1, hs₂.1, hs₁.1]
  have hz₅ : IsZip h₅ z TI TO .ellipsis := hs₅.extBut _ _ D.TOz.symm (hs₄.extBut _ _ (n2z _ D.two).symm (hs₃.extBut _ _ D.TOz.symm (hs₂.extBut _ _ (n1z _ D.one).symm hz₁)))
  have hk₅ : ∀ c o, c ≠ z → c ≠ TO → c ≠ i1 → c ≠ i2 → s.heap.get? c = some o → h₅.get? c = some o := fun c o c1 c2 c3 c4 e =>
    hs₅.extBut _ _ c2 (hs₄.extBut _ _ c4 (hs₃.extBut _ _ c2 (hs₂.extBut _ _ c3 (hs₁.extBut _ _ c1 e))))
  have n12 : ∀ c ∈ f1, c ≠ i2 := fun c hc e => D.x21 (e ▸ hc)
  have h1₅ : S1 (k + 1) h₅ := D1.frame _ _ _ h1₂ fun c hc o e => hs₅.extBut _ _ (n1T c hc) (hs₄.extBut _ _ (n12 c hc) (hs₃.extBut _ _ (n1T c hc) e))
  have h2₅ : S2 (k + 1) h₅ := D2.frame _ _ _ h2₄ fun c hc o e => hs₅.extBut _ _ (n2T c hc) e
  have hzlt : z < h₅.objs.size := Heap.lt_size hz₅
  show wpAny _ _ (Builtin.SmallTypes.ownedTupleHandOut (.ref z) (.ref h₅.objs.size) >>= _) _ _ _
  refine wpAny_bind ?_
  unfold Builtin.SmallTypes.ownedTupleHandOut
  have hz₆ : IsZip (h₅.push { cls := .type "tuple", data := .seq #[x, y] }) z TI TO .ellipsis := Heap.get?_push_of_some _ hz₅
  refine wpAny_bind (wpAny_setField_rec hz₆ (by simp) fun h₇ hz₇ hs₇ => ?_)
  replace hz₇ : IsZip h₇ z TI TO (rawInt h₅.objs.size) := hz₇
  replace hs₇ : Heap.SameBut z (h₅.push { cls := .type "tuple", data := .seq #[x, y] }) h₇ := hs₇
  refine wpAny_setField_rec hz₇ (by simp) fun h₈ hz₈ hs₈ => ?_
  replace hz₈ : IsZip h₈ z TI TO (rawInt h₅.objs.size) := hz₈
  replace hs₈ : Heap.SameBut z h₇ h₈ := hs₈
  have up : ∀ c o, c ≠ z → h₅.get? c = some o → h₈.get? c = some o := fun c o c1 e => hs₈.extBut _ _ c1 (hs₇.extBut _ _ c1 (Heap.get?_push_of_some _ e))
  have hT₈ : IsPair h₈ h₅.objs.size x y := hs₈.extBut _ _ (Nat.ne_of_gt hzlt) (hs₇.extBut _ _ (Nat.ne_of_gt hzlt) (Heap.get?_push_size _ rfl))
  refine wpAny_pure ⟨_, rfl, wpAny_pure ?_⟩
  show Q (some (.ref h₅.objs.size)) _
  rw [hsz] at hz₈ hT₈ ⊢
  exact hQ h₈ x y _ hx hy hz₈ (up _ _ D.TOz hTO₅) (D1.frame _ _ _ h1₅ fun c hc o e => up c o (n1z c hc) e) (D2.frame _ _ _ h2₅ fun c hc o e => up c o (n2z c hc) e) hT₈ fun c o c1 c2 c3 c4 e => up c o c1 (hk₅ c o c1 c2 c3 c4 e)

theorem zip_end (D : Apart z TI TO i1 i2 f1 f2) (D1 : Draws prog w A.in1 i1 f1 n1 P1 S1) {Q : Option Value → Shared → Prop}
    (hz : IsZip s.heap z TI TO .none) (hTI : IsPair s.heap TI (.ref i1) (.ref i2)) (h1 : S1 n1 s.heap)
    (hQ : ∀ h', (∀ c o, c ≠ z → c ≠ TO → c ≠ i1 → c ≠ i2 → s.heap.get? c = some o → h'.get? c = some o) → Q none { s with heap := h' }) : wpAny (model prog w) A (pyNext (.ref z)) Q E s := by
  have n1z : ∀ c ∈ f1, c ≠ z := fun c hc e => D.z1 (e ▸ hc)
  have hT : s.TypeIs (.ref z) "zip" := ⟨_, hz, rfl⟩
  unfold pyNext
  refine wpAny_bind (wpAny_attempt (wpAny_callSpecial?_slot (name := Str.ofString "__next__") hT F.slot_zip_next (wpAny_call_entry F.slot_zip_next hT F.entry_zip_next ?_ (F.args_zip_next_1 _))))
  show wpAny _ _ (field (.ref z) 2 >>= _) _ _ _
  refine wpAny_bind (wpAny_field hz rfl (x := .bool false) rfl ?_)
  show wpAny _ _ (field (.ref z) 3 >>= _) _ _ _
  refine wpAny_bind (wpAny_field hz rfl (x := .ref TI) rfl ?_)
  refine wpAny_bind (wpAny_seqItems hTI rfl ?_)
  show wpAny _ _ (Builtin.SmallTypes.ownedTupleIsFree (.ref z) >>= _) _ _ _
  refine wpAny_bind ?_
  unfold Builtin.SmallTypes.ownedTupleIsFree
  refine wpAny_bind (wpAny_field hz rfl (x := .none) rfl (wpAny_pure ?_))
  simp only [if_true]
  refine wpAny_bind (wpAny_rule ?_)
  refine wpAny_bind (wpAny_field hz rfl (x := .ref TO) rfl ?_)
  refine wpAny_bind (wpAny_setField_rec hz (by simp) fun h₁ hz₁ hs₁ => ?_)
  replace hz₁ : IsZip h₁ z TI TO .ellipsis := hz₁
  replace hs₁ : Heap.SameBut z s.heap h₁ := hs₁
  refine wpAny_bind ?_
  simp only [List.zipIdx_cons, List.zipIdx_nil, List.forIn_cons, List.forIn_nil]
  refine wpAny_bind (wpAny_bind (wpAny_onRaise ?_))
  show wpAny _ _ (Builtin.SmallTypes.nextOf (.ref i1) >>= _) _ _ _
  refine wpAny_bind (D1.done _ _ _ (D1.frame _ _ _ h1 fun c hc o e => hs₁.extBut c o (n1z c hc) e) fun h₂ e hs₂ he => ?_)
  replace hs₂ : Heap.ExtBut i1 h₁ h₂ := hs₂
  obtain ⟨oe, hoe, hce⟩ := he
  have hz₂ : IsZip h₂ z TI TO .ellipsis := hs₂ _ _ (n1z _ D.one).symm hz₁
  have hez : e ≠ z := fun x => by subst x; rw [hz₂] at hoe; cases hoe; simp at hce
  refine wpAny_setField_rec hz₂ (by simp) fun h₃ _ hs₃ => ?_
  replace hs₃ : Heap.SameBut z h₂ h₃ := hs₃
  refine wpAny_bind (wpAny_isInstance (T := "StopIteration") (b := true) ⟨oe, hs₃.extBut _ _ hez hoe, hce⟩ isSubtype_stop ?_)
  exact wpAny_pure (hQ h₃ fun c o c1 _ c3 _ x => hs₃.extBut _ _ c1 (hs₂ _ _ c3 (hs₁.extBut _ _ c1 x)))

theorem zip_walks (hh : A.handled = none) (D : Apart z TI TO i1 i2 f1 f2) (D1 : Draws prog w A.in1 i1 f1 n1 P1 S1) (D2 : Draws prog w A.in1 i2 f2 n1 P2 S2) :
    WalksU prog w A z (z :: TI :: TO :: (f1 ++ f2)) [z, TO, i1, i2] n1 (fun i vals => ∃ x y, P1 i x ∧ P2 i y ∧ vals = #[x, y])
      (fun i h => IsZip h z TI TO .none ∧ IsPair h TI (.ref i1) (.ref i2) ∧ (∃ a b, IsPair h TO a b) ∧ S1 i h ∧ S2 i h)
      (fun i T h => IsZip h z TI TO (rawInt T) ∧ IsPair h TI (.ref i1) (.ref i2) ∧ (∃ a b, IsPair h TO a b) ∧ S1 (i + 1) h ∧ S2 (i + 1) h ∧ T ≠ z ∧ T ≠ TO ∧ T ≠ i1 ∧ T ≠ i2) where
  sub := fun c hc => by
    simp only [List.mem_cons, List.not_mem_nil, or_false] at hc
    rcases hc with rfl | rfl | rfl | rfl
    · simp
    · simp
    · simp [D.one]
    · simp [D.two]
  frame := fun i h h' hst hk => by
    obtain ⟨hz, hTI, ⟨a, b, hTO⟩, h1, h2⟩ := hst
    exact ⟨hk z (by simp) _ hz, hk TI (by simp) _ hTI, ⟨a, b, hk TO (by simp) _ hTO⟩, D1.frame _ _ _ h1 fun c hc o e => hk c (by simp [hc]) o e, D2.frame _ _ _ h2 fun c hc o e => hk c (by simp [hc]) o e⟩
  item := fun i s Q E hi hst hQ => by
    obtain ⟨hz, hTI, ⟨a, b, hTO⟩, h1, h2⟩ := hst
    have lt : ∀ {c o}, s.heap.get? c = some o → s.heap.objs.size ≠ c := fun e => Nat.ne_of_gt (Heap.lt_size e)
    refine zip_item D D1 D2 hz hTI hTO h1 h2 hi hi fun h' x y tk hx hy a1 a2 a3 a4 a5 hk => ?_
    obtain ⟨o1, ho1⟩ := D1.live _ _ h1
    obtain ⟨o2, ho2⟩ := D2.live _ _ h2
    exact hQ s.heap.objs.size #[x, y] h' tk ⟨x, y, hx, hy, rfl⟩ ⟨_, a5, rfl, _, rfl⟩ ⟨a1, hk _ _ D.TIz D.TITO D.TI1 D.TI2 hTI, ⟨_, _, a2⟩, a3, a4, lt hz, lt hTO, lt ho1, lt ho2⟩
      fun c o hc e => hk c o (fun x => hc (by simp [x])) (fun x => hc (by simp [x])) (fun x => hc (by simp [x])) (fun x => hc (by simp [x])) e
  go := fun elts k pos i T s Q E hm hQ => by
    obtain ⟨hz, hTI, ⟨a, b, hTO⟩, h1, h2, _⟩ := hm
    have n1z : ∀ c ∈ f1, c ≠ z := fun c hc e => D.z1 (e ▸ hc)
    have n2z : ∀ c ∈ f2, c ≠ z := fun c hc e => D.z2 (e ▸ hc)
    exact wpAny_letOwnedTupleGo_zip hz fun h' hz' hs' => hQ h' ⟨hz', hs'.extBut _ _ D.TIz hTI, ⟨a, b, hs'.extBut _ _ D.TOz hTO⟩, D1.frame _ _ _ h1 fun c hc o e => hs'.extBut c o (n1z c hc) e, D2.frame _ _ _ h2 fun c hc o e => hs'.extBut c o (n2z c hc) e⟩
      fun c o hc e => hs'.extBut _ _ (fun x => hc (by simp [x])) e
  apart := fun i T h hm hT => by
    obtain ⟨_, _, _, _, _, t1, t2, t3, t4⟩ := hm
    simp at hT
    rcases hT with rfl | rfl | rfl | rfl
    · exact t1 rfl
    · exact t2 rfl
    · exact t3 rfl
    · exact t4 rfl
  done := fun s Q E hst hQ => by
    obtain ⟨hz, hTI, _, h1, _⟩ := hst
    exact zip_end D D1 hz hTI h1 fun h' hk => hQ h' s.toks fun c o hc e => hk c o (fun x => hc (by simp [x])) (fun x => hc (by simp [x])) (fun x => hc (by simp [x])) (fun x => hc (by simp [x])) e
  self := fun i s Q E hst hQ => wpAny_pyIter_zip hst.1 hQ

abbrev zt1 (h : Heap) (t1 : Addr) : Heap := h.push { cls := .type "tuple_iterator", data := .fields #[.ref t1, .int 0 0] }
abbrev zt2 (h : Heap) (t1 t2 : Addr) : Heap := (zt1 h t1).push { cls := .type "tuple_iterator", data := .fields #[.ref t2, .int 0 0] }
abbrev zt3 (h : Heap) (t1 t2 : Addr) : Heap := (zt2 h t1 t2).push { cls := .type "tuple", data := .seq #[.ref h.objs.size, .ref (zt1 h t1).objs.size] }
abbrev zt4 (h : Heap) (t1 t2 : Addr) : Heap := (zt3 h t1 t2).push { cls := .type "tuple", data := .seq #[.none, .none] }
abbrev zt5 (h : Heap) (t1 t2 : Addr) : Heap := (zt4 h t1 t2).push { cls := .type "zip", data := .fields #[.none, .bool false, .bool false, .ref (zt2 h t1 t2).objs.size, .ref (zt3 h t1 t2).objs.size] }

theorem meets_zipT (t1 t2 : Addr) (xs ys : Array Value) :
    Meets (Builtin.«zip.__new__» ⟨[.type "zip", .ref t1, .ref t2], []⟩) (fun _ R s => s.heap.IsTuple t1 xs ∧ s.heap.IsTuple t2 ys ∧
      R (.ok (.ret (.ref (zt4 s.heap t1 t2).objs.size))) { s with heap := zt5 s.heap t1 t2 }) :=
  .of_wp fun prog w A R s h => by
    obtain ⟨hp, g, d, tk, os⟩ := s; obtain ⟨hl1, hl2, h⟩ := h
    have hsub := sub_zip
    have hL1 : Heap.IsTuple (Shared.heap ⟨hp, g, d, tk, os⟩) t1 xs := hl1
    have hL2 : Heap.IsTuple (Shared.heap ⟨hp.push { cls := .type "tuple_iterator", data := .fields #[.ref t1, .int 0 0] }, g, d, tk, os⟩) t2 ys := hl2.at fun o e => Heap.get?_push_of_some _ e
    wp_walk using wpAny_pyIter_tuple hL1, wpAny_pyIter_tuple hL2
    exact ⟨_, rfl, h⟩

theorem call_zipT {t1 t2 : Addr} {xs ys : Array Value} {Q : Value → Shared → Prop} (hl1 : s.heap.IsTuple t1 xs) (hl2 : s.heap.IsTuple t2 ys)
    (h : ∀ h', IsZip h' (s.heap.objs.size + 4) (s.heap.objs.size + 2) (s.heap.objs.size + 3) .none → IsPair h' (s.heap.objs.size + 2) (.ref s.heap.objs.size) (.ref (s.heap.objs.size + 1)) →
      IsPair h' (s.heap.objs.size + 3) .none .none → h'.IsTupleIter s.heap.objs.size t1 0 → h'.IsTupleIter (s.heap.objs.size + 1) t2 0 → h'.objs.size = s.heap.objs.size + 5 →
      (∀ c o, s.heap.get? c = some o → h'.get? c = some o) → Q (.ref (s.heap.objs.size + 4)) { s with heap := h' }) :
    wpAny (model prog w) A (call (.type "zip") [.ref t1, .ref t2]) Q E s := by
  refine callType_new F.called_zip (by decide) (F.typeCall_zip_2 _ _) (F.newCall_zip_2 _ _) (fun obj => F.args_object_init_3 obj _ _) F.entry_zip_new
    (meets_zipT t1 t2 xs ys) ⟨hl1, hl2, ?_⟩
  have z1 : (zt1 s.heap t1).objs.size = s.heap.objs.size + 1 := Heap.size_push ..
  have z2 : (zt2 s.heap t1 t2).objs.size = s.heap.objs.size + 2 := by rw [Heap.size_push, z1]
  have z3 : (zt3 s.heap t1 t2).objs.size = s.heap.objs.size + 3 := by rw [Heap.size_push, z2]
  have z4 : (zt4 s.heap t1 t2).objs.size = s.heap.objs.size + 4 := by rw [Heap.size_push, z3]
  have z5 : (zt5 s.heap t1 t2).objs.size = s.heap.objs.size + 5 := by rw [Heap.size_push, z4]
  have g5 : (zt5 s.heap t1 t2).get? (zt4 s.heap t1 t2).objs.size = some _ := Heap.get?_push_size _ rfl
  have g4 : (zt5 s.heap t1 t2).get? (zt3 s.heap t1 t2).objs.size = some _ := Heap.get?_push_of_some _ (Heap.get?_push_size _ rfl)
  have g3 : (zt5 s.heap t1 t2).get? (zt2 s.heap t1 t2).objs.size = some _ := Heap.get?_push_of_some _ (Heap.get?_push_of_some _ (Heap.get?_push_size _ rfl))
  have g2 : (zt5 s.heap t1 t2).get? (zt1 s.heap t1).objs.size = some _ := Heap.get?_push_of_some _ (Heap.get?_push_of_some _ (Heap.get?_push_of_some _ (Heap.get?_push_size _ rfl)))
  have g1 : (zt5 s.heap t1 t2).get? s.heap.objs.size = some _ := Heap.get?_push_of_some _ (Heap.get?_push_of_some _ (Heap.get?_push_of_some _ (Heap.get?_push_of_some _ (Heap.get?_push_size _ rfl))))
  show _ ∧ _
  rw [z2, z3, z4] at g5
  rw [z1, z2] at g3
  rw [z3] at g4
  rw [z1] at g2
  rw [z4]
  exact ⟨⟨_, g5, rfl⟩, h _ g5 g3 g4 ⟨_, g1, rfl, rfl⟩ ⟨_, g2, rfl, rfl⟩ z5 fun c o x =>
    Heap.get?_push_of_some _ (Heap.get?_push_of_some _ (Heap.get?_push_of_some _ (Heap.get?_push_of_some _ (Heap.get?_push_of_some _ x))))⟩
end
end Mine

/-! part B3 -/
namespace Mine
open PySem PySem.Calls PyProof.Rows
set_option maxRecDepth 100000

section
variable {prog : Program} {w : World} {A : Around} {E : Value → Shared → Prop} {s : Shared} {mg mb : Str → Option Value}
variable {K : Type} [DecidableEq K] {knd : KeyKind prog w K}

/-- for k, v in x.items(): with any invariant -/
theorem for_items {env : Env} {Q : Flow → Shared → Prop} {xk xv : Str} {pk pv pt pos apos cpos : Pos} {x1} {o : Expr} {body : List Stmt} {d : Addr} {kvs : List (K × Value)} {ep : Nat} (Inv : Nat → Shared → Prop)
    (hh : A.handled = none) (hdS : (d == sysModules) = false) (hm : s.heap.DictAt knd d kvs ep)
    (hbase : attributeBase o "items" env (eval o env) = eval o env) (hline : (apos.endLine == cpos.line) = true)
    (ho : ∀ Q', Q' (.ref d) s → wpAny (model prog w) A (eval o env) Q' NR s)
    (start : ∀ o1 o2, Inv 0 { s with heap := (s.heap.push o1).push o2 })
    (turn : ∀ i k v key s₀ s₁, kvs[i]? = some (k, v) → knd.is k key = true → (∀ o, s₀.heap.get? (s.heap.objs.size + 1) = some o → ¬ SeqO o) → Inv i s₀ → Off [s.heap.objs.size + 1] s₀ s₁ → s₁.heap.DictAt knd d kvs ep → (∃ o, s₁.heap.get? (s.heap.objs.size + 1) = some o) →
      wpAny (model prog w) A (storeName env xk key) (fun _ s₂ => wpAny (model prog w) A (storeName env xv v) (fun _ s₂' => wpAny (model prog w) A (execs body env) (fun f s₃ => f = .next ∧
        Inv (i + 1) s₃ ∧ ∀ b, b = s.heap.objs.size + 1 ∨ b = d → ∀ o, s₁.heap.get? b = some o → s₃.heap.get? b = some o) NR s₂') NR s₂) NR s₁)
    (done : ∀ s₀ s₁, (∀ o, s₀.heap.get? (s.heap.objs.size + 1) = some o → ¬ SeqO o) → Inv kvs.length s₀ → Off [s.heap.objs.size + 1] s₀ s₁ → Q .next s₁)
    (hs : ∀ x, foldedSetIterable (.Call (.Attribute o "items" apos) [] [] cpos) env x = pure x := by intro _; rfl) :
    wpAny (model prog w) A (exec (.For (.Tuple [.Name xk pk, .Name xv pv] x1 pt) (.Call (.Attribute o "items" apos) [] [] cpos) body [] pos) env) Q NR s := by
  refine wpAny_For (wpAny_Call_items hdS hm.dictOf hbase hline ho ?_) hs
  refine wpAny_pyIter_items (knd := knd) (d := d) (kvs := kvs) (ep := ep) ⟨_, Heap.get?_push_size _ rfl, rfl, rfl⟩ (hm.push _) ?_
  have hsz : (s.heap.push { cls := .type "dict_items", data := .fields #[.ref d] }).objs.size = s.heap.objs.size + 1 := Heap.size_push ..
  generalize hit : s.heap.objs.size + 1 = it at *
  have hdi : d ≠ it := by rw [← hit]; exact Nat.ne_of_lt (Nat.lt_succ_of_lt hm.lt_size)
  rw [hsz]
  refine codeAny_forLoop_any
    (fun n s' => ∃ i ok ov, IsItemIter s'.heap it d i kvs.length ep ok ov ∧ s'.heap.DictAt knd d kvs ep ∧ Inv i s' ∧ i ≤ kvs.length ∧ n = kvs.length + 1 - i) ?_ (kvs.length + 1)
    ⟨0, .none, .none, hsz ▸ Heap.get?_push_size _ rfl, (hm.push _).push _, start _ _, Nat.zero_le _, rfl⟩
  rintro n s' ⟨i, ok, ov, hit', hm', hI, hi, rfl⟩
  have hno : ∀ o, s'.heap.get? it = some o → ¬ SeqO o := fun o ho => by rw [show s'.heap.get? it = some _ from hit'] at ho; cases ho; simp [SeqO]
  cases hv : kvs[i]? with
  | none =>
    have hsz : i = kvs.length := Nat.le_antisymm hi (by simpa using hv)
    refine wpAny_pyNext_items_end hh hit' hm' hv fun h₁ he₁ => wpAny_execs_nil ?_
    exact done s' _ hno (hsz ▸ hI) ⟨h₁, _, rfl, fun b o hb x => he₁ b o (by simpa using hb) x⟩
  | some kv =>
    obtain ⟨k, v⟩ := kv
    have hlt : i < kvs.length := (List.getElem?_eq_some_iff.mp hv).1
    have hiH : it < s'.heap.objs.size := Heap.lt_size hit'
    refine wpAny_pyNext_items_item hit' hm' hv fun key h₁ hkey heo ht₁ hz₁ hk₁ => ?_
    refine wpAny_letOwnedTupleGo_items heo fun h₂ he₂ hs₂ => ?_
    replace hs₂ : Heap.SameBut it h₁ h₂ := hs₂
    have ht₂ : h₂.IsTuple s'.heap.objs.size #[key, v] := ⟨_, (hs₂.2 _ (Nat.ne_of_gt hiH)).trans ht₁, rfl, _, rfl⟩
    refine wpAny_assign_Tuple hh ht₂ rfl rfl fun h₃ hx₃ => ?_
    replace hx₃ : Heap.ExtBut h₂.objs.size h₂ h₃ := hx₃
    have old₃ : ∀ b o, h₂.get? b = some o → h₃.get? b = some o := fun b o x => hx₃ b o (Nat.ne_of_lt (Heap.lt_size x)) x
    have hoff : Off [it] s' { s' with heap := h₃ } := ⟨h₃, s'.toks, rfl, fun b o hb x => old₃ b o (hs₂.extBut b o (by simpa using hb) (hk₁ b o (by simpa using hb) x))⟩
    have hm₃ : h₃.DictAt knd d kvs ep := hm'.at fun o x => old₃ d o (hs₂.extBut d o hdi (hk₁ d o hdi x))
    have hit₃ : IsItemIter h₃ it d (i + 1) kvs.length ep key v := old₃ it _ he₂
    show wpAny _ _ (do holding [v] (assign (.Name xk pk) env key); do holding [] (assign (.Name xv pv) env v); pure ()) _ _ _
    have T := turn i k v key s' { s' with heap := h₃ } hv hkey hno hI hoff hm₃ ⟨_, hit₃⟩
    refine wpAny_bind (wpAny_holding (wpAny_assign_Name (wpAny_noRaise (wpAny_mono T (fun _ s₂ T => ?_) fun _ _ x => x))))
    refine wpAny_bind (wpAny_holding (wpAny_assign_Name (wpAny_noRaise (wpAny_mono T (fun _ s₂ T => wpAny_pure ?_) fun _ _ x => x))))
    refine wpAny_noRaise (wpAny_mono T (fun f s₃ h₃ => ?_) fun _ _ x => x)
    obtain ⟨rfl, hI₃, hk₃⟩ := h₃
    exact ⟨kvs.length + 1 - (i + 1), by omega, i + 1, key, v, hk₃ it (.inl rfl) _ hit₃, hm₃.at fun o x => hk₃ d (.inr rfl) o x, hI₃, hlt, rfl⟩

/-- a pair of ints -/
def PV (h : Heap) (v : Value) (p q : Int) : Prop := ∃ T t u, v = .ref T ∧ h.get? T = some { cls := .type "tuple", data := .seq #[.int p t, .int q u] }
inductive Rel (h : Heap) : List (Int × Value) → List (Int × Int × Int) → Prop
  | nil : Rel h [] []
  | cons {k v p q kvs l} : PV h v p q → Rel h kvs l → Rel h ((k, v) :: kvs) ((k, p, q) :: l)
def Book (prog : Program) (w : World) (h : Heap) (d : Addr) (l : List (Int × Int × Int)) : Prop := ∃ kvs, h.DictOf (intKind prog w) d kvs ∧ Rel h kvs l

def put (l : List (Int × Int × Int)) (k : Int) (x : Int × Int) : List (Int × Int × Int) :=
  if l.any (fun y => y.1 = k) then l.map (fun y => if y.1 = k then (y.1, x) else y) else l ++ [(k, x)]
def addTo (l : List (Int × Int × Int)) (y : Int × Int × Int) : List (Int × Int × Int) :=
  match l.find? (fun z => z.1 = y.1) with
  | some z => put l y.1 (y.2.1 + z.2.1, y.2.2 + z.2.2)
  | none => put l y.1 y.2

theorem PV.keeps {h h' : Heap} {v p q} (x : PV h v p q) (k : ∀ b o, SeqO o → h.get? b = some o → h'.get? b = some o) : PV h' v p q := let ⟨T, t, u, e, g⟩ := x; ⟨T, t, u, e, k _ _ trivial g⟩
theorem Rel.keeps {h h' : Heap} {kvs l} (x : Rel h kvs l) (k : ∀ b o, SeqO o → h.get? b = some o → h'.get? b = some o) : Rel h' kvs l := by
  induction x with
  | nil => exact .nil
  | cons a _ ih => exact .cons (a.keeps k) ih
theorem Rel.length {h : Heap} {kvs l} (x : Rel h kvs l) : kvs.length = l.length := by
  induction x with
  | nil => rfl
  | cons _ _ ih => simp [ih]
theorem Rel.get {h : Heap} {kvs l} (x : Rel h kvs l) : ∀ {i : Nat} {k v}, kvs[i]? = some (k, v) → ∃ p q, l[i]? = some (k, p, q) ∧ PV h v p q := by
  induction x with
  | nil => intro i k v e; simp at e
  | cons a _ ih =>
    intro i k v e
    cases i with
    | zero => simp at e; obtain ⟨rfl, rfl⟩ := e; exact ⟨_, _, rfl, a⟩
    | succ i => simpa using ih (by simpa using e)
theorem Rel.any {h : Heap} {kvs l} (x : Rel h kvs l) (k : Int) : kvs.any (fun y => y.1 = k) = l.any (fun y => y.1 = k) := by
  induction x with
  | nil => rfl
  | cons _ _ ih => simp only [List.any_cons, ih]
theorem Rel.valueAt {h : Heap} {kvs l} (x : Rel h kvs l) (k : Int) : (valueAt kvs k = none ∧ l.find? (fun y => y.1 = k) = none) ∨ ∃ v p q, valueAt kvs k = some v ∧ l.find? (fun y => y.1 = k) = some (k, p, q) ∧ PV h v p q := by
  induction x with
  | nil => exact .inl ⟨rfl, rfl⟩
  | @cons k' v p q kvs l a _ ih =>
    by_cases e : k' = k
    · subst e
      exact .inr ⟨v, p, q, by simp [PySem.valueAt], by simp, a⟩
    · simpa [PySem.valueAt, e] using ih
theorem Rel.append {h : Heap} {kvs l kvs' l'} (x : Rel h kvs l) (y : Rel h kvs' l') : Rel h (kvs ++ kvs') (l ++ l') := by
  induction x with
  | nil => exact y
  | cons a _ ih => exact .cons a ih
theorem Rel.stored {h : Heap} {kvs l} (x : Rel h kvs l) {k : Int} {v p q} (hv : PV h v p q) : Rel h (stored kvs k v) (put l k (p, q)) := by
  unfold PySem.stored put
  rw [x.any k]
  split
  · induction x with
    | nil => exact .nil
    | @cons k' v' p' q' kvs l a hx ih =>
      simp only [List.map_cons]
      have tail : Rel h (kvs.map fun kv => if kv.1 = k then (kv.1, v) else kv) (l.map fun y => if y.1 = k then (y.1, p, q) else y) := by
        clear ih
        rename_i hh
        clear hh
        induction hx with
        | nil => exact .nil
        | @cons k' v' p' q' kvs l a hx ih =>
          simp only [List.map_cons]
          by_cases e : k' = k
          · simp only [e, if_true]; exact .cons hv ih
          · simp only [e, if_false]; exact .cons a ih
      by_cases e : k' = k
      · simp only [e, if_true]; exact .cons hv tail
      · simp only [e, if_false]; exact .cons a tail
  · exact x.append (.cons hv .nil)
theorem Book.keeps {h h' : Heap} {D : Addr} {l} (x : Book prog w h D l) (hD : ∀ o, h.get? D = some o → h'.get? D = some o) (k : ∀ b o, SeqO o → h.get? b = some o → h'.get? b = some o) : Book prog w h' D l :=
  let ⟨kvs, d, r⟩ := x; ⟨kvs, d.at hD, r.keeps k⟩
theorem put_length (l k x) : (put l k x).length ≤ l.length + 1 := by
  unfold put; split <;> simp
theorem addTo_length (l y) : (addTo l y).length ≤ l.length + 1 := by
  unfold addTo; split <;> exact put_length ..
end
end Mine

/-! part B4 -/
namespace Mine
open PySem PySem.Calls PyProof.Rows
set_option maxRecDepth 100000

section
variable {prog : Program} {w : World} {A : Around} {E : Value → Shared → Prop} {s : Shared} {mg mb : Str → Option Value}

/-- T(e) of a built-in type -/
theorem typ1 {env : Env} {x : Str} {p pos : Pos} {T : String} {e1 : Expr} {Q : Value → Shared → Prop} (he1 : starEach [e1] env = [(false, eval e1 env)])
    (h : wpAny (model prog w) A (eval (.Name x p) env) (fun f s₁ => f = .type T ∧ wpAny (model prog w) A (eval e1 env) (fun v s₂ => wpAny (model prog w) A (call (.type T) [v]) Q E s₂) E s₁) E s) :
    wpAny (model prog w) A (eval (.Call (.Name x p) [e1] [] pos) env) Q E s := by
  refine wpAny_Call_NameR (wpAny_mono h (fun f s₁ h₁ => ?_) fun _ _ x => x)
  obtain ⟨rfl, h₁⟩ := h₁
  rw [he1]
  show wpAny _ _ (callWith pos _ _ [(false, eval e1 env)] []) _ _ _
  refine PySem.callWith_type rfl (evalArgs_plain (spliced_cons (wpAny_mono h₁ (fun v1 s₂ h₂ => spliced_nil ?_) fun _ _ x => x)))
  exact h₂
theorem typ2 {env : Env} {x : Str} {p pos : Pos} {T : String} {e1 e2 : Expr} {Q : Value → Shared → Prop} (he1 : starEach [e1, e2] env = [(false, eval e1 env), (false, eval e2 env)])
    (h : wpAny (model prog w) A (eval (.Name x p) env) (fun f s₁ => f = .type T ∧ wpAny (model prog w) A (eval e1 env) (fun v s₂ => wpAny (model prog w) A (eval e2 env) (fun v2 s₃ => wpAny (model prog w) A (call (.type T) [v, v2]) Q E s₃) E s₂) E s₁) E s) :
    wpAny (model prog w) A (eval (.Call (.Name x p) [e1, e2] [] pos) env) Q E s := by
  refine wpAny_Call_NameR (wpAny_mono h (fun f s₁ h₁ => ?_) fun _ _ x => x)
  obtain ⟨rfl, h₁⟩ := h₁
  rw [he1]
  show wpAny _ _ (callWith pos _ _ [(false, eval e1 env), (false, eval e2 env)] []) _ _ _
  refine PySem.callWith_type rfl (evalArgs_plain (spliced_cons (wpAny_mono h₁ (fun v1 s₂ h₂ => spliced_cons (wpAny_mono h₂ (fun v2 s₃ h₃ => spliced_nil ?_) fun _ _ x => x)) fun _ _ x => x)))
  exact h₃
theorem fun2 {env : Env} {x : Str} {p pos : Pos} {id : String} {e1 e2 : Expr} {Q : Value → Shared → Prop} (he1 : starEach [e1, e2] env = [(false, eval e1 env), (false, eval e2 env)])
    (h : wpAny (model prog w) A (eval (.Name x p) env) (fun f s₁ => f = .builtin id ∧ wpAny (model prog w) A (eval e1 env) (fun v s₂ => wpAny (model prog w) A (eval e2 env) (fun v2 s₃ => wpAny (model prog w) A (call (.builtin id) [v, v2]) Q E s₃) E s₂) E s₁) E s) :
    wpAny (model prog w) A (eval (.Call (.Name x p) [e1, e2] [] pos) env) Q E s := by
  refine wpAny_Call_NameR (wpAny_mono h (fun f s₁ h₁ => ?_) fun _ _ x => x)
  obtain ⟨rfl, h₁⟩ := h₁
  rw [he1]
  show wpAny _ _ (callWith pos _ _ [(false, eval e1 env), (false, eval e2 env)] []) _ _ _
  refine callWith_builtin rfl (evalArgs_plain (spliced_cons (wpAny_mono h₁ (fun v1 s₂ h₂ => spliced_cons (wpAny_mono h₂ (fun v2 s₃ h₃ => spliced_nil ?_) fun _ _ x => x)) fun _ _ x => x)))
  exact h₃

/-- the code object and its table -/
def Tb (z : Array Value) (c P : Addr) (h : Heap) : Prop := ∃ more, h.IsCode c P (z ++ more) ∧ h.TableAt c P (z ++ more)
theorem Tb.at2 {z : Array Value} {c P : Addr} {h h' : Heap} (x : Tb z c P h) (hc : ∀ o, h.get? c = some o → h'.get? c = some o) (hP : ∀ o, h.get? P = some o → h'.get? P = some o) : Tb z c P h' :=
  let ⟨ps, ⟨o, vs, file, tf, flags, tg, inF, text, tt, op, a, r1, r2, r3, r4, r5, r6, b, r⟩, ⟨o', vs', a', r'⟩, t⟩ := x
  ⟨ps, ⟨o, vs, file, tf, flags, tg, inF, text, tt, op, hc _ a, r1, r2, r3, r4, r5, r6, hP _ b, r⟩, ⟨o', vs', hc _ a', r'⟩, hP _ t⟩
theorem Tb.lt {z : Array Value} {c P : Addr} {h : Heap} (x : Tb z c P h) : (∃ o, h.get? c = some o) ∧ ∃ ps, h.get? P = some { cls := .none, data := .fields ps } :=
  let ⟨ps, ⟨o, _, _, _, _, _, _, _, _, _, a, _⟩, _, t⟩ := x
  ⟨⟨o, a⟩, _, t⟩

theorem genCode {z : Array Value} {c P : Addr} {pos : Pos} {env : Env} {qualname : Str} {scope : Scope} {Q : Value → Shared → Prop} (hc : env.code = .ref c) (T : Tb z c P s.heap)
    (h : ∀ cd h' tk, Heap.ExtBut P s.heap h' → Tb z c P h' → s.heap.objs.size ≤ h'.objs.size → Q cd { s with heap := h', toks := tk }) : wpAny (model prog w) A (genexprCode env pos qualname scope) Q E s := by
  obtain ⟨ps, hok, htab⟩ := T
  cases hf : codeAmong pos (z ++ ps).toList with
  | some c' => exact wpAny_genexprCode_hit hc hok hf (h c' s.heap s.toks (fun _ _ _ e => e) ⟨ps, hok, htab⟩ (Nat.le_refl _))
  | none => exact wpAny_genexprCodeX hc hok htab hf fun c' h' tk hx hge hlt h1 _ h2 _ => h _ h' tk hx ⟨ps ++ _, by rw [← Array.append_assoc]; exact h1, by rw [← Array.append_assoc]; exact h2⟩ (Nat.le_trans hge (Nat.le_of_lt hlt))

theorem notMem2 {z a b : Addr} (h1 : z ≠ a) (h2 : z ≠ b) : z ∉ [a, b] := by simp [h1, h2]
theorem ne_nat {a b : Nat} (h : a < b ∨ b < a) : (a : Addr) ≠ (b : Addr) := fun e => by rcases h with h | h <;> exact absurd (e ▸ h) (Nat.lt_irrefl _)

set_option maxHeartbeats 4000000 in
/-- tuple(i + j for i, j in zip(caller, new_callers[func])) -/
theorem addPair {z : Array Value} {L a c TB D : Addr} {m : Str → Option Value} {kvs : List (Int × Value)} {k p q p' q' : Int} {v v' : Value} {t : Tok} {scope : Scope} {kt : Nat}
    {p1 p2 p3 p4 p5 p6 p7 p8 p9 p10 p11 p12 p13 p14 p15 : Pos} {Q : Value → Shared → Prop}
    (G : Gd mg mb s.heap) (hh : A.handled = none) (hroom : A.depth < recursionLimit) (hn : s.heap.Ns L m) (T : Tb z c TB s.heap) (hB : AllBare s.gens)
    (m1 : m "caller" = some v) (m2 : m "new_callers" = some (.ref D)) (m3 : m "func" = some (.int k t))
    (hv : PV s.heap v p q) (hd : s.heap.DictOf (intKind prog w) D kvs) (hat : valueAt kvs k = some v') (hv' : PV s.heap v' p' q')
    (hco : scope.isCoroutine = false) (hfree : ∀ x ∈ scope.names, x.2 ≠ .free) (hcell : ∀ y ∈ scope.names, y.2 ≠ .cell) (h0 : scope.names.lookup (".0" : Str) = some NameKind.local)
    (hxa : scope.names.lookup ("i" : Str) = some NameKind.local) (hxb : scope.names.lookup ("j" : Str) = some NameKind.local) (hkind : scope.kind = .function)
    (h : ∀ v h' tk gs, PV h' v (p + p') (q + q') → Heap.ExtBut TB s.heap h' → Tb z c TB h' → AllBare gs → Q v { s with heap := h', toks := tk, gens := gs }) :
    wpAny (model prog w) A (eval (.Call (.Name "tuple" p1) [.GeneratorExp (.BinOp (.Name "i" p2) .Add (.Name "j" p3) p4) [⟨.Tuple [.Name "i" p5, .Name "j" p6] kt p7,
      .Call (.Name "zip" p8) [.Name "caller" p9, .Subscript (.Name "new_callers" p10) (.Name "func" p11) p12] [] p13, [], 0⟩] scope p14] [] p15) (envAt 5 L a (.ref c))) Q E s := by
  obtain ⟨T1, t1, u1, rfl, g1⟩ := id hv
  obtain ⟨T2, t2, u2, rfl, g2⟩ := id hv'
  refine typ1 (T := "tuple") rfl (blt G (by simp) rfl ⟨rfl, ?_⟩)
  refine wpAny_GeneratorExp_walksQT hh hco (closureFor_none hfree) hcell h0 hxa hxb (by decide) hkind hroom ?_ (fun x => by with_unfolding_all rfl)
  have I1 : s.heap.IsTuple T1 #[.int p t1, .int q u1] := ⟨_, g1, rfl, _, rfl⟩
  have I2 : s.heap.IsTuple T2 #[.int p' t2, .int q' u2] := ⟨_, g2, rfl, _, rfl⟩
  refine typ2 (T := "zip") rfl (blt G (by simp) rfl ⟨rfl, loc hn m1 (Subscript_ (loc hn m2 (loc hn m3 (subscriptTail_builtin hd.typeIs slot_dict_getitem.lookup (wpAny_getItem_of (knd := intKind prog w) (k := k) (by simp [intKind, Value.isInt]) hd.mapOf hat ?_)))))⟩)
  refine call_zipT (s := { s with toks := _ }) I1 I2 fun h1 z1 z2 z3 z4 z5 hz k1 => ?_
  replace z1 : IsZip h1 (s.heap.objs.size + 4) (s.heap.objs.size + 2) (s.heap.objs.size + 3) .none := z1
  replace z2 : IsPair h1 (s.heap.objs.size + 2) (.ref s.heap.objs.size) (.ref (s.heap.objs.size + 1)) := z2
  replace z3 : IsPair h1 (s.heap.objs.size + 3) .none .none := z3
  replace z4 : h1.IsTupleIter s.heap.objs.size T1 0 := z4
  replace z5 : h1.IsTupleIter (s.heap.objs.size + 1) T2 0 := z5
  replace hz : h1.objs.size = s.heap.objs.size + 5 := hz
  replace k1 : Ext s.heap h1 := k1
  refine wpAny_pyIter_zip z1 ⟨G.lim.keeps k1, genCode rfl (T.at2 (fun o e => k1 _ o e) fun o e => k1 _ o e) fun cd h2 tk2 k2 T2b hz2 => ?_⟩
  replace k2 : Heap.ExtBut TB h1 h2 := k2
  replace hz2 : h1.objs.size ≤ h2.objs.size := hz2
  obtain ⟨⟨oc, hoc⟩, psP, hoP⟩ := T.lt
  have hPs : TB < s.heap.objs.size := Heap.lt_size hoP
  have hTP : ∀ b o, h1.get? b = some o → s.heap.objs.size ≤ b → h2.get? b = some o := fun b o e hb => k2 b o (Nat.ne_of_gt (Nat.lt_of_lt_of_le hPs hb)) e
  have hTup : ∀ b o, o.cls ≠ .none → s.heap.get? b = some o → h2.get? b = some o := fun b o hc e => k2 b o (fun e' => by subst e'; rw [hoP] at e; cases e; exact hc rfl) (k1 b o e)
  have hns : ∀ b mm, s.heap.Ns b mm → b ≠ TB := fun b mm x e => by
    obtain ⟨o, es, ep, ho, hdd, _⟩ := x
    rw [e, hoP] at ho; cases ho; cases hdd
  obtain ⟨bm, ob, M⟩ := G.bm
  have M2 : BMod h2 mainGlobals mg bm ob := ⟨M.ns.at fun o e => k2 _ o (hns _ _ M.ns) (k1 _ o e), M.name, M.ne, hTup bm ob (by rw [M.cls]; simp) M.obj, M.cls, M.dict, M.data⟩
  refine wpAny_builtinsFor M2.ns M2.name M2.ne M2.obj M2.cls M2.dict M2.data ?_
  have hlim2 : h2.NoLimit := by
    refine (G.lim.keeps k1).extBut k2 ?_
    intro e
    obtain ⟨_, hns', _⟩ := G.lim
    exact hns _ _ hns' e
  have hc2 : cStatics < s.heap.objs.size := let ⟨_, hn, _⟩ := G.lim; hn.lt
  have J1 : h2.IsTuple T1 #[.int p t1, .int q u1] := ⟨_, hTup _ _ (by simp) g1, rfl, _, rfl⟩
  have J2 : h2.IsTuple T2 #[.int p' t2, .int q' u2] := ⟨_, hTup _ _ (by simp) g2, rfl, _, rfl⟩
  have lT1 : T1 < s.heap.objs.size := Heap.lt_size g1
  have lT2 : T2 < s.heap.objs.size := Heap.lt_size g2
  have hsz2 : s.heap.objs.size + 5 ≤ h2.objs.size := hz ▸ hz2
  refine ⟨s.heap.objs.size + 4, _, _, 2, _, _, _, fun _ => true, fun i y => ∃ t, y = .int (if i = 0 then p + p' else q + q') t, rfl, fun A' hA => zip_walks (z := s.heap.objs.size + 4) (TI := s.heap.objs.size + 2) (TO := s.heap.objs.size + 3) (i1 := s.heap.objs.size) (i2 := s.heap.objs.size + 1) (f1 := [s.heap.objs.size, T1]) (f2 := [s.heap.objs.size + 1, T2]) hA
    ⟨ne_nat (by omega), ne_nat (by omega), ne_nat (by omega), ne_nat (by omega), ne_nat (by omega), ?_, ?_, ?_, ?_, by simp, by simp, ?_, ?_⟩ (drawsTuple (A := A'.in1) hA s.heap.objs.size T1 (ne_nat (.inl lT1)) #[.int p t1, .int q u1]) (drawsTuple (A := A'.in1) hA (s.heap.objs.size + 1) T2 (ne_nat (.inl (Nat.lt_succ_of_lt lT2))) #[.int p' t2, .int q' u2]), ?_, ?_, ?_, hlim2, ?_, ?_, ?_⟩
  · exact notMem2 (ne_nat (by omega)) (ne_nat (.inr (Nat.lt_of_lt_of_le lT1 (Nat.le_add_right _ _))))
  · exact notMem2 (ne_nat (by omega)) (ne_nat (.inr (Nat.lt_of_lt_of_le lT2 (Nat.le_add_right _ _))))
  · exact notMem2 (ne_nat (by omega)) (ne_nat (.inr (Nat.lt_of_lt_of_le lT1 (Nat.le_add_right _ _))))
  · exact notMem2 (ne_nat (by omega)) (ne_nat (.inr (Nat.lt_of_lt_of_le lT2 (Nat.le_add_right _ _))))
  · exact notMem2 (ne_nat (by omega)) (ne_nat (.inr lT2))
  · exact notMem2 (ne_nat (by omega)) (ne_nat (.inr (Nat.lt_of_lt_of_le lT1 (Nat.le_add_right _ _))))
  · rintro i vals ⟨x, y, _, _, rfl⟩
    exact ⟨x, y, rfl⟩
  · exact ⟨hTP _ _ z1 (by omega), hTP _ _ z2 (by omega), ⟨_, _, hTP _ _ z3 (by omega)⟩, ⟨z4.at fun o e => hTP _ _ e (Nat.le_refl _), J1⟩, z5.at fun o e => hTP _ _ e (by omega), J2⟩
  · intro b hb
    show b < h2.objs.size
    have up : ∀ n : Nat, n < s.heap.objs.size + 5 → n < h2.objs.size := fun n h => Nat.lt_of_lt_of_le h hsz2
    simp only [List.cons_append, List.nil_append, List.mem_cons, List.not_mem_nil, or_false] at hb
    rcases hb with rfl | rfl | rfl | rfl | rfl | rfl | rfl
    · exact up _ (by omega)
    · exact up _ (by omega)
    · exact up _ (by omega)
    · exact up _ (by omega)
    · exact up _ (Nat.lt_of_lt_of_le lT1 (Nat.le_add_right _ _))
    · exact up _ (by omega)
    · exact up _ (Nat.lt_of_lt_of_le lT2 (Nat.le_add_right _ _))
  · intro hm
    simp only [List.mem_cons, List.not_mem_nil, or_false] at hm
    rcases hm with e | e | e | e
    · exact ne_nat (.inl (Nat.lt_of_lt_of_le hc2 (Nat.le_add_right _ _))) e
    · exact ne_nat (.inl (Nat.lt_of_lt_of_le hc2 (Nat.le_add_right _ _))) e
    · exact ne_nat (.inl hc2) e
    · exact ne_nat (.inl (Nat.lt_of_lt_of_le hc2 (Nat.le_add_right _ _))) e
  · intro href hk
    refine ⟨fun A' E' i va vb s₂ m₂ _ _ _ _ _ _ => wpAny_pure ⟨rfl, _, _, rfl, fun _ _ e => e⟩, fun A' E' i va vb s₂ m₂ _ hP _ hn₂ ma mb _ => ?_⟩
    obtain ⟨x, y, hx, hy, e⟩ := hP
    have e1 : va = x := by injection e with e; injection e
    have e2 : vb = y := by injection e with e; injection e with _ e; injection e
    subst e1 e2
    match i, hx, hy with
    | 0, hx, hy =>
      simp at hx hy; subst hx hy
      exact wpAny_BinOp (wpAny_Name (wpAny_loadName_local hkind hxa hn₂ ma (wpAny_Name (wpAny_loadName_local hkind hxb hn₂ mb (P.add_int ⟨⟨_, rfl⟩, _, _, rfl, fun _ _ e => e⟩)) (by decide))) (by decide))
    | 1, hx, hy =>
      simp at hx hy; subst hx hy
      exact wpAny_BinOp (wpAny_Name (wpAny_loadName_local hkind hxa hn₂ ma (wpAny_Name (wpAny_loadName_local hkind hxb hn₂ mb (P.add_int ⟨⟨_, rfl⟩, _, _, rfl, fun _ _ e => e⟩)) (by decide))) (by decide))
    | i + 2, hx, _ => simp at hx
  · intro aG h5 tk gs hgb hag hsz5 hk5 W hat5
    refine call_tuple_gen W.in4_3 (fun i s' st => st.1.typeIs) hat5 ?_ List.mem_cons_self ?_ (by decide)
    · intro b hb
      show b < h5.objs.size
      rw [hsz5]
      rcases List.mem_cons.mp hb with rfl | hb
      · exact Nat.lt_succ_self _
      · rcases List.mem_cons.mp hb with rfl | hb
        · exact Nat.lt_succ_of_lt hag
        · exact Nat.lt_succ_of_lt (Nat.lt_trans (List.mem_range.mp hb) hag)
    · intro s' acc hm hacc
      obtain ⟨h', g', d', tk', os'⟩ := s'
      have e2 : d' = s.drawn := hm.drawn
      have e3 : os' = s.os := hm.os
      subst e2 e3
      have hnw : ∀ b, b < s.heap.objs.size → b ∉ h2.objs.size :: [s.heap.objs.size + 4, s.heap.objs.size + 3, s.heap.objs.size, s.heap.objs.size + 1] := fun b hb hm => by
        simp only [List.mem_cons, List.not_mem_nil, or_false] at hm
        rcases hm with e | e | e | e | e
        · exact ne_nat (.inl (Nat.lt_of_lt_of_le (Nat.lt_of_lt_of_le hb (Nat.le_add_right _ _)) hsz2)) e
        · exact ne_nat (.inl (Nat.lt_of_lt_of_le hb (Nat.le_add_right _ _))) e
        · exact ne_nat (.inl (Nat.lt_of_lt_of_le hb (Nat.le_add_right _ _))) e
        · exact ne_nat (.inl hb) e
        · exact ne_nat (.inl (Nat.lt_of_lt_of_le hb (Nat.le_add_right _ _))) e
      have kk : ∀ b o, b < s.heap.objs.size → h2.get? b = some o → (h'.push { cls := .type "tuple", data := .seq acc }).get? b = some o := fun b o hb e => Heap.get?_push_of_some _ (hm.heap b o (hnw b hb) (hk5 b o e))
      have hacc' : ∃ t u, acc = #[.int (p + p') t, .int (q + q') u] := by
        obtain ⟨hs2, hall⟩ := hacc
        have hs2' : acc.size = 2 := hs2
        obtain ⟨i0, e0, t0, r0⟩ := hall 0 acc[0] (by simp)
        obtain ⟨i1, e1, t1, r1⟩ := hall 1 acc[1] (by simp)
        have : i0 = 0 := by have e : some 0 = some i0 := e0; injection e with e; exact e.symm
        subst this
        have : i1 = 1 := by have e : some 1 = some i1 := e1; injection e with e; exact e.symm
        subst this
        refine ⟨t0, t1, ?_⟩
        apply Array.ext (by simp [hs2'])
        intro i hi1 hi2
        match i with
        | 0 => simpa using r0
        | 1 => simpa using r1
        | i + 2 => simp at hi2; omega
      obtain ⟨ta, ua, rfl⟩ := hacc'
      refine h _ _ tk' g' ⟨_, _, _, rfl, Heap.get?_push_size _ rfl⟩ ?_ ?_ ?_
      · intro b o hb e
        exact kk b o (Heap.lt_size e) (k2 b o hb (k1 b o e))
      · exact T2b.at2 (fun o e => kk _ o (Heap.lt_size hoc) e) (fun o e => kk _ o hPs e)
      · exact AllBare.moved (hB.push hgb) hm.gens
end
end Mine

/-! part B5 -/
namespace Mine
open PySem PySem.Calls PyProof.Rows
set_option maxRecDepth 100000

abbrev Kp (S : List Addr) (h h' : Heap) : Prop := ∀ b o, b ∉ S → h.get? b = some o → h'.get? b = some o
theorem ns_noSeq {h : Heap} {L : Addr} {m : Str → Option Value} (x : h.Ns L m) : ∀ o, h.get? L = some o → ¬ SeqO o := fun o ho => by
  obtain ⟨o', es, ep, ho', hd, _⟩ := x
  rw [ho] at ho'; cases ho'; simp [SeqO, hd]
theorem dict_noSeq {prog : Program} {w : World} {h : Heap} {D : Addr} {kvs : List (Int × Value)} (x : h.DictOf (intKind prog w) D kvs) : ∀ o, h.get? D = some o → ¬ SeqO o := fun o ho => by
  obtain ⟨o', es, ep, ho', _, hd, _⟩ := x
  rw [ho] at ho'; cases ho'; simp [SeqO, hd]
theorem tb_noSeq {z : Array Value} {c P : Addr} {h : Heap} (x : Tb z c P h) : ∀ o, h.get? P = some o → ¬ SeqO o := fun o ho => by
  obtain ⟨_, ps, e⟩ := x.lt
  rw [ho] at e; cases e; simp [SeqO]
theorem tb_ne {z : Array Value} {c P : Addr} {h : Heap} (x : Tb z c P h) {L : Addr} {m : Str → Option Value} (y : h.Ns L m) : L ≠ c ∧ L ≠ P := by
  obtain ⟨ps, ⟨o, vs, _, _, _, _, _, _, _, _, a, b, _⟩, _, t⟩ := x
  obtain ⟨o', es, ep, ho', hd, _⟩ := y
  refine ⟨fun e => ?_, fun e => ?_⟩
  · rw [e, a] at ho'; cases ho'; rw [b] at hd; cases hd
  · rw [e, t] at ho'; cases ho'; cases hd

theorem upd_ne {m : Str → Option Value} {x y : Str} {v : Value} {o : Option Value} (h : y ≠ x) (e : m y = o) : (fun z => if z = x then some v else m z) y = o := by
  show (if y = x then some v else m y) = o
  rw [if_neg h, e]

/-- what stays through add_callers' loops -/
structure AI (prog : Program) (w : World) (z : Array Value) (c TB L D d2 : Addr) (hs h : Heap) (m : Str → Option Value) (l : List (Int × Int × Int)) : Prop where
  ns : h.Ns L m
  m1 : m "new_callers" = some (.ref D)
  m2 : m "source" = some (.ref d2)
  kp : Kp [L, TB] hs h
  bk : Book prog w h D l
  tb : Tb z c TB h

structure Dist (c TB L D : Addr) (hs : Heap) : Prop where
  Lc : L ≠ c
  LT : L ≠ TB
  Dc : D ≠ c
  DT : D ≠ TB
  DL : D ≠ L
  Dn : hs.objs.size ≤ D

section
variable {prog : Program} {w : World} {A : Around} {E : Value → Shared → Prop} {s : Shared} {mg mb : Str → Option Value} {z : Array Value} {c TB L D d2 : Addr} {hs h h' : Heap} {m m' : Str → Option Value} {l : List (Int × Int × Int)}

theorem AI.move (x : AI prog w z c TB L D d2 hs h m l) {X : Addr} (k : ∀ b o, b ≠ X → h.get? b = some o → h'.get? b = some o) (xD : X ≠ D) (xc : X ≠ c) (xT : X ≠ TB) (hX : X = L ∨ hs.objs.size ≤ X)
    (hno : ∀ o, h.get? X = some o → ¬ SeqO o) (ns' : h'.Ns L m') (e1 : m' "new_callers" = some (.ref D)) (e2 : m' "source" = some (.ref d2)) : AI prog w z c TB L D d2 hs h' m' l where
  ns := ns'
  m1 := e1
  m2 := e2
  kp := fun b o hb e => k b o (fun e' => by
    subst e'
    rcases hX with e' | e'
    · exact hb (by simp [e'])
    · exact absurd (Heap.lt_size e) (Nat.not_lt.mpr e')) (x.kp b o hb e)
  bk := x.bk.keeps (fun o e => k D o (Ne.symm xD) e) fun b o hq e => k b o (fun e' => hno o (e' ▸ e) hq) e
  tb := x.tb.at2 (fun o e => k c o (Ne.symm xc) e) fun o e => k TB o (Ne.symm xT) e

theorem AI.set (x : AI prog w z c TB L D d2 hs h m l) (Z : Dist c TB L D hs) (hsb : Heap.SameBut L h h') (ns' : h'.Ns L m') (e1 : m' "new_callers" = some (.ref D)) (e2 : m' "source" = some (.ref d2)) : AI prog w z c TB L D d2 hs h' m' l :=
  x.move (fun b o hb e => hsb.extBut b o hb e) (Ne.symm Z.DL) Z.Lc Z.LT (.inl rfl) (ns_noSeq x.ns) ns' e1 e2
theorem AI.off (x : AI prog w z c TB L D d2 hs h m l) {it : Addr} (k : ∀ b o, b ∉ [it] → h.get? b = some o → h'.get? b = some o) (hL : it ≠ L) (hD : it ≠ D) (hc : it ≠ c) (hT : it ≠ TB) (hn : hs.objs.size ≤ it) (hno : ∀ o, h.get? it = some o → ¬ SeqO o) : AI prog w z c TB L D d2 hs h' m l :=
  x.move (X := it) (fun b o hb e => k b o (by simpa using hb) e) hD hc hT (.inr hn) hno (x.ns.at fun o e => k L o (by simpa using Ne.symm hL) e) x.m1 x.m2
theorem AI.grow (x : AI prog w z c TB L D d2 hs h m l) (k : ∀ b o, h.get? b = some o → h'.get? b = some o) : AI prog w z c TB L D d2 hs h' m l :=
  ⟨x.ns.keeps k, x.m1, x.m2, fun b o hb e => k b o (x.kp b o hb e), x.bk.keeps (fun o e => k _ o e) fun b o _ e => k b o e, x.tb.at2 (fun o e => k _ o e) fun o e => k _ o e⟩
/-- the dict stored into -/
theorem AI.item (x : AI prog w z c TB L D d2 hs h m l) (Z : Dist c TB L D hs) (hsb : Heap.SameBut D h h') {kvs : List (Int × Value)} {l'} (hd : h'.DictOf (intKind prog w) D kvs) (hd0 : ∀ o, h.get? D = some o → ¬ SeqO o) (r : Rel h kvs l') : AI prog w z c TB L D d2 hs h' m l' where
  ns := x.ns.at fun o e => hsb.extBut L o (Ne.symm Z.DL) e
  m1 := x.m1
  m2 := x.m2
  kp := fun b o hb e => hsb.extBut b o (Nat.ne_of_lt (Nat.lt_of_lt_of_le (Heap.lt_size e) Z.Dn)) (x.kp b o hb e)
  bk := ⟨kvs, hd, r.keeps fun b o hq e => hsb.extBut b o (fun e' => hd0 o (e' ▸ e) hq) e⟩
  tb := x.tb.at2 (fun o e => hsb.extBut c o (Ne.symm Z.Dc) e) fun o e => hsb.extBut TB o (Ne.symm Z.DT) e
/-- the table has grown -/
theorem AI.tab (x : AI prog w z c TB L D d2 hs h m l) (Z : Dist c TB L D hs) (hx : Heap.ExtBut TB h h') (t : Tb z c TB h') : AI prog w z c TB L D d2 hs h' m l where
  ns := x.ns.at fun o e => hx L o Z.LT e
  m1 := x.m1
  m2 := x.m2
  kp := fun b o hb e => hx b o (fun e' => hb (by simp [e'])) (x.kp b o hb e)
  bk := x.bk.keeps (fun o e => hx D o Z.DT e) fun b o hq e => hx b o (fun e' => tb_noSeq x.tb o (e' ▸ e) hq) e
  tb := t

def puts (l : List (Int × Int × Int)) : List (Int × Int × Int) := l.foldl (fun l y => put l y.1 y.2) []
def merge (l1 l2 : List (Int × Int × Int)) : List (Int × Int × Int) := l2.foldl addTo (puts l1)
theorem fold_len {f : List (Int × Int × Int) → Int × Int × Int → List (Int × Int × Int)} (hf : ∀ l y, (f l y).length ≤ l.length + 1) : ∀ (l acc : List (Int × Int × Int)), (l.foldl f acc).length ≤ acc.length + l.length
  | [], acc => by simp
  | y :: l, acc => by
    rw [List.foldl_cons, List.length_cons]
    have := fold_len hf l (f acc y)
    have := hf acc y
    omega
theorem puts_len (l) : (puts l).length ≤ l.length := by
  have := fold_len (f := fun l y => put l y.1 y.2) (fun l y => put_length l y.1 y.2) l []
  simpa [puts] using this
theorem merge_len (l1 l2) : (merge l1 l2).length ≤ l1.length + l2.length := by
  have h1 := fold_len (f := addTo) addTo_length l2 (puts l1)
  have h2 := puts_len l1
  show (l2.foldl addTo (puts l1)).length ≤ _
  omega
theorem take_snoc {α : Type} {l : List α} {i : Nat} {x : α} (h : l[i]? = some x) : l.take (i + 1) = l.take i ++ [x] := by
  rw [List.take_add_one, h]; rfl

theorem isTup {T1 : Addr} {o : Obj} {Q : Value → Shared → Prop} (g1 : s.heap.get? T1 = some o) (hc : o.cls = .type "tuple") (h : Q (.bool true) s) : wpAny (model prog w) A (call (.builtin "isinstance") [.ref T1, .type "tuple"]) Q E s :=
  call_isinstance (isinstance_true (Tx := "tuple") F.isi_meta_tuple sub_tuple_self) ⟨⟨_, g1, hc⟩, h⟩

set_option maxHeartbeats 1000000 in
theorem addCallers_body {Q : Flow → Shared → Prop} {a d1 : Addr} {l1 l2 : List (Int × Int × Int)} {hB : Heap} (G : Gd mg mb hB) (hGs : Ext hB s.heap) (hBT : hB.get? TB = none) (hBL : hB.get? L = none)
    (hh : A.handled = none) (hroom : A.depth < recursionLimit) (hn : s.heap.Ns L m) (m1 : m "target" = some (.ref d1)) (m2 : m "source" = some (.ref d2)) (dS1 : (d1 == sysModules) = false) (dS2 : (d2 == sysModules) = false)
    (b1 : Book prog w s.heap d1 l1) (b2 : Book prog w s.heap d2 l2) (T : Tb z c TB s.heap) (hBr : AllBare s.gens) (hdL1 : d1 ≠ L) (hdL2 : d2 ≠ L) (hlen : l1.length + l2.length ≤ 1000)
    (h : ∀ D h' tk gs, s.heap.objs.size ≤ D → Book prog w h' D (merge l1 l2) → Kp [L, TB] s.heap h' → Tb z c TB h' → AllBare gs → Q (.ret (.ref D)) { s with heap := h', toks := tk, gens := gs }) :
    wpAny (model prog w) A (execs (bodyAt 5) (envAt 5 L a (.ref c))) Q (fun _ _ => False) s := by
  have hsl : sizeLine = 2 ^ 24 := rfl
  obtain ⟨kvs1, dd1, r1⟩ := b1
  obtain ⟨kvs2, dd2, r2⟩ := b2
  obtain ⟨⟨oc, hoc⟩, psT, hoT⟩ := T.lt
  have hTd1 : d1 ≠ TB := fun e => by obtain ⟨o, es, ep, ho, _, hd, _⟩ := dd1; rw [e, hoT] at ho; cases ho; cases hd
  have hTd2 : d2 ≠ TB := fun e => by obtain ⟨o, es, ep, ho, _, hd, _⟩ := dd2; rw [e, hoT] at ho; cases ho; cases hd
  -- new_callers = {}
  with_unfolding_all refine wpAny_execs_cons (wpAny_Assign_Name (wpAny_Dict_empty (wpAny_storeName_local rfl (hn.push _) (fun h1 hn1 hs1 => ?_) rfl)))
  replace hs1 : Heap.SameBut L (s.heap.push { cls := .type "dict", data := .dict #[] }) h1 := hs1
  generalize hD : s.heap.objs.size = D at *
  have hLD : L < D := hD ▸ hn.lt
  have Z : Dist c TB L D s.heap := ⟨(tb_ne T hn).1, (tb_ne T hn).2, fun e => absurd (Heap.lt_size hoc) (by rw [hD, e]; exact Nat.lt_irrefl _), fun e => absurd (Heap.lt_size hoT) (by rw [hD, e]; exact Nat.lt_irrefl _), Nat.ne_of_gt hLD, Nat.le_of_eq hD⟩
  have k1 : Kp [L] s.heap h1 := fun b o hb e => hs1.extBut b o (by simpa using hb) (Heap.get?_push_of_some _ e)
  have ltD : ∀ b o, s.heap.get? b = some o → b < D := fun b o e => hD ▸ Heap.lt_size e
  have nD : h1.DictOf (intKind prog w) D [] := by
    have : (s.heap.push { cls := .type "dict", data := .dict #[] }).DictOf (intKind prog w) s.heap.objs.size [] := Heap.DictOf.new _
    rw [hD] at this
    exact this.at fun o e => hs1.extBut D o Z.DL e
  have I1 : AI prog w z c TB L D d2 s.heap h1 (fun x => if x = "new_callers" then some (.ref D) else m x) (puts (l1.take 0)) :=
    ⟨hn1, by simp, upd_ne (by decide) m2, fun b o hb e => k1 b o (fun e' => hb (by simp at e'; simp [e'])) e, ⟨[], nD, .nil⟩, T.at2 (fun o e => k1 c o (by simpa using Ne.symm Z.Lc) e) fun o e => k1 TB o (by simpa using Ne.symm Z.LT) e⟩
  have hh1 : D < h1.objs.size := let ⟨o, _, _, ho, _⟩ := nD; Heap.lt_size ho
  -- the dicts' places
  have old : ∀ {h m l}, AI prog w z c TB L D d2 s.heap h m l → ∀ {d kvs}, s.heap.DictOf (intKind prog w) d kvs → d ≠ L → d ≠ TB → h.DictOf (intKind prog w) d kvs :=
    fun x d kvs dd e1 e2 => dd.at fun o e => x.kp _ o (by simp [e1, e2]) e
  have oldPV : ∀ {h m l}, AI prog w z c TB L D d2 s.heap h m l → ∀ {v p q}, PV s.heap v p q → PV h v p q :=
    fun x v p q pv => pv.keeps fun b o hq e => x.kp b o (by
      intro hm
      simp only [List.mem_cons, List.not_mem_nil, or_false] at hm
      rcases hm with rfl | rfl
      · exact ns_noSeq hn o e hq
      · exact tb_noSeq T o e hq) e
  clear hn1 hs1
  refine anyTok (s := s) (h := h1) fun tk => ?_
  -- the first loop
  obtain ⟨ep1, da1⟩ := (old I1 dd1 hdL1 hTd1).dictAt
  have lt1 : d1 < D := let ⟨o, _, _, ho, _⟩ := dd1; ltD _ o ho
  have lt2 : d2 < D := let ⟨o, _, _, ho, _⟩ := dd2; ltD _ o ho
  have ltc : c < D := ltD _ _ hoc
  have ltT : TB < D := ltD _ _ hoT
  refine wpAny_execs_cons ?_
  with_unfolding_all refine for_items (s := { s with heap := h1, toks := _ }) (env := envAt 5 L a (.ref c)) (A := A) (knd := intKind prog w) (kvs := kvs1) (d := d1) (fun i s' => ∃ h tk m', s' = { s with heap := h, toks := tk } ∧ AI prog w z c TB L D d2 s.heap h m' (puts (l1.take i))) hh dS1 da1 rfl rfl (fun Q' q => loc I1.ns m1 q) ?_ ?_ ?_
  · intro o1 o2
    exact ⟨_, _, _, rfl, I1.grow fun b o e => Heap.get?_push_of_some _ (Heap.get?_push_of_some _ e)⟩
  · rintro i k v key s0 s1 hkv hkey hno ⟨hx, tkx, mx, rfl, X⟩ ⟨hy, tky, rfl, hk⟩ hda ⟨oI, hoI⟩
    obtain ⟨tk, rfl⟩ := Value.isInt_shape hkey
    have hit : D < h1.objs.size + 1 := Nat.lt_succ_of_lt hh1
    have neL : h1.objs.size + 1 ≠ L := Nat.ne_of_gt (Nat.lt_trans hLD hit)
    have neD : h1.objs.size + 1 ≠ D := Nat.ne_of_gt hit
    have Y := X.off hk neL neD (Nat.ne_of_gt (Nat.lt_trans ltc hit)) (Nat.ne_of_gt (Nat.lt_trans ltT hit)) (hD ▸ Nat.le_of_lt hit) hno
    with_unfolding_all refine wpAny_storeName_local rfl Y.ns (fun h2 hn2 hs2 => ?_) rfl
    have Y2 := Y.set Z hs2 hn2 (upd_ne (by decide) Y.m1) (upd_ne (by decide) Y.m2)
    with_unfolding_all refine wpAny_storeName_local rfl Y2.ns (fun h3 hn3 hs3 => ?_) rfl
    have Y3 := Y2.set Z hs3 hn3 (upd_ne (by decide) Y2.m1) (upd_ne (by decide) Y2.m2)
    obtain ⟨p, q, hl, pv⟩ := r1.get hkv
    obtain ⟨kvn, dn, rn⟩ := Y3.bk
    with_unfolding_all refine wpAny_execs_cons (wpAny_Assign_Subscript (loc Y3.ns rfl (loc Y3.ns Y3.m1 (loc Y3.ns rfl (wpAny_setItem_pairs (knd := intKind prog w) (k := k) hkey dn (fun h4 dn4 hs4 => wpAny_execs_nil ?_) ?_)))))
    · have W := Y3.item Z hs4 dn4 (dict_noSeq dn) (rn.stored (oldPV Y3 pv))
      rw [show put (puts (l1.take i)) k (p, q) = puts (l1.take (i + 1)) by rw [take_snoc hl, puts, puts, List.foldl_append]; rfl] at W
      refine ⟨rfl, ⟨h4, _, _, rfl, W⟩, ?_⟩
      · rintro b (rfl | rfl) o ho
        · exact hs4.extBut _ o neD (hs3.extBut _ o neL (hs2.extBut _ o neL ho))
        · exact hs4.extBut _ o (Nat.ne_of_lt lt1) (hs3.extBut _ o hdL1 (hs2.extBut _ o hdL1 ho))
    · have := rn.length
      have := puts_len (l1.take i)
      have : (l1.take i).length ≤ l1.length := by simp; omega
      omega
  rintro s0 s1 hno ⟨hx, tkx, mx, rfl, X⟩ ⟨hy, tky, rfl, hk⟩
  have hit : D < h1.objs.size + 1 := Nat.lt_succ_of_lt hh1
  have Y := X.off hk (Nat.ne_of_gt (Nat.lt_trans hLD hit)) (Nat.ne_of_gt hit) (Nat.ne_of_gt (Nat.lt_trans ltc hit)) (Nat.ne_of_gt (Nat.lt_trans ltT hit)) (hD ▸ Nat.le_of_lt hit) hno
  rw [r1.length, List.take_length] at Y
  clear X hk hno hit I1 k1 nD hh1 da1
  refine anyTok (s := s) (h := hy) fun tk => ?_
  -- the second loop
  obtain ⟨ep2, da2⟩ := (old Y dd2 hdL2 hTd2).dictAt
  have hhy : D < hy.objs.size := let ⟨_, ⟨o, _, _, ho, _⟩, _⟩ := Y.bk; Heap.lt_size ho
  refine wpAny_execs_cons ?_
  with_unfolding_all refine for_items (s := { s with heap := hy, toks := _ }) (env := envAt 5 L a (.ref c)) (A := A) (knd := intKind prog w) (kvs := kvs2) (d := d2) (fun i s' => ∃ h tk gs m', s' = { s with heap := h, toks := tk, gens := gs } ∧ AllBare gs ∧ AI prog w z c TB L D d2 s.heap h m' ((l2.take i).foldl addTo (puts l1))) hh dS2 da2 rfl rfl (fun Q' q => loc Y.ns Y.m2 q) ?_ ?_ ?_
  · intro o1 o2
    exact ⟨_, _, _, _, rfl, hBr, Y.grow fun b o e => Heap.get?_push_of_some _ (Heap.get?_push_of_some _ e)⟩
  · rintro i k v key s0 s1 hkv hkey hno ⟨hx, tkx, gs, mx, rfl, hBx, X⟩ ⟨hz, tkz, rfl, hk⟩ hda ⟨oI, hoI⟩
    obtain ⟨tk, rfl⟩ := Value.isInt_shape hkey
    have hit : D < hy.objs.size + 1 := Nat.lt_succ_of_lt hhy
    have neL : hy.objs.size + 1 ≠ L := Nat.ne_of_gt (Nat.lt_trans hLD hit)
    have neD : hy.objs.size + 1 ≠ D := Nat.ne_of_gt hit
    have neT : hy.objs.size + 1 ≠ TB := Nat.ne_of_gt (Nat.lt_trans ltT hit)
    have Y1 := X.off hk neL neD (Nat.ne_of_gt (Nat.lt_trans ltc hit)) neT (hD ▸ Nat.le_of_lt hit) hno
    with_unfolding_all refine wpAny_storeName_local rfl Y1.ns (fun h2 hn2 hs2 => ?_) rfl
    have Y2 := Y1.set Z hs2 hn2 (upd_ne (by decide) Y1.m1) (upd_ne (by decide) Y1.m2)
    with_unfolding_all refine wpAny_storeName_local rfl Y2.ns (fun h3 hn3 hs3 => ?_) rfl
    have Y3 := Y2.set Z hs3 hn3 (upd_ne (by decide) Y2.m1) (upd_ne (by decide) Y2.m2)
    obtain ⟨p, q, hl, pv⟩ := r2.get hkv
    obtain ⟨kvn, dn, rn⟩ := Y3.bk
    have lenOk : kvn.length ≤ sizeLine := by
      have := rn.length
      have := fold_len (f := addTo) addTo_length (l2.take i) (puts l1)
      have := puts_len l1
      have : (l2.take i).length ≤ l2.length := by simp; omega
      omega
    have dSD : (D == sysModules) = false := by
      have hg : mainGlobals < D := let ⟨o, _, _, ho, _⟩ := G.g; ltD _ o (hGs _ o ho)
      have : D ≠ sysModules := Nat.ne_of_gt (Nat.lt_trans (by decide) hg)
      simpa using this
    with_unfolding_all refine wpAny_execs_cons (wpAny_If (wpAny_isTrue_Compare1 (loc Y3.ns rfl (loc Y3.ns Y3.m1 (wpAny_in_of (knd := intKind prog w) (k := k) hkey dSD dn.mapOf (wpAny_truthy_bool ?_))))))
    rcases rn.valueAt k with ⟨e1, e2⟩ | ⟨v', p', q', e1, e2, pv'⟩
    · rw [e1, if_neg (by simp)]
      refine anyTok (s := { s with gens := gs }) (h := h3) fun tk => ?_
      with_unfolding_all refine wpAny_execs_cons (wpAny_Assign_Subscript (loc Y3.ns rfl (loc Y3.ns Y3.m1 (loc Y3.ns rfl (wpAny_setItem_pairs (knd := intKind prog w) (k := k) hkey dn (fun h4 dn4 hs4 => wpAny_execs_nil (wpAny_execs_nil ?_)) lenOk)))))
      have W := Y3.item Z hs4 dn4 (dict_noSeq dn) (rn.stored (oldPV Y3 pv))
      rw [show put ((l2.take i).foldl addTo (puts l1)) k (p, q) = (l2.take (i + 1)).foldl addTo (puts l1) by
        rw [take_snoc hl, List.foldl_append, List.foldl_cons, List.foldl_nil]
        generalize (l2.take i).foldl addTo (puts l1) = acc at e2 ⊢
        show _ = match acc.find? (fun z => z.1 = k) with | some z => _ | none => _
        rw [e2]] at W
      refine ⟨rfl, ⟨h4, _, _, _, rfl, hBx, W⟩, ?_⟩
      · rintro b (rfl | rfl) o ho
        · exact hs4.extBut _ o neD (hs3.extBut _ o neL (hs2.extBut _ o neL ho))
        · exact hs4.extBut _ o (Nat.ne_of_lt lt2) (hs3.extBut _ o hdL2 (hs2.extBut _ o hdL2 ho))
    · rw [e1, if_pos (show (some v').isSome = true from rfl)]
      have G3 : Gd mg mb h3 := G.keeps fun b o e => Y3.kp b o (by
        intro hm
        simp only [List.mem_cons, List.not_mem_nil, or_false] at hm
        rcases hm with rfl | rfl
        · rw [hBL] at e; cases e
        · rw [hBT] at e; cases e) (hGs b o e)
      have pv3 := oldPV Y3 pv
      obtain ⟨T1, t1, u1, rfl, g1⟩ := id pv3
      refine anyTok (s := { s with gens := gs }) (h := h3) fun tk => ?_
      with_unfolding_all refine wpAny_execs_cons (wpAny_If (wpAny_isTrue_value (fun2 rfl (blt G3 (by simp) rfl ⟨rfl, loc Y3.ns rfl (blt G3 (by simp) rfl (isTup g1 rfl (wpAny_truthy_bool ?_)))⟩))))
      rw [if_pos rfl]
      refine anyTok (s := { s with gens := gs }) (h := h3) fun tk => ?_
      with_unfolding_all refine wpAny_execs_cons (wpAny_Assign_Subscript ?_)
      refine addPair (s := { s with gens := gs, heap := h3, toks := _ }) (c := c) (TB := TB) (D := D) (m := _) G3 hh hroom Y3.ns Y3.tb hBx rfl Y3.m1 rfl pv3 dn e1 pv' rfl (by decide) (by decide) rfl rfl rfl rfl fun vN h4 tk4 gs4 pvN hx4 T4 hB4 => ?_
      have Y4 := Y3.tab Z hx4 T4
      have dn4 : h4.DictOf (intKind prog w) D kvn := dn.at fun o e => hx4 D o Z.DT e
      have rn4 : Rel h4 kvn _ := rn.keeps fun b o hq e => hx4 b o (fun e' => tb_noSeq Y3.tb o (e' ▸ e) hq) e
      refine anyTok (s := { s with gens := gs4 }) (h := h4) fun tk => ?_
      with_unfolding_all refine loc Y4.ns Y4.m1 (loc Y4.ns rfl (wpAny_setItem_pairs (s := { s with gens := gs4, heap := h4, toks := _ }) (knd := intKind prog w) (k := k) hkey dn4 (fun h5 dn5 hs5 => wpAny_execs_nil (wpAny_execs_nil (wpAny_execs_nil ?_))) lenOk))
      have W := Y4.item Z hs5 dn5 (dict_noSeq dn4) (rn4.stored pvN)
      rw [show put ((l2.take i).foldl addTo (puts l1)) k (p + p', q + q') = (l2.take (i + 1)).foldl addTo (puts l1) by
        rw [take_snoc hl, List.foldl_append, List.foldl_cons, List.foldl_nil]
        generalize (l2.take i).foldl addTo (puts l1) = acc at e2 ⊢
        show _ = match acc.find? (fun z => z.1 = k) with | some z => _ | none => _
        rw [e2]] at W
      refine ⟨rfl, ⟨h5, _, _, _, rfl, hB4, W⟩, ?_⟩
      · rintro b (rfl | rfl) o ho
        · exact hs5.extBut _ o neD (hx4 _ o neT (hs3.extBut _ o neL (hs2.extBut _ o neL ho)))
        · exact hs5.extBut _ o (Nat.ne_of_lt lt2) (hx4 _ o hTd2 (hs3.extBut _ o hdL2 (hs2.extBut _ o hdL2 ho)))
  rintro s0 s1 hno ⟨hx, tkx, gs, mx, rfl, hBx, X⟩ ⟨hz, tkz, rfl, hk⟩
  have hit : D < hy.objs.size + 1 := Nat.lt_succ_of_lt hhy
  have Y1 := X.off hk (Nat.ne_of_gt (Nat.lt_trans hLD hit)) (Nat.ne_of_gt hit) (Nat.ne_of_gt (Nat.lt_trans ltc hit)) (Nat.ne_of_gt (Nat.lt_trans ltT hit)) (hD ▸ Nat.le_of_lt hit) hno
  rw [r2.length, List.take_length] at Y1
  with_unfolding_all refine wpAny_execs_cons (wpAny_Return_some (loc Y1.ns Y1.m1 ?_))
  exact h D hz _ gs (Nat.le_refl _) Y1.bk Y1.kp Y1.tb hBx

/-- add_callers, its code object known -/
def AcAt (mg : Str → Option Value) (h : Heap) (a c : Addr) : Prop :=
  ∃ o pm doc, mg (nameAt 5) = some (.ref a) ∧ h.get? a = some o ∧ o.data = .func (docDef (nameAt 5) (paramsAt 5) (bodyAt 5) (scopeAt 5) pm (.ref c) doc) ∧ h.CodeRec (.ref c) (nameAt 5)

theorem addCallers_K {Q : Value → Shared → Prop} {a d1 : Addr} {l1 l2 : List (Int × Int × Int)} {hB : Heap} (G : Gd mg mb hB) (hGs : Ext hB s.heap) (hBT : hB.get? TB = none) (hAc : AcAt mg hB a c)
    (hh : A.handled = none) (hroom : A.depth + 1 < recursionLimit) (dS1 : (d1 == sysModules) = false) (dS2 : (d2 == sysModules) = false)
    (b1 : Book prog w s.heap d1 l1) (b2 : Book prog w s.heap d2 l2) (T : Tb z c TB s.heap) (hBr : AllBare s.gens) (hlen : l1.length + l2.length ≤ 1000)
    (h : ∀ D h' tk gs, s.heap.objs.size ≤ D → Book prog w h' D (merge l1 l2) → Kp [TB] s.heap h' → Tb z c TB h' → AllBare gs → Q (.ref D) { s with heap := h', toks := tk, gens := gs }) :
    wpAny (model prog w) A (call (.ref a) [.ref d1, .ref d2]) Q E s := by
  obtain ⟨o, pm, doc, h1, h2, h3, h4⟩ := hAc
  refine wpAny_call (call_pos_ret (Nat.lt_of_succ_lt hroom) (hGs _ _ h2) h3 (G.keeps hGs).lim (h4.keeps hGs) rfl (locs rfl) (fun h₁ Fm => ?_) rfl rfl rfl (by decide))
  have up : Ext s.heap h₁ := Fm.keep
  have lt1 : d1 < s.heap.objs.size := let ⟨_, ⟨_, _, _, ho, _⟩, _⟩ := b1; Heap.lt_size ho
  have lt2 : d2 < s.heap.objs.size := let ⟨_, ⟨_, _, _, ho, _⟩, _⟩ := b2; Heap.lt_size ho
  have hz : s.heap.objs.size < h₁.objs.size := Fm.ns.lt
  refine addCallers_body (s := { s with heap := h₁, toks := _ }) (A := A.deeper _) (hB := hB) (TB := TB) (c := c) G (fun b o e => up b o (hGs b o e)) hBT ?_ hh hroom Fm.ns rfl rfl dS1 dS2 (b1.keeps (fun o e => up _ o e) fun b o _ e => up b o e)
    (b2.keeps (fun o e => up _ o e) fun b o _ e => up b o e) (T.at2 (fun o e => up _ o e) fun o e => up _ o e) hBr (Nat.ne_of_lt lt1) (Nat.ne_of_lt lt2) hlen fun D h' tk gs hD bk kp tb hB => ?_
  · cases e : hB.get? s.heap.objs.size with
    | none => rfl
    | some o => exact absurd (Heap.lt_size (hGs _ _ e)) (Nat.lt_irrefl _)
  · refine h D h' tk gs (Nat.le_trans (Nat.le_of_lt hz) hD) bk (fun b o hb e => kp b o ?_ (up b o e)) tb hB
    intro hm
    simp only [List.mem_cons, List.not_mem_nil, or_false] at hm hb
    rcases hm with e' | e'
    · exact absurd (e' ▸ Heap.lt_size e) (Nat.lt_irrefl _)
    · exact hb e'
end
end Mine

/-! part B6 -/
namespace Mine
open PySem PySem.Calls PyProof.Rows
set_option maxRecDepth 100000

section
variable {prog : Program} {w : World} {A : Around} {E : Value → Shared → Prop} {s : Shared} {mg mb : Str → Option Value}

theorem rng1 {b : Int} {u : Tok} {K : Value → Shared → Prop} (h1 : -(2 ^ 62) ≤ b) (h2 : b < 2 ^ 62)
    (h : ∀ h' tk, Ext s.heap h' → h'.objs.size = s.heap.objs.size + 2 → IsRangeIter h' (s.heap.objs.size + 1) (0 + ((0 : Nat) : Int) * 1) ((b.toNat : Int) - ((0 : Nat) : Int)) 1 → K (.ref (s.heap.objs.size + 1)) { s with heap := h', toks := tk }) :
    wpAny (model prog w) A (call (.type "range") [.int b u]) (fun xv s₁ => wpAny (model prog w) A (pyIter xv) K E s₁) E s := by
  refine call_range_1 (wpAny_pyIter_range (IsRange.new ..) (small_one (by omega) (by omega) (by omega) (by omega)) ?_)
  have hz : ∀ o, (s.heap.push o).objs.size = s.heap.objs.size + 1 := fun o => Heap.size_push ..
  show K (.ref (s.heap.push _).objs.size) _
  rw [hz]
  refine h _ _ (fun _ _ e => Heap.get?_push_of_some _ (Heap.get?_push_of_some _ e)) (by rw [Heap.size_push, Heap.size_push]) ?_
  have e1 : (0 + ((0 : Nat) : Int) * 1) = 0 := by simp
  have e2 : ((b.toNat : Int) - ((0 : Nat) : Int)) = Builtin.Range.rangeSize 0 b 1 := by rw [rangeSize_one]; split <;> omega
  rw [e1, e2, ← hz { cls := .type "range", data := .fields #[.int 0 s.toks, .int b u, .int 1 (s.toks + 1)] }]
  exact Heap.get?_push_size _ rfl
theorem rng2 {a b : Int} {t u : Tok} {K : Value → Shared → Prop} (ha : -(2 ^ 62) ≤ a) (ha' : a < 2 ^ 62) (h1 : -(2 ^ 62) ≤ b) (h2 : b < 2 ^ 62)
    (h : ∀ h' tk, Ext s.heap h' → h'.objs.size = s.heap.objs.size + 2 → IsRangeIter h' (s.heap.objs.size + 1) (a + ((0 : Nat) : Int) * 1) (((b - a).toNat : Int) - ((0 : Nat) : Int)) 1 → K (.ref (s.heap.objs.size + 1)) { s with heap := h', toks := tk }) :
    wpAny (model prog w) A (call (.type "range") [.int a t, .int b u]) (fun xv s₁ => wpAny (model prog w) A (pyIter xv) K E s₁) E s := by
  refine call_range_2 (wpAny_pyIter_range (IsRange.new ..) (small_one (by omega) (by omega) (by omega) (by omega)) ?_)
  have hz : ∀ o, (s.heap.push o).objs.size = s.heap.objs.size + 1 := fun o => Heap.size_push ..
  show K (.ref (s.heap.push _).objs.size) _
  rw [hz]
  refine h _ _ (fun _ _ e => Heap.get?_push_of_some _ (Heap.get?_push_of_some _ e)) (by rw [Heap.size_push, Heap.size_push]) ?_
  have e1 : (a + ((0 : Nat) : Int) * 1) = a := by simp
  have e2 : (((b - a).toNat : Int) - ((0 : Nat) : Int)) = Builtin.Range.rangeSize a b 1 := by rw [rangeSize_one]; split <;> omega
  rw [e1, e2, ← hz { cls := .type "range", data := .fields #[.int a t, .int b u, .int 1 s.toks] }]
  exact Heap.get?_push_size _ rfl
theorem rangeSize_down (a b : Int) : Builtin.Range.rangeSize a b (-1) = ((a - b).toNat : Int) := by
  unfold Builtin.Range.rangeSize
  rw [if_neg (by omega)]
  simp only [Int.neg_neg, Int.ediv_one]
  split <;> omega
theorem rng3 {a b : Int} {t u v : Tok} {K : Value → Shared → Prop} (ha : -(2 ^ 61) ≤ a) (ha' : a < 2 ^ 61) (h1 : -(2 ^ 61) ≤ b) (h2 : b < 2 ^ 61)
    (h : ∀ h' tk, Ext s.heap h' → h'.objs.size = s.heap.objs.size + 2 → IsRangeIter h' (s.heap.objs.size + 1) (a + ((0 : Nat) : Int) * (-1)) (((a - b).toNat : Int) - ((0 : Nat) : Int)) (-1) → K (.ref (s.heap.objs.size + 1)) { s with heap := h', toks := tk }) :
    wpAny (model prog w) A (call (.type "range") [.int a t, .int b u, .int (-1) v]) (fun xv s₁ => wpAny (model prog w) A (pyIter xv) K E s₁) E s := by
  have hsm : Builtin.Range.small a b (-1) = true := by
    unfold Builtin.Range.small
    rw [rangeSize_down]
    have hn : ((a - b).toNat : Int) < 2 ^ 62 := by omega
    have hn0 : (0 : Int) ≤ ((a - b).toNat : Int) := by omega
    have hn1 : ((a - b).toNat : Int) = 0 ∨ ((a - b).toNat : Int) = a - b := by omega
    generalize ((a - b).toNat : Int) = n at hn hn0 hn1 ⊢
    simp only [Builtin.Range.rangeFitsLong, Bool.and_eq_true, Bool.or_eq_true, decide_eq_true_eq, beq_iff_eq, show ¬ ((-1 : Int) > 0) by decide, if_false]
    omega
  refine call_range_3 (by decide) (wpAny_pyIter_range (IsRange.new ..) hsm ?_) (Or.inl (PyProof.noPylong_small (by omega)))
  have hz : ∀ o, (s.heap.push o).objs.size = s.heap.objs.size + 1 := fun o => Heap.size_push ..
  show K (.ref (s.heap.push _).objs.size) _
  rw [hz]
  refine h _ _ (fun _ _ e => Heap.get?_push_of_some _ (Heap.get?_push_of_some _ e)) (by rw [Heap.size_push, Heap.size_push]) ?_
  have e1 : (a + ((0 : Nat) : Int) * (-1)) = a := by simp
  have e2 : (((a - b).toNat : Int) - ((0 : Nat) : Int)) = Builtin.Range.rangeSize a b (-1) := by rw [rangeSize_down]; simp
  rw [e1, e2, ← hz { cls := .type "range", data := .fields #[.int a t, .int b u, .int (-1) v] }]
  exact Heap.get?_push_size _ rfl
theorem typ3 {env : Env} {x : Str} {p pos : Pos} {T : String} {e1 e2 e3 : Expr} {Q : Value → Shared → Prop} (he1 : starEach [e1, e2, e3] env = [(false, eval e1 env), (false, eval e2 env), (false, eval e3 env)])
    (h : wpAny (model prog w) A (eval (.Name x p) env) (fun f s₁ => f = .type T ∧ wpAny (model prog w) A (eval e1 env) (fun v s₂ => wpAny (model prog w) A (eval e2 env) (fun v2 s₃ => wpAny (model prog w) A (eval e3 env) (fun v3 s₄ => wpAny (model prog w) A (call (.type T) [v, v2, v3]) Q E s₄) E s₃) E s₂) E s₁) E s) :
    wpAny (model prog w) A (eval (.Call (.Name x p) [e1, e2, e3] [] pos) env) Q E s := by
  refine wpAny_Call_NameR (wpAny_mono h (fun f s₁ h₁ => ?_) fun _ _ x => x)
  obtain ⟨rfl, h₁⟩ := h₁
  rw [he1]
  show wpAny _ _ (callWith pos _ _ [(false, eval e1 env), (false, eval e2 env), (false, eval e3 env)] []) _ _ _
  refine PySem.callWith_type rfl (evalArgs_plain (spliced_cons (wpAny_mono h₁ (fun v1 s₂ h₂ => spliced_cons (wpAny_mono h₂ (fun v2 s₃ h₃ => spliced_cons (wpAny_mono h₃ (fun v3 s₄ h₄ => spliced_nil ?_) fun _ _ x => x)) fun _ _ x => x)) fun _ _ x => x)))
  exact h₄
end

/-- the list's items are these ints -/
def Ints (items : Array Value) (l : List Int) : Prop := items.size = l.length ∧ ∀ (i : Nat) (n : Int), l[i]? = some n → ∃ t, items[i]? = some (.int n t)
theorem Ints.set {items : Array Value} {l : List Int} (x : Ints items l) (i : Nat) (n : Int) (t : Tok) : Ints (items.setIfInBounds i (.int n t)) (l.set i n) := by
  refine ⟨by simp [x.1], fun j k hj => ?_⟩
  rw [List.getElem?_set] at hj
  rw [Array.getElem?_setIfInBounds]
  by_cases e : i = j
  · subst e
    by_cases hb : i < l.length
    · simp [hb] at hj; subst hj
      exact ⟨t, by simp [x.1, hb]⟩
    · simp [hb] at hj
  · simp only [e, if_false] at hj ⊢
    exact x.2 j k hj

/-- Gauss's product -/
def sub1 (p k : Nat) (r : List Int) (j : Nat) : List Int := r.set (r.length - 1 - j) (r.getD (r.length - 1 - j) 0 - r.getD (r.length - 1 - j - p - k) 0)
def add1 (k : Nat) (r : List Int) (j : Nat) : List Int := r.set (k + j) (r.getD (k + j) 0 + r.getD j 0)
def gstep (p : Nat) (r : List Int) (i : Nat) : List Int := (List.range (r.length - (i + 1))).foldl (add1 (i + 1)) ((List.range (r.length - (p + (i + 1)))).foldl (sub1 p (i + 1)) r)
def gauss (d p : Nat) : List Int := (List.range d).foldl (gstep p) (1 :: List.replicate (d * p) 0)
end Mine

/-! part B7 -/
namespace Mine
open PySem PySem.Calls PyProof.Rows
set_option maxRecDepth 100000

/-- what stays through _law_gauss' loops -/
structure GI (L D : Addr) (d p : Nat) (hs h : Heap) (m : Str → Option Value) (l : List Int) : Prop where
  ns : h.Ns L m
  row : m "row" = some (.ref D)
  pl : ∃ t, m "plain" = some (.int p t)
  dt : ∃ t, m "dotted" = some (.int d t)
  kp : Kp [L, D] hs h
  li : ∃ items, h.IsList D items ∧ Ints items l

section
variable {prog : Program} {w : World} {A : Around} {E : Value → Shared → Prop} {s : Shared} {mg mb : Str → Option Value} {L D : Addr} {d p : Nat} {hs h h' : Heap} {m m' : Str → Option Value} {l : List Int}

theorem GI.rebase (x : GI L D d p hs h m l) : GI L D d p h h m l := ⟨x.ns, x.row, x.pl, x.dt, fun _ _ _ e => e, x.li⟩
theorem GI.grow (x : GI L D d p hs h m l) (k : Ext h h') : GI L D d p hs h' m l :=
  ⟨x.ns.keeps k, x.row, x.pl, x.dt, fun b o hb e => k b o (x.kp b o hb e), let ⟨it, a, b⟩ := x.li; ⟨it, a.at fun o e => k _ o e, b⟩⟩
theorem GI.off (x : GI L D d p hs h m l) {I : Addr} (k : ∀ b o, b ∉ [I] → h.get? b = some o → h'.get? b = some o) (hL : I ≠ L) (hD : I ≠ D) (hn : hs.objs.size ≤ I) : GI L D d p hs h' m l :=
  ⟨x.ns.at fun o e => k L o (by simpa using Ne.symm hL) e, x.row, x.pl, x.dt, fun b o hb e => k b o (by simpa using Nat.ne_of_lt (Nat.lt_of_lt_of_le (Heap.lt_size e) hn)) (x.kp b o hb e),
    let ⟨it, a, b⟩ := x.li; ⟨it, a.at fun o e => k D o (by simpa using Ne.symm hD) e, b⟩⟩
theorem GI.set (x : GI L D d p hs h m l) (hDL : D ≠ L) (hsb : Heap.SameBut L h h') (ns' : h'.Ns L m') (e1 : m' "row" = m "row") (e2 : m' "plain" = m "plain") (e3 : m' "dotted" = m "dotted") : GI L D d p hs h' m' l :=
  ⟨ns', e1.trans x.row, let ⟨t, e⟩ := x.pl; ⟨t, e2.trans e⟩, let ⟨t, e⟩ := x.dt; ⟨t, e3.trans e⟩, fun b o hb e => hsb.extBut b o (fun e' => hb (by simp [e'])) (x.kp b o hb e), let ⟨it, a, b⟩ := x.li; ⟨it, a.at fun o e => hsb.extBut D o hDL e, b⟩⟩
theorem GI.item (x : GI L D d p hs h m l) (hDL : D ≠ L) (hsb : Heap.SameBut D h h') {items l'} (hl : h'.IsList D items) (hi : Ints items l') : GI L D d p hs h' m l' :=
  ⟨x.ns.at fun o e => hsb.extBut L o (Ne.symm hDL) e, x.row, x.pl, x.dt, fun b o hb e => hsb.extBut b o (fun e' => hb (by simp [e'])) (x.kp b o hb e), items, hl, hi⟩

theorem GI.base (y : GI L D d p h h' m' l) (k : Kp [L, D] hs h) : GI L D d p hs h' m' l := ⟨y.ns, y.row, y.pl, y.dt, fun b o hb e => y.kp b o hb (k b o hb e), y.li⟩

theorem sub1_len (p k : Nat) (r : List Int) (j : Nat) : (sub1 p k r j).length = r.length := by simp [sub1]
theorem add1_len (k : Nat) (r : List Int) (j : Nat) : (add1 k r j).length = r.length := by simp [add1]
theorem fold_keep {f : List Int → Nat → List Int} (hf : ∀ r j, (f r j).length = r.length) : ∀ (js : List Nat) (r : List Int), (js.foldl f r).length = r.length
  | [], r => rfl
  | j :: js, r => by rw [List.foldl_cons, fold_keep hf js, hf]
theorem range_snoc {f : List Int → Nat → List Int} (i : Nat) (r : List Int) : (List.range (i + 1)).foldl f r = f ((List.range i).foldl f r) i := by
  rw [List.range_succ, List.foldl_append]; rfl
theorem Ints.get {items : Array Value} {l : List Int} (x : Ints items l) {i : Nat} (hi : i < l.length) : ∃ t, items[i]? = some (.int (l.getD i 0) t) := by
  refine x.2 i _ ?_
  rw [List.getD_eq_getElem?_getD, List.getElem?_eq_getElem hi]; rfl

theorem fold_rep (v : Value) : ∀ (n : Nat) (acc : Array Value), List.foldl (fun x1 x2 => x1 ++ x2) acc (List.replicate n #[v]) = acc ++ Array.replicate n v
  | 0, acc => by simp
  | n + 1, acc => by
    rw [List.replicate_succ, List.foldl_cons, fold_rep v n]
    apply Array.ext'
    simp [List.replicate_succ]
theorem ints_start (n : Nat) (t1 t0 : Tok) : Ints (#[.int 1 t1] ++ List.foldl (fun x1 x2 => x1 ++ x2) #[] (List.replicate n #[.int 0 t0])) (1 :: List.replicate n 0) := by
  rw [fold_rep]
  refine ⟨by simp; omega, fun i k hk => ?_⟩
  cases i with
  | zero => simp at hk; subst hk; exact ⟨t1, by simp [Array.getElem?_append]⟩
  | succ i =>
    simp only [List.getElem?_cons_succ, List.getElem?_replicate] at hk
    split at hk
    · rename_i hi
      cases hk
      exact ⟨t0, by simp [Array.getElem?_append, hi]⟩
    · cases hk

theorem newList_ {vs : List Value} {Q : Value → Shared → Prop} (h : Q (.ref s.heap.objs.size) { s with heap := s.heap.push { cls := .type "list", data := .seq vs.toArray } }) (hsz : vs.length ≤ sizeLine := by size_fits) :
    wpAny (model prog w) A (newList vs) Q E s := wpAny_newObj_type h (by show vs.toArray.size ≤ sizeLine; rw [List.size_toArray]; exact hsz)

set_option maxHeartbeats 8000000 in
theorem gauss_body {Q : Flow → Shared → Prop} {a : Addr} {cd : Value} {h₀ : Heap} (G : Gd mg mb h₀) (hh : A.handled = none) (F0 : Fr h₀ L s.heap m) {t u : Tok} (m1 : m "dotted" = some (.int d t)) (m2 : m "plain" = some (.int p u)) (hd : d ≤ 1000) (hp : p ≤ 1000)
    (h : ∀ D h' tk, (∃ items, h'.IsList D items ∧ Ints items (gauss d p)) → Ext h₀ h' → Q (.ret (.ref D)) { s with heap := h', toks := tk }) :
    wpAny (model prog w) A (execs (bodyAt 13) (envAt 13 L a cd)) Q (fun _ _ => False) s := by
  have hsl : sizeLine = 2 ^ 24 := rfl
  have hdp : d * p ≤ 1000 * 1000 := Nat.mul_le_mul hd hp
  have hcast : ((d : Int) * (p : Int)).toNat = d * p := by rw [← Int.natCast_mul]; rfl
  -- row = [1] + [0] * (dotted * plain)
  with_unfolding_all refine wpAny_execs_cons (wpAny_Assign_Name (wpAny_BinOp (List_ (args_cons (wpAny_Constant_int (args_nil (newList_N F0 News.nil (fun h1 F1 N1 => ?_) ?_)))))))
  rotate_left
  · show 1 ≤ sizeLine
    decide
  have G1 : Gd mg mb h1 := G.keeps F1.keep
  refine anyTok (s := s) (h := h1) fun tk => ?_
  with_unfolding_all refine wpAny_BinOp (List_ (args_cons (wpAny_Constant_int (args_nil (newList_N F1 N1 (fun h2 F2 N2 => ?_) ?_)))))
  rotate_left
  · show 1 ≤ sizeLine
    decide
  refine anyTok (s := s) (h := h2) fun tk => ?_
  with_unfolding_all refine wpAny_BinOp (loc F2.ns m1 (loc F2.ns m2 (P.mul_int ?_)))
  refine mul_list (items := #[.int 0 _]) (k := 0) F2 N2 (N2 _ (.head _)).1 ?_ ?_ ?_ (fun h3 F3 N3 => ?_)
  · omega
  · have : ((d : Int) * (p : Int)) = ((d * p : Nat) : Int) := by simp
    omega
  · rw [hcast]; simp; omega
  generalize hD : h3.objs.size = D
  have hLD : L < D := hD ▸ F3.ns.lt
  have hDL : D ≠ L := Nat.ne_of_gt hLD
  rw [hcast] at N3
  refine anyTok (s := s) (h := h3) fun tk => ?_
  refine P.add_list (N3 _ (.tail _ (.tail _ (.head _)))).1 (N3 _ (.head _)).1 ?_ ?_
  rotate_left
  · show _ + (List.foldl (fun x1 x2 => x1 ++ x2) #[] (List.replicate (d * p) #[Value.int 0 _])).size ≤ _
    rw [fold_rep]
    simp
    omega
  with_unfolding_all refine stN (F3.push _) (News.push F3 N3 _) fun h5 F5 N5 => ?_
  have G5 : Gd mg mb h5 := G.keeps F5.keep
  have X5 : GI L D d p h5 h5 _ (1 :: List.replicate (d * p) 0) := ⟨F5.ns, by rw [← hD]; rfl, ⟨u, upd_ne (by decide) m2⟩, ⟨t, upd_ne (by decide) m1⟩, fun _ _ _ e => e, _, ⟨_, hD ▸ (N5 _ (.head _)).1, rfl, _, rfl⟩, ints_start (d * p) _ _⟩
  have up : ∀ {h m l}, GI L D d p h5 h m l → Ext h₀ h := fun x b o e => x.kp b o (by
    have := Nat.lt_of_lt_of_le (Heap.lt_size e) F5.above
    simp only [List.mem_cons, List.not_mem_nil, or_false, not_or]
    exact ⟨Nat.ne_of_lt this, Nat.ne_of_lt (Nat.lt_trans this hLD)⟩) (F5.keep b o e)
  have hD5 : D < h5.objs.size := Heap.lt_size (hD ▸ (N5 _ (.head _)).1)
  clear N5 N3 N2 N1 F1 F2 F3
  refine anyTok (s := s) (h := h5) fun tk => ?_
  -- for k in range(1, dotted + 1)
  refine wpAny_execs_cons ?_
  obtain ⟨td, hdt⟩ := X5.dt
  with_unfolding_all refine for_gen (s := { s with heap := h5, toks := _ }) (env := envAt 13 L a cd) (A := A) (typ2 rfl (blt G5 (by simp) rfl ⟨rfl, wpAny_Constant_int (wpAny_BinOp (loc X5.ns hdt (wpAny_Constant_int (P.add_int (rng2 (by decide) (by decide) (by omega) (by omega) fun h6 tk6 k6 hz6 hI6 => ?_)))))⟩)) (fun _ => rfl)
  replace k6 : Ext h5 h6 := k6
  replace hI6 : IsRangeIter h6 (h5.objs.size + 1) (1 + ((0 : Nat) : Int) * 1) ((((d : Int) + 1 - 1).toNat : Int) - ((0 : Nat) : Int)) 1 := hI6
  rw [show ((d : Int) + 1 - 1).toNat = d by omega] at hI6
  refine over_range (fun i s' => ∃ h tk m', s' = { s with heap := h, toks := tk } ∧ GI L D d p h5 h m' ((List.range i).foldl (gstep p) (1 :: List.replicate (d * p) 0))) hh hI6 ⟨_, _, _, rfl, X5.grow k6⟩ ?_ ?_
  · rintro i t0 s0 s1 hi - ⟨oI, hoI⟩ ⟨hx, tkx, mx, rfl, X⟩ ⟨hy, tky, rfl, hk⟩
    generalize hI : h5.objs.size + 1 = I at *
    have hDI : D < I := hI ▸ Nat.lt_succ_of_lt hD5
    have neL : I ≠ L := Nat.ne_of_gt (Nat.lt_trans hLD hDI)
    have neD : I ≠ D := Nat.ne_of_gt hDI
    have Y := X.off hk neL neD (hI ▸ Nat.le_succ _)
    have hY5 := Y.kp
    have hlen : ((List.range i).foldl (gstep p) (1 :: List.replicate (d * p) 0)).length = d * p + 1 := by
      rw [fold_keep (f := gstep p) fun r j => by rw [gstep, fold_keep (add1_len _), fold_keep (sub1_len _ _)]]
      simp
    have hst : (List.range (i + 1)).foldl (gstep p) (1 :: List.replicate (d * p) 0) = gstep p ((List.range i).foldl (gstep p) (1 :: List.replicate (d * p) 0)) i := range_snoc ..
    rw [hst]
    generalize (List.range i).foldl (gstep p) (1 :: List.replicate (d * p) 0) = r at *
    -- k
    with_unfolding_all refine wpAny_storeName_local rfl Y.ns (fun h7 hn7 hs7 => ?_) rfl
    have Y7 := (Y.rebase.set hDL hs7 hn7 (upd_ne (by decide) rfl) (upd_ne (by decide) rfl) (upd_ne (by decide) rfl))
    refine anyTok (s := s) (h := h7) fun tk => ?_
    have upY : ∀ {h m l}, GI L D d p hy h m l → Ext h₀ h := fun x => up (x.base hY5)
    have G7 : Gd mg mb h7 := G.keeps (upY Y7)
    obtain ⟨it7, L7, i7⟩ := Y7.li
    obtain ⟨tp, hpl⟩ := Y7.pl
    have hsz7 : it7.size = d * p + 1 := i7.1.trans hlen
    have hi' : i < d := hi
    have z7 : h7.objs.size = hy.objs.size := hs7.1
    -- the loop downwards
    refine wpAny_execs_cons ?_
    with_unfolding_all refine for_gen (s := { s with heap := h7, toks := _ }) (env := envAt 13 L a cd) (A := A) (typ3 rfl (blt G7 (by simp) rfl ⟨rfl, wpAny_BinOp (fun1 rfl (blt G7 (by simp) rfl ⟨rfl, loc Y7.ns Y7.row (call_len_list L7 ?_ (wpAny_Constant_int (P.sub_int (wpAny_BinOp (wpAny_BinOp (loc Y7.ns hpl (loc Y7.ns rfl (P.add_int (wpAny_Constant_int (P.sub_int (wpAny_UnaryOp (wpAny_Constant_int (P.neg_int (rng3 ?_ ?_ ?_ ?_ fun h8 tk8 k8 hz8 hI8 => ?_))))))))))))))⟩))⟩)) (fun _ => rfl)
    · show ((it7.size : Nat) : Int) < 2 ^ 63
      omega
    · show -(2 ^ 61) ≤ ((it7.size : Nat) : Int) - 1
      omega
    · show ((it7.size : Nat) : Int) - 1 < 2 ^ 61
      omega
    · show -(2 ^ 61) ≤ (p : Int) + (1 + (i : Int) * 1) - 1
      omega
    · show (p : Int) + (1 + (i : Int) * 1) - 1 < 2 ^ 61
      omega
    replace k8 : Ext h7 h8 := k8
    replace hI8 : IsRangeIter h8 (h7.objs.size + 1) ((((it7.size : Nat) : Int) - 1) + ((0 : Nat) : Int) * (-1)) ((((((it7.size : Nat) : Int) - 1) - ((p : Int) + (1 + (i : Int) * 1) - 1)).toNat : Int) - ((0 : Nat) : Int)) (-1) := hI8
    rw [show ((((it7.size : Nat) : Int) - 1) - ((p : Int) + (1 + (i : Int) * 1) - 1)).toNat = r.length - (p + (i + 1)) by omega] at hI8
    refine over_range (fun j s' => ∃ h tk m', s' = { s with heap := h, toks := tk } ∧ GI L D d p hy h m' ((List.range j).foldl (sub1 p (i + 1)) r) ∧ ∃ t, m' "k" = some (.int (1 + (i : Int) * 1) t)) hh hI8 ⟨_, _, _, rfl, Y7.grow k8, ⟨_, rfl⟩⟩ ?_ ?_
    · rintro j t8 s0 s1 hj - ⟨oJ, hoJ⟩ ⟨hx, tkx, mx, rfl, X8, ⟨tk8', hk8⟩⟩ ⟨h9, tk9, rfl, hk9⟩
      have neL8 : h7.objs.size + 1 ≠ L := Nat.ne_of_gt (Nat.lt_succ_of_lt Y7.ns.lt)
      have neD8 : h7.objs.size + 1 ≠ D := Nat.ne_of_gt (Nat.lt_succ_of_lt (let ⟨_, ho, _⟩ := L7; Heap.lt_size ho))
      have Y9 := X8.off hk9 neL8 neD8 (by rw [z7]; exact Nat.le_succ _)
      rw [range_snoc]
      have hlen9 : ((List.range j).foldl (sub1 p (i + 1)) r).length = r.length := fold_keep (sub1_len _ _) ..
      generalize (List.range j).foldl (sub1 p (i + 1)) r = q at *
      with_unfolding_all refine wpAny_storeName_local rfl Y9.ns (fun h10 hn10 hs10 => ?_) rfl
      have Y10 := Y9.set hDL hs10 hn10 (upd_ne (by decide) rfl) (upd_ne (by decide) rfl) (upd_ne (by decide) rfl)
      refine anyTok (s := s) (h := h10) fun tk => ?_
      obtain ⟨it, Li, ii⟩ := Y10.li
      obtain ⟨tp', hpl'⟩ := Y10.pl
      have hq : q.length = d * p + 1 := hlen9.trans hlen
      have hjj : j + (p + (i + 1)) < q.length := by omega
      obtain ⟨ta, ea⟩ := ii.get (i := q.length - 1 - j) (by omega)
      obtain ⟨tb, eb⟩ := ii.get (i := q.length - 1 - j - p - (i + 1)) (by omega)
      have e1 : (((it7.size : Nat) : Int) - 1 + (j : Int) * (-1)).toNat = q.length - 1 - j := by omega
      have e2 : (((it7.size : Nat) : Int) - 1 + (j : Int) * (-1) - (p : Int) - (1 + (i : Int) * 1)).toNat = q.length - 1 - j - p - (i + 1) := by omega
      have hk10 : (fun z => if z = ("s" : Str) then some (Value.int (((it7.size : Nat) : Int) - 1 + (j : Int) * (-1)) t8) else mx z) "k" = some (.int (1 + (i : Int) * 1) tk8') := upd_ne (by decide) hk8
      with_unfolding_all refine wpAny_execs_cons (wpAny_AugAssign_Subscript (loc Y10.ns Y10.row (loc Y10.ns rfl (wpAny_getItem_list Li ?_ ?_ (by rw [e1]; exact ea) (Subscript_ (loc Y10.ns Y10.row (wpAny_BinOp (wpAny_BinOp (loc Y10.ns rfl (loc Y10.ns hpl' (P.sub_int (loc Y10.ns hk10 (P.sub_int (item_list Li ?_ ?_ (by rw [e2]; exact eb) (P.isub_int (wpAny_setItem_list Li ?_ ?_ ?_ (fun h11 hl11 hs11 => wpAny_execs_nil ?_)))))))))))))))))
      · show (0 : Int) ≤ ((it7.size : Nat) : Int) - 1 + (j : Int) * (-1)
        omega
      · show ((it7.size : Nat) : Int) - 1 + (j : Int) * (-1) < 2 ^ 63
        omega
      · show (0 : Int) ≤ ((it7.size : Nat) : Int) - 1 + (j : Int) * (-1) - (p : Int) - (1 + (i : Int) * 1)
        omega
      · show ((it7.size : Nat) : Int) - 1 + (j : Int) * (-1) - (p : Int) - (1 + (i : Int) * 1) < 2 ^ 63
        omega
      · show (0 : Int) ≤ ((it7.size : Nat) : Int) - 1 + (j : Int) * (-1)
        omega
      · show ((it7.size : Nat) : Int) - 1 + (j : Int) * (-1) < 2 ^ 63
        omega
      · show ((it7.size : Nat) : Int) - 1 + (j : Int) * (-1) < it.size
        have := ii.1
        omega
      · replace hs11 : Heap.SameBut D h10 h11 := hs11
        have W := Y10.item hDL hs11 hl11 (ii.set _ _ _)
        rw [e1] at W
        exact ⟨⟨h11, _, _, rfl, W, ⟨_, hk10⟩⟩, fun o ho => hs11.extBut _ o neD8 (hs10.extBut _ o neL8 ho)⟩
    · rintro s0 s1 - ⟨hx, tkx, mx, rfl, X8, ⟨tk8', hk8⟩⟩ ⟨h9, tk9, rfl, hk9⟩
      have neL8 : h7.objs.size + 1 ≠ L := Nat.ne_of_gt (Nat.lt_succ_of_lt Y7.ns.lt)
      have neD8 : h7.objs.size + 1 ≠ D := Nat.ne_of_gt (Nat.lt_succ_of_lt (let ⟨_, ho, _⟩ := L7; Heap.lt_size ho))
      have Y9 := X8.off hk9 neL8 neD8 (by rw [z7]; exact Nat.le_succ _)
      have hlen9 : ((List.range (r.length - (p + (i + 1)))).foldl (sub1 p (i + 1)) r).length = r.length := fold_keep (sub1_len _ _) ..
      have hgs : gstep p r i = (List.range (r.length - (i + 1))).foldl (add1 (i + 1)) ((List.range (r.length - (p + (i + 1)))).foldl (sub1 p (i + 1)) r) := rfl
      rw [hgs]
      generalize (List.range (r.length - (p + (i + 1)))).foldl (sub1 p (i + 1)) r = r2 at *
      have h9y : Kp [L, D] hy h9 := Y9.kp
      have G9 : Gd mg mb h9 := G.keeps (upY Y9)
      obtain ⟨it9, L9, i9⟩ := Y9.li
      have hsz9 : it9.size = d * p + 1 := i9.1.trans (hlen9.trans hlen)
      refine anyTok (s := s) (h := h9) fun tk => ?_
      refine wpAny_execs_cons ?_
      with_unfolding_all refine for_gen (s := { s with heap := h9, toks := _ }) (env := envAt 13 L a cd) (A := A) (typ2 rfl (blt G9 (by simp) rfl ⟨rfl, loc Y9.ns hk8 (fun1 rfl (blt G9 (by simp) rfl ⟨rfl, loc Y9.ns Y9.row (call_len_list L9 ?_ (rng2 ?_ ?_ ?_ ?_ fun h12 tk12 k12 hz12 hI12 => ?_))⟩))⟩)) (fun _ => rfl)
      · show ((it9.size : Nat) : Int) < 2 ^ 63
        omega
      · omega
      · omega
      · omega
      · omega
      replace k12 : Ext h9 h12 := k12
      replace hI12 : IsRangeIter h12 (h9.objs.size + 1) ((1 + (i : Int) * 1) + ((0 : Nat) : Int) * 1) (((((it9.size : Nat) : Int) - (1 + (i : Int) * 1)).toNat : Int) - ((0 : Nat) : Int)) 1 := hI12
      rw [show (((it9.size : Nat) : Int) - (1 + (i : Int) * 1)).toNat = r.length - (i + 1) by omega] at hI12
      refine over_range (fun j s' => ∃ h tk m', s' = { s with heap := h, toks := tk } ∧ GI L D d p h9 h m' ((List.range j).foldl (add1 (i + 1)) r2) ∧ ∃ t, m' "k" = some (.int (1 + (i : Int) * 1) t)) hh hI12 ⟨_, _, _, rfl, Y9.rebase.grow k12, ⟨_, hk8⟩⟩ ?_ ?_
      · rintro j t12 s0 s1 hj - ⟨oJ, hoJ⟩ ⟨hx, tkx, mx2, rfl, X12, ⟨tk12', hk12⟩⟩ ⟨h13, tk13, rfl, hk13⟩
        have neL9 : h9.objs.size + 1 ≠ L := Nat.ne_of_gt (Nat.lt_succ_of_lt Y9.ns.lt)
        have neD9 : h9.objs.size + 1 ≠ D := Nat.ne_of_gt (Nat.lt_succ_of_lt (let ⟨_, ho, _⟩ := L9; Heap.lt_size ho))
        have Y13 := X12.off hk13 neL9 neD9 (Nat.le_succ _)
        rw [range_snoc]
        have hlen13 : ((List.range j).foldl (add1 (i + 1)) r2).length = r2.length := fold_keep (add1_len _) ..
        generalize (List.range j).foldl (add1 (i + 1)) r2 = q at *
        with_unfolding_all refine wpAny_storeName_local rfl Y13.ns (fun h14 hn14 hs14 => ?_) rfl
        have Y14 := Y13.set hDL hs14 hn14 (upd_ne (by decide) rfl) (upd_ne (by decide) rfl) (upd_ne (by decide) rfl)
        refine anyTok (s := s) (h := h14) fun tk => ?_
        obtain ⟨it, Li, ii⟩ := Y14.li
        have hq : q.length = d * p + 1 := hlen13.trans (hlen9.trans hlen)
        have hjj : j + (i + 1) < q.length := by omega
        obtain ⟨ta, ea⟩ := ii.get (i := i + 1 + j) (by omega)
        obtain ⟨tb, eb⟩ := ii.get (i := j) (by omega)
        have e1 : (1 + (i : Int) * 1 + (j : Int) * 1).toNat = i + 1 + j := by omega
        have e2 : (1 + (i : Int) * 1 + (j : Int) * 1 - (1 + (i : Int) * 1)).toNat = j := by omega
        have hk14 : (fun z => if z = ("s" : Str) then some (Value.int (1 + (i : Int) * 1 + (j : Int) * 1) t12) else mx2 z) "k" = some (.int (1 + (i : Int) * 1) tk12') := upd_ne (by decide) hk12
        with_unfolding_all refine wpAny_execs_cons (wpAny_AugAssign_Subscript (loc Y14.ns Y14.row (loc Y14.ns rfl (wpAny_getItem_list Li ?_ ?_ (by rw [e1]; exact ea) (Subscript_ (loc Y14.ns Y14.row (wpAny_BinOp (loc Y14.ns rfl (loc Y14.ns hk14 (P.sub_int (item_list Li ?_ ?_ (by rw [e2]; exact eb) (P.iadd_int (wpAny_setItem_list Li ?_ ?_ ?_ (fun h15 hl15 hs15 => wpAny_execs_nil ?_))))))))))))))
        · show (0 : Int) ≤ 1 + (i : Int) * 1 + (j : Int) * 1
          omega
        · show 1 + (i : Int) * 1 + (j : Int) * 1 < 2 ^ 63
          omega
        · show (0 : Int) ≤ 1 + (i : Int) * 1 + (j : Int) * 1 - (1 + (i : Int) * 1)
          omega
        · show 1 + (i : Int) * 1 + (j : Int) * 1 - (1 + (i : Int) * 1) < 2 ^ 63
          omega
        · show (0 : Int) ≤ 1 + (i : Int) * 1 + (j : Int) * 1
          omega
        · show 1 + (i : Int) * 1 + (j : Int) * 1 < 2 ^ 63
          omega
        · show 1 + (i : Int) * 1 + (j : Int) * 1 < it.size
          have := ii.1
          omega
        · replace hs15 : Heap.SameBut D h14 h15 := hs15
          have W := Y14.item hDL hs15 hl15 (ii.set _ _ _)
          rw [e1] at W
          exact ⟨⟨h15, _, _, rfl, W, ⟨_, hk14⟩⟩, fun o ho => hs15.extBut _ o neD9 (hs14.extBut _ o neL9 ho)⟩
      · rintro s0 s1 - ⟨hx, tkx, mx2, rfl, X12, ⟨tk12', hk12⟩⟩ ⟨h13, tk13, rfl, hk13⟩
        have neL9 : h9.objs.size + 1 ≠ L := Nat.ne_of_gt (Nat.lt_succ_of_lt Y9.ns.lt)
        have neD9 : h9.objs.size + 1 ≠ D := Nat.ne_of_gt (Nat.lt_succ_of_lt (let ⟨_, ho, _⟩ := L9; Heap.lt_size ho))
        have Y13 := (X12.off hk13 neL9 neD9 (Nat.le_succ _)).base h9y
        exact wpAny_execs_nil ⟨⟨h13, _, _, rfl, Y13.base hY5⟩, fun o ho => Y13.kp I o (by simp [neL, neD]) ho⟩
  · rintro s0 s1 - ⟨hx, tkx, mx, rfl, X⟩ ⟨hy, tky, rfl, hk⟩
    have Y := X.off hk (Nat.ne_of_gt (Nat.lt_succ_of_lt (Nat.lt_trans hLD hD5))) (Nat.ne_of_gt (Nat.lt_succ_of_lt hD5)) (Nat.le_succ _)
    with_unfolding_all refine wpAny_execs_cons (wpAny_Return_some (loc Y.ns Y.row ?_))
    exact h D hy _ Y.li (up Y)
end
end Mine

/-! part B8 -/
namespace Mine
open PySem PySem.Calls PyProof.Rows
set_option maxRecDepth 100000
section
variable {prog : Program} {w : World} {A : Around} {E : Value → Shared → Prop} {s : Shared} {mg mb : Str → Option Value}

theorem gauss_K {Q : Value → Shared → Prop} {d p : Nat} {t u : Tok} (G : Gd mg mb s.heap) (hh : A.handled = none) (hdp : A.depth < recursionLimit) (hd : d ≤ 1000) (hp : p ≤ 1000) {a : Addr} (ha : mg "_law_gauss" = some (.ref a))
    (h : ∀ D h' tk, (∃ items, h'.IsList D items ∧ Ints items (gauss d p)) → Ext s.heap h' → Q (.ref D) { s with heap := h', toks := tk }) : wpAny (model prog w) A (call (.ref a) [.int d t, .int p u]) Q E s := by
  obtain ⟨a', o, pm, cd, doc, h1, h2, h3, h4⟩ := G.fn 13 (by simp)
  obtain rfl : a' = a := by
    have : mg (nameAt 13) = some (.ref a) := ha
    rw [h1] at this; injection this with e; injection e
  refine wpAny_call (call_pos_ret hdp h2 h3 G.lim h4 rfl (locs rfl) (fun h₁ Fm => ?_) rfl rfl rfl (by decide))
  exact gauss_body (s := { s with heap := h₁, toks := _ }) G hh Fm rfl rfl hd hp fun D h' tk x k => h D h' tk x k
end
end Mine

/-! part B9 -/
namespace Mine
open PySem PySem.Calls PyProof.Rows
set_option maxRecDepth 100000

abbrev RN (Q : Shared → Prop) : Result → Shared → Prop := fun r s' => match r with | .ok _ => Q s' | .error _ => False
/-- the tests of a comprehension -/
abbrev tests (ifs : List Expr) (cenv : Env) : Sem Bool := forIn ifs true fun c r => if r = true then do let ok ← isTrue c cenv (eval c cenv); pure (ForInStep.yield ok) else pure (ForInStep.yield r)

section
variable {prog : Program} {w : World} {A : Around} {s : Shared} {env : Env}

/-- the loop of a list comprehension with one for -/
theorem comp_loop {elt iter : Expr} {x : Str} {px pos : Pos} {ifs : List Expr} {scope : Scope} {I D : Addr} {cenv : Env} {fp wr : List Addr} {n : Nat} {P : Nat → Value → Prop} {St : Nat → Heap → Prop} (Inv : Nat → Shared → Prop) {R : Shared → Prop}
    (W : Walks prog w A I fp wr n P St) (st : St 0 s.heap) (start : Inv 0 s)
    (turn : ∀ i v s₀ s₁, i < n → P i v → St i s₀.heap → St (i + 1) s₁.heap → Inv i s₀ → Off wr s₀ s₁ → wpAny (model prog w) A (storeName cenv x v) (fun _ s₂ =>
      wpAny (model prog w) A (tests ifs cenv) (fun ok s₃ =>
        if ok = true then wpAny (model prog w) A (eval elt cenv) (fun y s₄ => wpAny (model prog w) A (call (.builtin "list.append") [.ref D, y]) (fun _ s₅ => Inv (i + 1) s₅ ∧ ∀ b ∈ fp, ∀ o, s₁.heap.get? b = some o → s₅.heap.get? b = some o) NR s₄) NR s₃
        else Inv (i + 1) s₃ ∧ ∀ b ∈ fp, ∀ o, s₁.heap.get? b = some o → s₃.heap.get? b = some o) NR s₂) NR s₁)
    (done : ∀ s₀ s₁, St n s₀.heap → Inv n s₀ → Off wr s₀ s₁ → R s₁) :
    codeAny (model prog w) A (.compLoop (.ListComp elt [⟨.Name x px, iter, ifs, 0⟩] scope pos) 0 (.ref I) (.ref D) cenv) (RN R) s := by
  refine codeAny_compLoop_tests (fun k s' => ∃ i, k = n + 1 - i ∧ i ≤ n ∧ St i s'.heap ∧ Inv i s') ?_ (n + 1) ⟨0, rfl, Nat.zero_le _, st, start⟩
  rintro k s' ⟨i, rfl, hi, hst, hI⟩
  by_cases hlt : i < n
  · refine W.item i s' _ _ hlt hst fun v h' tk hP hst' hk => ?_
    have go : ∀ s₃ : Shared, (Inv (i + 1) s₃ ∧ ∀ b ∈ fp, ∀ o, h'.get? b = some o → s₃.heap.get? b = some o) → ∃ m, m < n + 1 - i ∧ ∃ j, m = n + 1 - j ∧ j ≤ n ∧ St j s₃.heap ∧ Inv j s₃ :=
      fun s₃ x => ⟨n + 1 - (i + 1), by omega, i + 1, rfl, hlt, W.frame _ _ _ hst' x.2, x.1⟩
    refine wpAny_assign_Name (wpAny_noRaise (wpAny_mono (turn i v s' _ hlt hP hst hst' hI ⟨h', tk, rfl, hk⟩) (fun _ s₂ h₂ => wpAny_noRaise (wpAny_mono h₂ (fun ok s₃ h₃ => ?_) fun _ _ x => x)) fun _ _ x => x))
    cases ok with
    | false => exact go _ h₃
    | true => exact wpAny_noRaise (wpAny_mono h₃ (fun y s₄ h₄ => wpAny_noRaise (wpAny_mono h₄ (fun _ s₅ h₅ => go _ h₅) fun _ _ x => x)) fun _ _ x => x)
  · have e : i = n := by omega
    subst e
    exact W.done s' _ _ hst fun h' tk hk => done s' _ hst hI ⟨h', tk, rfl, hk⟩

/-- the loop of a dict comprehension over a list of pairs -/
theorem compD_loop {kx vx iter : Expr} {xa xb : Str} {pa pb pt pos : Pos} {kt : Nat} {scope : Scope} {I D l : Addr} {cenv : Env} {items : Array Value} (Inv : Nat → Shared → Prop) {R : Shared → Prop}
    (hh : A.handled = none) (hne : l ≠ I) (hit : s.heap.IsListIter I l 0) (hl : s.heap.IsList l items) (start : Inv 0 s)
    (turn : ∀ i v s₀ s₁, items[i]? = some v → Inv i s₀ → Off [I] s₀ s₁ → s₁.heap.IsListIter I l (i + 1) → s₁.heap.IsList l items → (∃ T, v = .ref T) ∧ wpAny (model prog w) A (assign (.Tuple [.Name xa pa, .Name xb pb] kt pt) cenv v) (fun _ s₂ =>
      wpAny (model prog w) A (eval kx cenv) (fun kv s₃ => wpAny (model prog w) A (eval vx cenv) (fun vv s₄ => wpAny (model prog w) A (dictSet D kv vv) (fun _ s₅ => Inv (i + 1) s₅ ∧ s₅.heap.IsListIter I l (i + 1) ∧ s₅.heap.IsList l items) NR s₄) NR s₃) NR s₂) NR s₁)
    (done : ∀ s₀ s₁, Inv items.size s₀ → Off [I] s₀ s₁ → R s₁) :
    codeAny (model prog w) A (.compLoop (.DictComp kx vx [⟨.Tuple [.Name xa pa, .Name xb pb] kt pt, iter, [], 0⟩] scope pos) 0 (.ref I) (.ref D) cenv) (RN R) s := by
  have W := Walks.list (prog := prog) (w := w) hh I l hne items
  refine codeAny_loop rfl (fun k s' => ∃ i, k = items.size + 1 - i ∧ i ≤ items.size ∧ (s'.heap.IsListIter I l i ∧ s'.heap.IsList l items) ∧ Inv i s') (fun k s' hI => ?_) (items.size + 1) ⟨0, rfl, Nat.zero_le _, ⟨hit, hl⟩, start⟩
  show wpAny _ A ((compTurn (.DictComp kx vx [⟨.Tuple [.Name xa pa, .Name xb pb] kt pt, iter, [], 0⟩] scope pos) 0 (.ref I) (.ref D) cenv).onRaise (fun x => do noteFrame x cenv; theTreesLotGoes x)) _ _ s'
  refine wpAny_noted ?_
  rw [compTurn_dict]
  obtain ⟨i, rfl, hi, hst, hI⟩ := hI
  refine wpAny_bind (wpAny_standAt (wpAny_bind ?_))
  by_cases hlt : i < items.size
  · refine W.item i s' _ _ hlt hst fun v h' tk hP hst' hk => ?_
    obtain ⟨⟨T, rfl⟩, ht⟩ := turn i v s' _ hP hI ⟨h', tk, rfl, hk⟩ hst'.1 hst'.2
    refine wpAny_bind (wpAny_letOwnedTupleGo_listiter hst'.1 ?_)
    refine wpAny_bind (wpAny_noRaise (wpAny_mono ht (fun _ s₂ h₂ => wpAny_bind (wpAny_pure ?_)) fun _ _ x => x))
    exact wpAny_bind (wpAny_bind (wpAny_noRaise (wpAny_mono h₂ (fun kv s₃ h₃ => wpAny_bind (wpAny_holding (wpAny_noRaise (wpAny_mono h₃ (fun vv s₄ h₄ => wpAny_bind (wpAny_standAt (wpAny_holding (wpAny_noRaise (wpAny_mono h₄ (fun _ s₅ h₅ => wpAny_pure ⟨rfl, items.size + 1 - (i + 1), by omega, i + 1, rfl, hlt, h₅.2, h₅.1⟩) fun _ _ x => x))))) fun _ _ x => x)))) fun _ _ x => x)))
  · have e : i = items.size := by omega
    subst e
    exact W.done s' _ _ hst fun h' tk hk => wpAny_pure (done s' _ hI ⟨h', tk, rfl, hk⟩)

/-- how a list comprehension's loop begins -/
structure Begun (prog : Program) (w : World) (A : Around) (env : Env) (scope : Scope) (cl : List (Str × Addr)) (e : Expr) (it : Value) (R : Addr → Addr → Shared → Prop) (acc : Heap → Addr → Prop) (s₂ : Shared) : Prop where
  self : ∀ (s' : Shared) (Q : Value → Shared → Prop) (E : Value → Shared → Prop), Ext s₂.heap s'.heap → Q it s' → wpAny (model prog w) A (pyIter it) Q E s'
  loop : ∀ D C h3 tk, D = s₂.heap.objs.size → C = s₂.heap.objs.size + 1 → Ext s₂.heap h3 → acc h3 D → (∃ m, h3.Ns C m) → h3.objs.size = C + 1 → codeAny (model prog w) A (.compLoop e 0 it (.ref D) (compEnvC scope cl C env)) (RN (R D C)) { s₂ with heap := h3, toks := tk }

theorem comp_begin {elt target iter : Expr} {ifs : List Expr} {rest : List Comprehension} {scope : Scope} {cl : List (Str × Addr)} {pos : Pos} {it : Value} {R : Addr → Addr → Shared → Prop} {R' : Value → Addr → Result → Shared → Prop} {E : Value → Shared → Prop}
    (hcell : ∀ y ∈ scope.names, y.2 ≠ .cell) (hkind : scope.kind = .function) (hR : ∀ D C f s', R D C s' → R' (.ref D) C (.ok f) s')
    (B : Begun prog w A env scope cl (.ListComp elt (⟨target, iter, ifs, 0⟩ :: rest) scope pos) it R (fun h D => h.PlainList D #[]) s) :
    wpAny (model prog w) A (newList []) (fun acc s₃ => wpAny (model prog w) A (newFunctionEnv scope env.globals cl [] env.qual none .none (some env)) (fun cenv s₄ =>
      codeAny (model prog w) A (.compStart (.ListComp elt (⟨target, iter, ifs, 0⟩ :: rest) scope pos) 0 it acc { cenv with scope := relabel scope env }) (R' acc cenv.locals) s₄) E s₃) E s := by
  refine wpAny_newObj_type (wpAny_newFunctionEnv hcell (by intro y hy; simp at hy) (fun h₁ hns₁ hsb₁ => ?_) hkind)
  dsimp only at hns₁ hsb₁ ⊢
  generalize hH2 : s.heap.push { cls := .type "list", dict := none, data := .seq ([] : List Value).toArray } = H2 at hns₁ hsb₁ ⊢
  have hC : H2.objs.size = s.heap.objs.size + 1 := by rw [← hH2, Heap.size_push]
  have old : Ext s.heap h₁ := fun b o e => hsb₁.extBut b o (by rw [hC]; exact Nat.ne_of_lt (Nat.lt_succ_of_lt (Heap.lt_size e))) (Heap.get?_push_of_some _ (hH2 ▸ Heap.get?_push_of_some _ e))
  have hacc : h₁.PlainList s.heap.objs.size #[] := ⟨0, hsb₁.extBut _ _ (by rw [hC]; exact Nat.ne_of_lt (Nat.lt_succ_self _)) (Heap.get?_push_of_some _ (hH2 ▸ Heap.get?_push_size _ rfl))⟩
  have hz : h₁.objs.size = H2.objs.size + 1 := by rw [hsb₁.1, Heap.size_push]
  have loop := codeAny_mono (B.loop s.heap.objs.size H2.objs.size h₁ (s.toks + ([] : List (Str × Value)).length) rfl hC old hacc ⟨_, hns₁⟩ hz) (R' := R' (.ref s.heap.objs.size) H2.objs.size) fun r s' hr => by
    cases r with
    | ok f => exact hR _ _ f s' hr
    | error e => exact hr.elim
  exact codeAny_compStart_list loop (B.self _ _ _ old loop)

theorem compD_begin {kx vx target iter : Expr} {ifs : List Expr} {rest : List Comprehension} {scope : Scope} {cl : List (Str × Addr)} {pos : Pos} {it : Value} {R : Addr → Addr → Shared → Prop} {R' : Value → Addr → Result → Shared → Prop} {E : Value → Shared → Prop}
    (hcell : ∀ y ∈ scope.names, y.2 ≠ .cell) (hkind : scope.kind = .function) (hR : ∀ D C f s', R D C s' → R' (.ref D) C (.ok f) s')
    (B : Begun prog w A env scope cl (.DictComp kx vx (⟨target, iter, ifs, 0⟩ :: rest) scope pos) it R (fun h D => h.DictOf (intKind prog w) D []) s) :
    wpAny (model prog w) A newDict (fun acc s₃ => wpAny (model prog w) A (newFunctionEnv scope env.globals cl [] env.qual none .none (some env)) (fun cenv s₄ =>
      codeAny (model prog w) A (.compStart (.DictComp kx vx (⟨target, iter, ifs, 0⟩ :: rest) scope pos) 0 it acc { cenv with scope := relabel scope env }) (R' acc cenv.locals) s₄) E s₃) E s := by
  refine wpAny_newObj_type (wpAny_newFunctionEnv hcell (by intro y hy; simp at hy) (fun h₁ hns₁ hsb₁ => ?_) hkind)
  dsimp only at hns₁ hsb₁ ⊢
  generalize hH2 : s.heap.push { cls := .type "dict", data := .dict #[] } = H2 at hns₁ hsb₁ ⊢
  have hC : H2.objs.size = s.heap.objs.size + 1 := by rw [← hH2, Heap.size_push]
  have old : Ext s.heap h₁ := fun b o e => hsb₁.extBut b o (by rw [hC]; exact Nat.ne_of_lt (Nat.lt_succ_of_lt (Heap.lt_size e))) (Heap.get?_push_of_some _ (hH2 ▸ Heap.get?_push_of_some _ e))
  have hacc : h₁.DictOf (intKind prog w) s.heap.objs.size [] := by
    have : (s.heap.push { cls := .type "dict", data := .dict #[] }).DictOf (intKind prog w) s.heap.objs.size [] := Heap.DictOf.new _
    rw [hH2] at this
    exact this.at fun o e => hsb₁.extBut _ _ (by rw [hC]; exact Nat.ne_of_lt (Nat.lt_succ_self _)) (Heap.get?_push_of_some _ e)
  have hz : h₁.objs.size = H2.objs.size + 1 := by rw [hsb₁.1, Heap.size_push]
  have loop := codeAny_mono (B.loop s.heap.objs.size H2.objs.size h₁ (s.toks + ([] : List (Str × Value)).length) rfl hC old hacc ⟨_, hns₁⟩ hz) (R' := R' (.ref s.heap.objs.size) H2.objs.size) fun r s' hr => by
    cases r with
    | ok f => exact hR _ _ f s' hr
    | error e => exact hr.elim
  exact codeAny_compStart_dict loop (B.self _ _ _ old loop)

/-- what a comprehension's end must tell -/
abbrev EndC (Q : Value → Shared → Prop) (D C : Addr) (s' : Shared) : Prop := ∃ m, s'.heap.Ns C m ∧ ∀ h', Heap.SameBut C s'.heap h' → Q (.ref D) { s' with heap := h' }

theorem comp_plain {elt target iter : Expr} {ifs : List Expr} {rest : List Comprehension} {scope : Scope} {cl : List (Str × Addr)} {pos : Pos} {Q : Value → Shared → Prop} {E : Value → Shared → Prop}
    (hclos : closureFor scope env = pure cl) (hcell : ∀ y ∈ scope.names, y.2 ≠ .cell) (hkind : scope.kind = .function) (hnames : ∀ y ∈ scope.names, y.2 = .local → scope.names.lookup y.1 = some .local)
    (h : wpAny (model prog w) A (eval iter env) (fun xv s₁ => wpAny (model prog w) A (pyIter xv) (fun it s₂ => Begun prog w A env scope cl (.ListComp elt (⟨target, iter, ifs, 0⟩ :: rest) scope pos) it (EndC Q) (fun h D => h.PlainList D #[]) s₂) E s₁) E s)
    (hs : ∀ x, foldedSetIterable iter env x = pure x := by intro _; rfl) :
    wpAny (model prog w) A (eval (.ListComp elt (⟨target, iter, ifs, 0⟩ :: rest) scope pos) env) Q E s := by
  rw [eval_ListComp]
  refine wpAny_comprehension_free (use := none) rfl hs hclos hkind hnames (wpAny_mono h (fun xv s₁ h₁ => wpAny_mono h₁ (fun it s₂ h₂ => ?_) fun _ _ e => e) fun _ _ e => e)
  exact comp_begin (R' := fun acc C => compPost (model prog w) A E none Q acc C) hcell hkind (fun D C f s' hr => hr) h₂

theorem compD_plain {kx vx target iter : Expr} {ifs : List Expr} {rest : List Comprehension} {scope : Scope} {cl : List (Str × Addr)} {pos : Pos} {Q : Value → Shared → Prop} {E : Value → Shared → Prop}
    (hclos : closureFor scope env = pure cl) (hcell : ∀ y ∈ scope.names, y.2 ≠ .cell) (hkind : scope.kind = .function) (hnames : ∀ y ∈ scope.names, y.2 = .local → scope.names.lookup y.1 = some .local)
    (h : wpAny (model prog w) A (eval iter env) (fun xv s₁ => wpAny (model prog w) A (pyIter xv) (fun it s₂ => Begun prog w A env scope cl (.DictComp kx vx (⟨target, iter, ifs, 0⟩ :: rest) scope pos) it (EndC Q) (fun h D => h.DictOf (intKind prog w) D []) s₂) E s₁) E s)
    (hs : ∀ x, foldedSetIterable iter env x = pure x := by intro _; rfl) :
    wpAny (model prog w) A (eval (.DictComp kx vx (⟨target, iter, ifs, 0⟩ :: rest) scope pos) env) Q E s := by
  show wpAny _ A (comprehension (.DictComp kx vx (⟨target, iter, ifs, 0⟩ :: rest) scope pos) scope env (firstIterPos (⟨target, iter, ifs, 0⟩ :: rest) pos) newDict (firstAsync (⟨target, iter, ifs, 0⟩ :: rest)) (firstIter (⟨target, iter, ifs, 0⟩ :: rest) env)) _ _ s
  refine wpAny_comprehension_free (use := none) rfl hs hclos hkind hnames (wpAny_mono h (fun xv s₁ h₁ => wpAny_mono h₁ (fun it s₂ h₂ => ?_) fun _ _ e => e) fun _ _ e => e)
  exact compD_begin (R' := fun acc C => compPost (model prog w) A E none Q acc C) hcell hkind (fun D C f s' hr => hr) h₂

theorem comp_used {elt target iter : Expr} {y : Str} {py spos : Pos} {ifs : List Expr} {rest : List Comprehension} {scope : Scope} {cl : List (Str × Addr)} {pos : Pos} {Q : Flow → Shared → Prop} {E : Value → Shared → Prop}
    (hsw : swapsWith (.ListComp elt (⟨target, iter, ifs, 0⟩ :: rest) scope pos) (some (.Name y py)) spos.line env = pure true)
    (hclos : closureFor scope env = pure cl) (hcell : ∀ y ∈ scope.names, y.2 ≠ .cell) (hkind : scope.kind = .function) (hnames : ∀ y ∈ scope.names, y.2 = .local → scope.names.lookup y.1 = some .local)
    (h : wpAny (model prog w) A (eval iter env) (fun xv s₁ => wpAny (model prog w) A (pyIter xv) (fun it s₂ => Begun prog w A env scope cl (.ListComp elt (⟨target, iter, ifs, 0⟩ :: rest) scope pos) it
      (fun D C s' => wpAny (model prog w) A (storeName env y (.ref D)) (fun _ s'' => ∃ m, s''.heap.Ns C m ∧ ∀ h', Heap.SameBut C s''.heap h' → Q .next { s'' with heap := h' }) E s') (fun h D => h.PlainList D #[]) s₂) E s₁) E s)
    (hs : ∀ x, foldedSetIterable iter env x = pure x := by intro _; rfl) :
    wpAny (model prog w) A (exec (.Assign [.Name y py] (.ListComp elt (⟨target, iter, ifs, 0⟩ :: rest) scope pos) spos) env) Q E s := by
  rw [exec_Assign_Name_used _ _ _ _ hsw]
  refine wpAny_bind (wpAny_standAt (wpAny_bind ?_))
  show wpAny _ A (do let _ ← comprehension (.ListComp elt (⟨target, iter, ifs, 0⟩ :: rest) scope pos) scope env _ (newList []) false (eval iter env) (some (assign (.Name y py) env))) _ _ s
  refine wpAny_bind (wpAny_mono (wpAny_comprehension_free (use := some (assign (.Name y py) env)) (Q := fun _ s' => Q .next s') rfl hs hclos hkind hnames
    (wpAny_mono h (fun xv s₁ h₁ => wpAny_mono h₁ (fun it s₂ h₂ => ?_) fun _ _ e => e) fun _ _ e => e)) (fun _ s' hq => wpAny_pure (wpAny_pure hq)) fun _ _ e => e)
  exact comp_begin (R' := fun acc C => compPost (model prog w) A E (some (assign (.Name y py) env)) (fun _ s' => Q .next s') acc C) hcell hkind (fun D C f s' hr => wpAny_assign_Name hr) h₂

theorem compTurn_two0 (elt t1 i1 t2 i2 : Expr) (scope : Scope) (pos : Pos) (it acc : Value) (env : Env) :
    compTurn (.ListComp elt [⟨t1, i1, [], 0⟩, ⟨t2, i2, [], 0⟩] scope pos) 0 it acc env = (do
      standAt i1.pos
      match ← pyNext it with
      | none => pure (.done .next)
      | some v =>
        letOwnedTupleGo t1 it v
        assign t1 env v
        let x ← eval i2 env
        standAt i2.pos
        let x ← foldedSetIterable i2 env x
        let _ ← runOwn (.compStart (.ListComp elt [⟨t1, i1, [], 0⟩, ⟨t2, i2, [], 0⟩] scope pos) 1 (← holding [x] (pyIter x)) acc env) env
        again (.compLoop (.ListComp elt [⟨t1, i1, [], 0⟩, ⟨t2, i2, [], 0⟩] scope pos) 0 it acc env)) := by rfl
theorem compTurn_two1 (elt t1 i1 t2 i2 : Expr) (scope : Scope) (pos : Pos) (it acc : Value) (env : Env) :
    compTurn (.ListComp elt [⟨t1, i1, [], 0⟩, ⟨t2, i2, [], 0⟩] scope pos) 1 it acc env = (do
      standAt i2.pos
      match ← pyNext it with
      | none => pure (.done .next)
      | some v =>
        letOwnedTupleGo t2 it v
        assign t2 env v
        (do let _ ← call (.builtin "list.append") [acc, ← eval elt env])
        again (.compLoop (.ListComp elt [⟨t1, i1, [], 0⟩, ⟨t2, i2, [], 0⟩] scope pos) 1 it acc env)) := by rfl
end
end Mine

/-! part B10 -/
namespace Mine
open PySem PySem.Calls PyProof.Rows
set_option maxRecDepth 100000
section
variable {prog : Program} {w : World} {A : Around} {s : Shared} {env : Env}

theorem compStart_two1 {elt t1 i1 t2 i2 : Expr} {scope : Scope} {pos : Pos} {it acc : Value} {R : Result → Shared → Prop}
    (h0 : codeAny (model prog w) A (.compLoop (.ListComp elt [⟨t1, i1, [], 0⟩, ⟨t2, i2, [], 0⟩] scope pos) 1 it acc env) R s)
    (h : wpAny (model prog w) A (pyIter it) (fun it' s' => codeAny (model prog w) A (.compLoop (.ListComp elt [⟨t1, i1, [], 0⟩, ⟨t2, i2, [], 0⟩] scope pos) 1 it' acc env) R s')
      (notedBy (model prog w) A env fun x s' => R (.error x) s') s) :
    codeAny (model prog w) A (.compStart (.ListComp elt [⟨t1, i1, [], 0⟩, ⟨t2, i2, [], 0⟩] scope pos) 1 it acc env) R s := by
  refine codeAny_of_tree ?_
  show wpAny _ _ ((compStart (.ListComp elt [⟨t1, i1, [], 0⟩, ⟨t2, i2, [], 0⟩] scope pos) 1 it acc env).onRaise (fun x => do noteFrame x env; standAt theWindowsPlace)) _ _ s
  refine wpAny_notedAt ?_
  unfold compStart
  show wpAny _ _ (ask >>= _) _ _ s
  refine wpAny_bind (wpAny_askSetting (wpAny_ite ?_))
  split
  · first
      | exact wpAny_bind (wpAny_pure (wpAny_pure (And.intro rfl h0)))
      | exact wpAny_pure (And.intro rfl h0)
  · first
      | exact wpAny_bind (wpAny_rule (wpAny_bind (wpAny_standAt (wpAny_bind (wpAny_mono h (fun it' s' h' => wpAny_pure (And.intro rfl h')) fun _ _ x => x)))))
      | (refine wpAny_bind (wpAny_rule ?_); show wpAny _ _ (standAt i2.pos >>= _) _ _ s; exact wpAny_bind (wpAny_standAt (wpAny_bind (wpAny_mono h (fun it' s' h' => wpAny_pure (And.intro rfl h')) fun _ _ x => x))))

/-- the inner loop of a comprehension with two fors -/
theorem comp_in {elt t1 i1 i2 : Expr} {x : Str} {px pos : Pos} {scope : Scope} {I D : Addr} {cenv : Env} {fp wr : List Addr} {n : Nat} {P : Nat → Value → Prop} {St : Nat → Heap → Prop} (Inv : Nat → Shared → Prop) {R : Shared → Prop}
    (W : Walks prog w A I fp wr n P St) (st : St 0 s.heap) (start : Inv 0 s)
    (turn : ∀ i v s₀ s₁, i < n → P i v → St i s₀.heap → St (i + 1) s₁.heap → Inv i s₀ → Off wr s₀ s₁ → wpAny (model prog w) A (storeName cenv x v) (fun _ s₃ =>
        wpAny (model prog w) A (eval elt cenv) (fun y s₄ => wpAny (model prog w) A (call (.builtin "list.append") [.ref D, y]) (fun _ s₅ => Inv (i + 1) s₅ ∧ ∀ b ∈ fp, ∀ o, s₁.heap.get? b = some o → s₅.heap.get? b = some o) NR s₄) NR s₃) NR s₁)
    (done : ∀ s₀ s₁, St n s₀.heap → Inv n s₀ → Off wr s₀ s₁ → R s₁) :
    codeAny (model prog w) A (.compLoop (.ListComp elt [⟨t1, i1, [], 0⟩, ⟨.Name x px, i2, [], 0⟩] scope pos) 1 (.ref I) (.ref D) cenv) (RN R) s := by
  refine codeAny_loop rfl (fun k s' => ∃ i, k = n + 1 - i ∧ i ≤ n ∧ St i s'.heap ∧ Inv i s') (fun k s' hI => ?_) (n + 1) ⟨0, rfl, Nat.zero_le _, st, start⟩
  show wpAny _ A ((compTurn (.ListComp elt [⟨t1, i1, [], 0⟩, ⟨.Name x px, i2, [], 0⟩] scope pos) 1 (.ref I) (.ref D) cenv).onRaise (fun x => do noteFrame x cenv; theTreesLotGoes x)) _ _ s'
  refine wpAny_noted ?_
  rw [compTurn_two1]
  obtain ⟨i, rfl, hi, hst, hI⟩ := hI
  refine wpAny_bind (wpAny_standAt (wpAny_bind ?_))
  by_cases hlt : i < n
  · refine W.item i s' _ _ hlt hst fun v h' tk hP hst' hk => ?_
    have go : ∀ s₃ : Shared, (Inv (i + 1) s₃ ∧ ∀ b ∈ fp, ∀ o, h'.get? b = some o → s₃.heap.get? b = some o) → ∃ m, m < n + 1 - i ∧ ∃ j, m = n + 1 - j ∧ j ≤ n ∧ St j s₃.heap ∧ Inv j s₃ :=
      fun s₃ x => ⟨n + 1 - (i + 1), by omega, i + 1, rfl, hlt, W.frame _ _ _ hst' x.2, x.1⟩
    refine wpAny_bind (wpAny_pure (wpAny_bind (wpAny_assign_Name (wpAny_noRaise (wpAny_mono (turn i v s' _ hlt hP hst hst' hI ⟨h', tk, rfl, hk⟩) (fun _ s₂ h₂ => ?_) fun _ _ x => x)))))
    exact wpAny_bind (wpAny_bind (wpAny_noRaise (wpAny_mono h₂ (fun y s₄ h₄ => wpAny_bind (wpAny_noRaise (wpAny_mono h₄ (fun _ s₅ h₅ => wpAny_pure (wpAny_pure ⟨rfl, go _ h₅⟩)) fun _ _ x => x))) fun _ _ x => x)))
  · have e : i = n := by omega
    subst e
    exact W.done s' _ _ hst fun h' tk hk => wpAny_pure (done s' _ hst hI ⟨h', tk, rfl, hk⟩)

/-- the outer loop -/
theorem comp_out {elt i1 t2 i2 : Expr} {x : Str} {px pos : Pos} {scope : Scope} {I D : Addr} {cenv : Env} {fp wr : List Addr} {n : Nat} {P : Nat → Value → Prop} {St : Nat → Heap → Prop} (Inv : Nat → Shared → Prop) {R : Shared → Prop}
    (W : Walks prog w A I fp wr n P St) (st : St 0 s.heap) (start : Inv 0 s) (hs : ∀ x, foldedSetIterable i2 cenv x = pure x)
    (turn : ∀ i v s₀ s₁, i < n → P i v → St i s₀.heap → St (i + 1) s₁.heap → Inv i s₀ → Off wr s₀ s₁ → wpAny (model prog w) A (storeName cenv x v) (fun _ s₃ =>
        wpAny (model prog w) A (eval i2 cenv) (fun xv s₄ => wpAny (model prog w) A (pyIter xv) (fun it s₅ => (∀ (Q : Value → Shared → Prop) (E : Value → Shared → Prop), Q it s₅ → wpAny (model prog w) A (pyIter it) Q E s₅) ∧
          codeAny (model prog w) A (.compLoop (.ListComp elt [⟨.Name x px, i1, [], 0⟩, ⟨t2, i2, [], 0⟩] scope pos) 1 it (.ref D) cenv) (RN fun s₆ => Inv (i + 1) s₆ ∧ ∀ b ∈ fp, ∀ o, s₁.heap.get? b = some o → s₆.heap.get? b = some o) s₅) NR s₄) NR s₃) NR s₁)
    (done : ∀ s₀ s₁, St n s₀.heap → Inv n s₀ → Off wr s₀ s₁ → R s₁) :
    codeAny (model prog w) A (.compLoop (.ListComp elt [⟨.Name x px, i1, [], 0⟩, ⟨t2, i2, [], 0⟩] scope pos) 0 (.ref I) (.ref D) cenv) (RN R) s := by
  refine codeAny_loop rfl (fun k s' => ∃ i, k = n + 1 - i ∧ i ≤ n ∧ St i s'.heap ∧ Inv i s') (fun k s' hI => ?_) (n + 1) ⟨0, rfl, Nat.zero_le _, st, start⟩
  show wpAny _ A ((compTurn (.ListComp elt [⟨.Name x px, i1, [], 0⟩, ⟨t2, i2, [], 0⟩] scope pos) 0 (.ref I) (.ref D) cenv).onRaise (fun x => do noteFrame x cenv; theTreesLotGoes x)) _ _ s'
  refine wpAny_noted ?_
  rw [compTurn_two0]
  obtain ⟨i, rfl, hi, hst, hI⟩ := hI
  refine wpAny_bind (wpAny_standAt (wpAny_bind ?_))
  by_cases hlt : i < n
  · refine W.item i s' _ _ hlt hst fun v h' tk hP hst' hk => ?_
    have go : ∀ s₃ : Shared, (Inv (i + 1) s₃ ∧ ∀ b ∈ fp, ∀ o, h'.get? b = some o → s₃.heap.get? b = some o) → ∃ m, m < n + 1 - i ∧ ∃ j, m = n + 1 - j ∧ j ≤ n ∧ St j s₃.heap ∧ Inv j s₃ :=
      fun s₃ x => ⟨n + 1 - (i + 1), by omega, i + 1, rfl, hlt, W.frame _ _ _ hst' x.2, x.1⟩
    refine wpAny_bind (wpAny_pure (wpAny_bind (wpAny_assign_Name (wpAny_noRaise (wpAny_mono (turn i v s' _ hlt hP hst hst' hI ⟨h', tk, rfl, hk⟩) (fun _ s₂ h₂ => ?_) fun _ _ x => x)))))
    refine wpAny_bind (wpAny_noRaise (wpAny_mono h₂ (fun xv s₃ h₃ => wpAny_bind (wpAny_standAt (wpAny_bind (wpAny_of_eq (hs xv) (wpAny_bind (wpAny_holding (wpAny_noRaise (wpAny_mono h₃ (fun it s₄ h₄ => ?_) fun _ _ x => x)))))))) fun _ _ x => x))
    have lp := codeAny_mono h₄.2 (R' := fun r s' => match r with | .ok f => wpAny (model prog w) A (again (.compLoop (.ListComp elt [⟨.Name x px, i1, [], 0⟩, ⟨t2, i2, [], 0⟩] scope pos) 0 (.ref I) (.ref D) cenv)) (fun fin s' => match fin with
        | .done f => RN R (.ok f) s' | .again c' => c' = _ ∧ ∃ m, m < n + 1 - i ∧ ∃ j, m = n + 1 - j ∧ j ≤ n ∧ St j s'.heap ∧ Inv j s') (notedBy (model prog w) A cenv fun e s' => RN R (.error e) s') s' | .error e => cameBackBy (model prog w) A cenv (notedBy (model prog w) A cenv fun e s' => RN R (.error e) s') e s') fun r s' hr => by
      cases r with
      | ok f => exact wpAny_pure ⟨rfl, go _ hr⟩
      | error e => exact hr.elim
    exact wpAny_bind (wpAny_runOwn (compStart_two1 lp (h₄.1 _ _ lp)))
  · have e : i = n := by omega
    subst e
    exact W.done s' _ _ hst fun h' tk hk => wpAny_pure (done s' _ hst hI ⟨h', tk, rfl, hk⟩)
end
end Mine

/-! part B11 -/
namespace Mine
open PySem PySem.Calls PyProof.Rows
set_option maxRecDepth 100000
section
variable {prog : Program} {w : World} {A : Around} {E : Value → Shared → Prop} {s : Shared} {env : Env} {mg mb : Str → Option Value}

/-- one comprehension that makes a value of each item: how it begins -/
theorem comp_core {elt iter : Expr} {x : Str} {px pos : Pos} {scope : Scope} {cl : List (Str × Addr)} {I : Addr} {fp wr : List Addr} {n : Nat} {P : Nat → Value → Prop} {St : Nat → Heap → Prop} {R' : Addr → Addr → Shared → Prop} (R : Heap → Nat → Value → Prop)
    (W : Walks prog w A I fp wr n P St) (st : St 0 s.heap) (hfp : ∀ b ∈ fp, b < s.heap.objs.size)
    (mono : ∀ i h h' y, R h i y → (∀ b o, s.heap.objs.size + 2 ≤ b → h.get? b = some o → h'.get? b = some o) → R h' i y)
    (turn : ∀ C i v h tk m, i < n → P i v → h.Ns C m → m x = some v → Kp wr s.heap h → s.heap.objs.size + 2 ≤ h.objs.size → wpAny (model prog w) A (eval elt (compEnvC scope cl C env)) (fun y s₃ => ∃ h' tk', s₃ = { s with heap := h', toks := tk' } ∧ Ext h h' ∧ R h' i y) NR { s with heap := h, toks := tk })
    (done : ∀ D C h' tk m' ys, D = s.heap.objs.size → C = s.heap.objs.size + 1 → h'.Ns C m' → h'.PlainList D ys → ys.size = n → (∀ i y, ys[i]? = some y → R h' i y) → Kp wr s.heap h' → R' D C { s with heap := h', toks := tk })
    (hk : scope.kind = .function) (hx : ∀ C, (compEnvC scope cl C env).kindOf x = some .local) (hn : n ≤ sizeLine) :
    Begun prog w A env scope cl (.ListComp elt [⟨.Name x px, iter, [], 0⟩] scope pos) (.ref I) R' (fun h D => h.PlainList D #[]) s where
  self := fun s' Q E k q => W.self 0 s' Q E (W.frame _ _ _ st fun b _ o e => k b o e) q
  loop := fun D C h3 tk hD hC k hacc hns hsz => by
    obtain ⟨m0, hns⟩ := hns
    have hDC : D ≠ C := by rw [hD, hC]; exact Nat.ne_of_lt (Nat.lt_succ_self _)
    have hDf : ∀ b ∈ fp, b ≠ D := fun b hb => by rw [hD]; exact Nat.ne_of_lt (hfp b hb)
    have hCf : ∀ b ∈ fp, b ≠ C := fun b hb => by rw [hC]; exact Nat.ne_of_lt (Nat.lt_succ_of_lt (hfp b hb))
    have hDw : D ∉ wr := fun h => hDf D (W.sub _ h) rfl
    have hCw : C ∉ wr := fun h => hCf C (W.sub _ h) rfl
    have big : ∀ b, s.heap.objs.size + 2 ≤ b → b ≠ D ∧ b ≠ C ∧ b ∉ wr := fun b hb => ⟨by rw [hD]; exact Nat.ne_of_gt (Nat.lt_of_lt_of_le (by omega) hb), by rw [hC]; exact Nat.ne_of_gt (Nat.lt_of_lt_of_le (by omega) hb), fun h => Nat.lt_irrefl _ (Nat.lt_of_lt_of_le (Nat.lt_of_lt_of_le (hfp b (W.sub _ h)) (Nat.le_add_right _ 2)) hb)⟩
    have low : ∀ b o, s.heap.get? b = some o → b ≠ D ∧ b ≠ C := fun b o e => ⟨by rw [hD]; exact Nat.ne_of_lt (Heap.lt_size e), by rw [hC]; exact Nat.ne_of_lt (Nat.lt_succ_of_lt (Heap.lt_size e))⟩
    refine comp_loop (fun i s' => ∃ h tk m ys, s' = { s with heap := h, toks := tk } ∧ h.Ns C m ∧ h.PlainList D ys ∧ ys.size = i ∧ (∀ j y, ys[j]? = some y → R h j y) ∧ Kp wr s.heap h) W (W.frame _ _ _ st fun b _ o e => k b o e)
      ⟨h3, tk, m0, #[], rfl, hns, hacc, rfl, by simp, fun b o _ e => k b o e⟩ ?_ ?_
    · rintro i v s0 s1 hi hP hst0 hst1 ⟨h, tk, m, ys, rfl, hns, hli, hsz, hR, hkp⟩ ⟨h1, tk1, rfl, hk1⟩
      have hns1 : h1.Ns C m := hns.at fun o e => hk1 C o hCw e
      refine wpAny_storeName_local (hx C) hns1 (fun h2 hn2 hs2 => ?_) (by show (scope.kind == .class || (scope.kind == .module && C != env.globals)) = false; rw [hk]; rfl)
      refine wpAny_pure ?_
      rw [if_pos rfl]
      have kp2 : Kp wr s.heap h2 := fun b o hb e => hs2.extBut b o (low b o e).2 (hk1 b o hb (hkp b o hb e))
      have li2 : h2.PlainList D ys := hli.at fun o e => hs2.extBut D o hDC (hk1 D o hDw e)
      refine wpAny_mono (turn C i v h2 _ _ hi hP hn2 (by simp) kp2 (by have := hn2.lt; rw [hC] at this; exact this)) (fun y s4 h4 => ?_) fun _ _ x => x
      obtain ⟨h4, tk4, rfl, k4, r4⟩ := h4
      have li4 : h4.PlainList D ys := li2.at fun o e => k4 D o e
      refine wpAny_list_append_plain li4 (fun h5 li5 hs5 => ?_) (by omega)
      refine ⟨⟨h5, _, _, ys.push y, rfl, (hn2.keeps k4).sameBut hs5 (Ne.symm hDC), li5, by simp [hsz], fun j z hz => ?_, fun b o hb e => hs5.extBut b o (low b o e).1 (k4 b o (kp2 b o hb e))⟩, fun b hb o e => hs5.extBut b o (hDf b hb) (k4 b o (hs2.extBut b o (hCf b hb) e))⟩
      rw [Array.getElem?_push] at hz
      split at hz
      · rename_i e
        cases hz
        rw [e, hsz]
        exact mono _ _ _ _ r4 fun b o hb e => hs5.extBut b o (big b hb).1 e
      · exact mono _ _ _ _ (hR j z hz) fun b o hb e => hs5.extBut b o (big b hb).1 (k4 b o (hs2.extBut b o (big b hb).2.1 (hk1 b o (big b hb).2.2 e)))
    · rintro s0 s1 hst ⟨h, tk, m, ys, rfl, hns, hli, hsz, hR, hkp⟩ ⟨h1, tk1, rfl, hk1⟩
      exact done D C h1 tk1 m ys hD hC (hns.at fun o e => hk1 C o hCw e) (hli.at fun o e => hk1 D o hDw e) hsz (fun j y hy => mono _ _ _ _ (hR j y hy) fun b o hb e => hk1 b o (big b hb).2.2 e) fun b o hb e => hk1 b o hb (hkp b o hb e)

theorem preSum_list (l : List Int) : ∀ n, preSum (fun i => l.getD i 0) n = (l.take n).sum
  | 0 => rfl
  | n + 1 => by
    rw [preSum, preSum_list l n]
    by_cases h : n < l.length
    · rw [List.take_add_one, List.sum_append]; simp [h]
    · rw [List.take_of_length_le (by omega), List.take_of_length_le (by omega)]; simp [List.getElem?_eq_none (Nat.not_lt.mp h)]

theorem sum_list {l : Addr} {items : Array Value} {ns : List Int} {Q : Value → Shared → Prop} (hh : A.handled = none) (hl : s.heap.IsList l items) (hi : Ints items ns)
    (h : ∀ h' tk t', Ext s.heap h' → Q (.int ns.sum t') { s with heap := h', toks := tk }) : wpAny (model prog w) A (call (.builtin "sum") [.ref l]) Q E s := by
  refine call_sum_walkG (wpAny_pyIter_list hl ?_)
  obtain ⟨ol, hol, _⟩ := id hl
  have hne : l ≠ s.heap.objs.size := Nat.ne_of_lt (Heap.lt_size hol)
  refine ⟨_, _, _, _, _, _, fun i => ns.getD i 0, rfl, Walks.list (A := A.in1) hh s.heap.objs.size l hne items, ⟨⟨_, Heap.get?_push_size _ rfl, rfl, rfl⟩, hl.push _⟩, ?_, ?_, ?_⟩
  · intro b hb
    show b < (s.heap.push _).objs.size
    rw [Heap.size_push]
    rcases List.mem_cons.mp hb with rfl | hb
    · exact Nat.lt_succ_self _
    · rw [List.mem_singleton.mp hb]; exact Nat.lt_succ_of_lt (Heap.lt_size hol)
  · intro i v hv
    have hlt : i < items.size := by
      rcases Nat.lt_or_ge i items.size with h | h
      · exact h
      · rw [Array.getElem?_eq_none h] at hv; cases hv
    obtain ⟨t, ht⟩ := hi.get (i := i) (hi.1 ▸ hlt)
    exact ⟨t, Option.some.inj (hv.symm.trans ht)⟩
  · intro h' tk t' hk
    rw [preSum_list, hi.1, List.take_length]
    exact h h' tk t' fun b o e => hk b o (by simpa using Nat.ne_of_lt (Heap.lt_size e)) (Heap.get?_push_of_some _ e)
end
end Mine

/-! part B12 -/
namespace Mine
open PySem PySem.Calls PyProof.Rows
set_option maxRecDepth 100000

/-- lists of ints that stand at B or above -/
def NL (B : Addr) (h : Heap) (ys : Array Value) (ll : List (List Int)) : Prop := ys.size = ll.length ∧ ∀ (i : Nat) (l : List Int), ll[i]? = some l → ∃ a items, B ≤ a ∧ ys[i]? = some (.ref a) ∧ h.PlainList a items ∧ Ints items l
theorem NL.keeps {B : Addr} {h h' : Heap} {ys ll} (x : NL B h ys ll) (k : ∀ b o, B ≤ b → SeqO o → h.get? b = some o → h'.get? b = some o) : NL B h' ys ll :=
  ⟨x.1, fun i l e => let ⟨a, its, h1, h2, ⟨n, h3⟩, h4⟩ := x.2 i l e; ⟨a, its, h1, h2, ⟨n, k a _ h1 trivial h3⟩, h4⟩⟩
theorem NL.low {B B' : Addr} {h : Heap} {ys ll} (x : NL B h ys ll) (k : B' ≤ B) : NL B' h ys ll :=
  ⟨x.1, fun i l e => let ⟨a, its, h1, h2, h3, h4⟩ := x.2 i l e; ⟨a, its, Nat.le_trans k h1, h2, h3, h4⟩⟩
theorem NL.push {B : Addr} {h : Heap} {ys ll} (x : NL B h ys ll) {a : Addr} {items : Array Value} {l : List Int} (hB : B ≤ a) (hp : h.PlainList a items) (hi : Ints items l) : NL B h (ys.push (.ref a)) (ll ++ [l]) := by
  refine ⟨by simp [x.1], fun i l' e => ?_⟩
  rw [List.getElem?_append] at e
  rw [Array.getElem?_push]
  split at e
  · rename_i hlt
    rw [if_neg (by rw [x.1]; omega)]
    exact x.2 i l' e
  · rename_i hlt
    have : i = ll.length := by
      rcases Nat.lt_or_ge (i - ll.length) 1 with q | q
      · omega
      · rw [List.getElem?_eq_none (by simpa using q)] at e; cases e
    subst this
    simp at e
    subst e
    rw [if_pos x.1.symm]
    exact ⟨a, items, hB, rfl, hp, hi⟩
theorem Ints.snoc {items : Array Value} {l : List Int} (x : Ints items l) (n : Int) (t : Tok) : Ints (items ++ #[.int n t]) (l ++ [n]) := by
  refine ⟨by simp [x.1], fun i k e => ?_⟩
  rw [List.getElem?_append] at e
  rw [Array.getElem?_append]
  split at e
  · rename_i hlt
    rw [if_pos (by rw [x.1]; exact hlt)]
    exact x.2 i k e
  · rename_i hlt
    rw [if_neg (by rw [x.1]; exact hlt), x.1]
    rcases Nat.lt_or_ge (i - l.length) 1 with q | q
    · have : i - l.length = 0 := by omega
      rw [this] at e ⊢
      simp at e; subst e
      exact ⟨t, rfl⟩
    · rw [List.getElem?_eq_none (by simpa using q)] at e; cases e

theorem fm_len {f : List Int → List (List Int)} (hf : ∀ l, (f l).length = 2) : ∀ ll : List (List Int), (ll.flatMap f).length = 2 * ll.length
  | [] => rfl
  | l :: ll => by rw [List.flatMap_cons, List.length_append, hf, fm_len hf ll, List.length_cons]; omega
abbrev ex2 (l : List Int) : List (List Int) := [l ++ [0], l ++ [1]]

section
variable {prog : Program} {w : World} {A : Around} {E : Value → Shared → Prop} {s : Shared} {env : Env} {mg mb : Str → Option Value}

theorem bits_iter {p8 p9 p10 : Pos} {kt : Nat} {K : Value → Shared → Prop}
    (h : ∀ h' tk t0 t1, Ext s.heap h' → h'.objs.size = s.heap.objs.size + 2 → h'.IsTuple s.heap.objs.size #[.int 0 t0, .int 1 t1] → h'.IsTupleIter (s.heap.objs.size + 1) s.heap.objs.size 0 → K (.ref (s.heap.objs.size + 1)) { s with heap := h', toks := tk }) :
    wpAny (model prog w) A (eval (.Tuple [.Constant (.int 0) 0 p8, .Constant (.int 1) 0 p9] kt p10) env) (fun xv s₁ => wpAny (model prog w) A (pyIter xv) K E s₁) E s := by
  refine Tuple_ (args_cons (wpAny_Constant_int (args_cons (wpAny_Constant_int (args_nil (wpAny_newTuple ?_))))))
  have ht : ∀ o, (s.heap.push o).objs.size = s.heap.objs.size + 1 := fun o => Heap.size_push ..
  refine wpAny_pyIter_tuple (items := #[_, _]) ⟨_, Heap.get?_push_size _ rfl, rfl, _, rfl⟩ ?_
  show K (.ref (s.heap.push _).objs.size) _
  rw [ht]
  refine h _ _ _ _ (fun _ _ e => Heap.get?_push_of_some _ (Heap.get?_push_of_some _ e)) (by rw [Heap.size_push, Heap.size_push]) ⟨_, Heap.get?_push_of_some _ (Heap.get?_push_size _ rfl), rfl, _, rfl⟩ ?_
  rw [← ht { cls := .type "tuple", data := .seq [Value.int 0 s.toks, Value.int 1 (s.toks + 1)].toArray }]
  exact ⟨_, Heap.get?_push_size _ rfl, rfl, rfl⟩

set_option maxHeartbeats 4000000 in
/-- [order + [bit] for order in orders for bit in (0, 1)] -/
theorem comp_two {scope : Scope} {cl : List (Str × Addr)} {p1 p2 p3 p4 p5 p7 p8 p9 p10 pos : Pos} {kt : Nat} {i1 : Expr} {I O : Addr} {xs : Array Value} {ll : List (List Int)} {R' : Addr → Addr → Shared → Prop}
    (hh : A.handled = none) (hk : scope.kind = .function) (hx : ∀ C, (compEnvC scope cl C env).kindOf "order" = some .local) (hy : ∀ C, (compEnvC scope cl C env).kindOf "bit" = some .local)
    (hI : s.heap.IsListIter I O 0) (hO : s.heap.IsList O xs) (hN : NL 0 s.heap xs ll) (hsm : ∀ l ∈ ll, l.length ≤ 100) (hll : ll.length ≤ 1000)
    (done : ∀ D C h' tk m' ys, D = s.heap.objs.size → C = s.heap.objs.size + 1 → h'.Ns C m' → h'.IsList D ys → NL (s.heap.objs.size + 2) h' ys (ll.flatMap ex2) → Kp [I] s.heap h' → R' D C { s with heap := h', toks := tk }) :
    Begun prog w A env scope cl (.ListComp (.BinOp (.Name "order" p1) .Add (.List [.Name "bit" p2] p3) p4) [⟨.Name "order" p5, i1, [], 0⟩, ⟨.Name "bit" p7, .Tuple [.Constant (.int 0) 0 p8, .Constant (.int 1) 0 p9] kt p10, [], 0⟩] scope pos) (.ref I) R' (fun h D => h.PlainList D #[]) s where
  self := fun s' Q E k q => wpAny_pyIter_listiter (hI.at fun o e => k I o e) q
  loop := fun D C h3 tk hD hC k hacc hns hsz => by
    have hsl : sizeLine = 2 ^ 24 := rfl
    obtain ⟨m0, hns⟩ := hns
    obtain ⟨oI, hoI, hcI, hdI⟩ := id hI
    obtain ⟨oO, hoO, hcO, nO, hdO⟩ := id hO
    have hOI : O ≠ I := fun e => by subst e; rw [hoI] at hoO; cases hoO; rw [hdI] at hdO; cases hdO
    have hDC : D ≠ C := by rw [hD, hC]; exact Nat.ne_of_lt (Nat.lt_succ_self _)
    have ltI : I < s.heap.objs.size := Heap.lt_size hoI
    have ltO : O < s.heap.objs.size := Heap.lt_size hoO
    have low : ∀ b o, s.heap.get? b = some o → b ≠ D ∧ b ≠ C := fun b o e => ⟨by rw [hD]; exact Nat.ne_of_lt (Heap.lt_size e), by rw [hC]; exact Nat.ne_of_lt (Nat.lt_succ_of_lt (Heap.lt_size e))⟩
    have big : ∀ b, s.heap.objs.size + 2 ≤ b → b ≠ D ∧ b ≠ C ∧ b ≠ I := fun b hb => ⟨by rw [hD]; exact Nat.ne_of_gt (Nat.lt_of_lt_of_le (by omega) hb), by rw [hC]; exact Nat.ne_of_gt (Nat.lt_of_lt_of_le (by omega) hb), Nat.ne_of_gt (Nat.lt_of_lt_of_le (Nat.lt_of_lt_of_le ltI (Nat.le_add_right _ 2)) hb)⟩
    have hstore : ∀ C, ((compEnvC scope cl C env).scope.kind == .class || ((compEnvC scope cl C env).scope.kind == .module && C != env.globals)) = false := fun C => by show (scope.kind == .class || (scope.kind == .module && C != env.globals)) = false; rw [hk]; rfl
    refine comp_out (fun i s' => ∃ h tk m ys, s' = { s with heap := h, toks := tk } ∧ h.Ns C m ∧ h.IsList D ys ∧ NL (s.heap.objs.size + 2) h ys ((ll.take i).flatMap ex2) ∧ Kp [I] s.heap h) (Walks.list hh I O hOI xs) ⟨hI.at fun o e => k I o e, hO.at fun o e => k O o e⟩
      ⟨h3, tk, m0, #[], rfl, hns, hacc.isList, ⟨rfl, by simp⟩, fun b o _ e => k b o e⟩ (fun _ => rfl) ?_ ?_
    · rintro i v s0 s1 hi hv hst0 hst1 ⟨h, tk, m, ys, rfl, hns, hli, hNL, hkp⟩ ⟨h1, tk1, rfl, hk1⟩
      have hil : i < ll.length := hN.1 ▸ hi
      obtain ⟨a, items, -, hva, ⟨na, hpa⟩, hia⟩ := hN.2 i ll[i] (by simp [hil])
      obtain rfl : v = .ref a := Option.some.inj (hv.symm.trans hva)
      have haI : a ≠ I := fun e => by subst e; rw [hoI] at hpa; cases hpa; cases hdI
      generalize hl : ll[i] = l at hia
      have hlen : l.length ≤ 100 := hsm l (hl ▸ List.getElem_mem hil)
      have htk : ll.take (i + 1) = ll.take i ++ [l] := take_snoc (by simp [hil, hl])
      have hns1 : h1.Ns C m := hns.at fun o e => hk1 C o (by rw [hC]; simpa using Nat.ne_of_gt (Nat.lt_succ_of_lt ltI)) e
      have hDI : D ≠ I := by rw [hD]; exact Nat.ne_of_gt ltI
      have hli1 : h1.IsList D ys := hli.at fun o e => hk1 D o (by simpa using hDI) e
      have hNL1 := hNL.keeps fun b o hb _ e => hk1 b o (by simpa using (big b hb).2.2) e
      have kp1 : Kp [I] s.heap h1 := fun b o hb e => hk1 b o hb (hkp b o hb e)
      clear hns hli hNL hkp hk1
      refine wpAny_storeName_local (hx C) hns1 (fun h2 hn2 hs2 => ?_) (hstore C)
      refine bits_iter fun h4 tk4 t0 t1 k4 hz4 hT hJ => ?_
      replace k4 : Ext h2 h4 := k4
      replace hT : h4.IsTuple h2.objs.size #[.int 0 t0, .int 1 t1] := hT
      replace hJ : h4.IsTupleIter (h2.objs.size + 1) h2.objs.size 0 := hJ
      have hz2 : h1.objs.size = h2.objs.size := hs2.1.symm
      generalize h2.objs.size = T at hT hJ hz2
      have k24 : Kp [C] h1 h4 := fun b o hb e => k4 b o (hs2.extBut b o (fun q => hb (List.mem_singleton.mpr q)) e)
      refine ⟨fun Q E q => wpAny_pyIter_tupleiter hJ q, ?_⟩
      have lt1 : ∀ b o, h1.get? b = some o → b < T := fun b o e => hz2 ▸ Heap.lt_size e
      have ltC : C < T := let ⟨_, _, _, q, _⟩ := hns1; lt1 _ _ q
      have ltD : D < T := let ⟨_, q, _⟩ := hli1; lt1 _ _ q
      have hDn : D ≠ C := hDC
      refine comp_in (fun j s' => ∃ h tk m ys, s' = { s with heap := h, toks := tk } ∧ h.Ns C m ∧ m "order" = some (.ref a) ∧ h.IsList D ys ∧ NL (s.heap.objs.size + 2) h ys ((ll.take i).flatMap ex2 ++ (ex2 l).take j) ∧ Kp [D, C] h1 h)
        (Walks.tuple hh (T + 1) T (Nat.ne_of_lt (Nat.lt_succ_self T)) #[.int 0 t0, .int 1 t1]) ⟨hJ, hT⟩ ⟨h4, _, _, ys, rfl, hn2.keeps k4, by simp, hli1.at fun o e => k24 D o (by simpa using hDC) e, ?_, ?_⟩ ?_ ?_
      · simpa using hNL1.keeps fun b o hb _ e => k24 b o (by simpa using (big b hb).2.1) e
      · exact fun b o hb e => k24 b o (by simp at hb ⊢; exact hb.2) e
      · rintro j v s2 s3 hj hvj hstj hstj' ⟨h5, tk5, m5, ys5, rfl, hns5, hor5, hli5, hNL5, kp5⟩ ⟨h6, tk6, rfl, hk6⟩
        have ltI' : I < T := let ⟨_, q, _⟩ := hst1.1; lt1 _ _ q
        have ltO' : O < T := let ⟨_, q, _⟩ := hst1.2; lt1 _ _ q
        have nJ : ∀ b, b < T → b ∉ [T + 1] := fun b hb q => Nat.lt_irrefl _ (Nat.lt_trans (List.mem_singleton.mp q ▸ hb : T + 1 < T) (Nat.lt_succ_self T))
        have hns6 : h6.Ns C m5 := hns5.at fun o e => hk6 C o (nJ C ltC) e
        have hli6 : h6.IsList D ys5 := hli5.at fun o e => hk6 D o (nJ D ltD) e
        have hNL6 := hNL5.keeps fun b o hb hq e => hk6 b o (fun q => by
          rw [List.mem_singleton.mp q] at e
          obtain ⟨o', ho', _, hd'⟩ := hstj.1
          rw [show h5.get? (T + 1) = some o' from ho'] at e
          cases e; simp [SeqO, hd'] at hq) e
        have hsz6 : ys5.size ≤ 2002 := by
          rw [hNL5.1, List.length_append, fm_len (fun _ => rfl)]
          have e1 : (ll.take i).length ≤ 1000 := by rw [List.length_take]; omega
          have e2 : ((ex2 l).take j).length ≤ 2 := by rw [List.length_take]; exact Nat.min_le_right ..
          omega
        obtain ⟨t, nb, hvb, htj⟩ : ∃ t nb, v = .int nb t ∧ (ex2 l).take (j + 1) = (ex2 l).take j ++ [l ++ [nb]] := by
          match j, hvj with
          | 0, hvj => simp at hvj; exact ⟨_, 0, hvj.symm, rfl⟩
          | 1, hvj => simp at hvj; exact ⟨_, 1, hvj.symm, rfl⟩
        subst hvb
        refine wpAny_storeName_local (hy C) hns6 (fun h7 hn7 hs7 => ?_) (hstore C)
        have lta : a < T := lt1 a _ (kp1 a _ (by simpa using haI) hpa)
        have pa7 : h7.get? a = some { cls := .type "list", data := .seq items na } := hs7.extBut a _ (low a _ hpa).2 (hk6 a _ (nJ a lta) (kp5 a _ (by simp [low a _ hpa]) (kp1 a _ (by simpa using haI) hpa)))
        refine wpAny_BinOp (wpAny_Name (wpAny_loadName_local hk (hx C) hn7 (upd_ne (by decide) hor5) (List_ (args_cons (wpAny_Name (wpAny_loadName_local hk (hy C) hn7 (if_pos rfl) (args_nil (newList_ ?_ (by show 1 ≤ _; omega)))) (by decide))))) (by decide))
        refine P.add_list (n := na) (n2 := 0) (Heap.get?_push_of_some _ pa7) (Heap.get?_push_size _ rfl) ?_ (by have := hia.1; show items.size + 1 ≤ _; omega)
        have hz8 : ∀ o1 : Obj, (h7.push o1).objs.size = h7.objs.size + 1 := fun o => Heap.size_push ..
        have li8 : ∀ o1 o2 : Obj, ((h7.push o1).push o2).IsList D ys5 := fun o1 o2 => (hli6.at fun o e => Heap.get?_push_of_some _ (Heap.get?_push_of_some _ (hs7.extBut D o hDC e)))
        refine wpAny_list_append (li8 _ _) (fun h9 li9 hs9 => ?_) (by omega)
        have k79 : ∀ b o, b ≠ D → h7.get? b = some o → h9.get? b = some o := fun b o hb e => hs9.extBut b o hb (Heap.get?_push_of_some _ (Heap.get?_push_of_some _ e))
        have T7 : T < h7.objs.size := by
          obtain ⟨o, ho, _⟩ := hstj'.2
          exact Heap.lt_size (hs7.extBut T o (Nat.ne_of_gt ltC) ho)
        have hzz : (h7.push { cls := .type "list", data := .seq [Value.int nb t].toArray }).objs.size = h7.objs.size + 1 := Heap.size_push ..
        refine ⟨⟨h9, _, _, _, rfl, hn7.at fun o e => k79 C o (Ne.symm hDC) e, upd_ne (by decide) hor5, li9, ?_, ?_⟩, ?_⟩
        · rw [htj, ← List.append_assoc]
          refine NL.push (hNL6.keeps fun b o hb _ e => k79 b o (big b hb).1 (hs7.extBut b o (big b hb).2.1 e)) (items := items ++ #[.int nb t]) ?_ ?_ (hia.snoc nb t)
          · show s.heap.objs.size + 2 ≤ (h7.push _).objs.size
            rw [hzz]
            have : C < T := ltC
            rw [hC] at this
            have h2 : s.heap.objs.size + 1 < h7.objs.size := Nat.lt_trans this T7
            omega
          · refine ⟨0, hs9.extBut _ _ ?_ (Heap.get?_push_size _ rfl)⟩
            show (h7.push _).objs.size ≠ D
            rw [hzz]
            exact Nat.ne_of_gt (Nat.lt_trans (Nat.lt_trans ltD T7) (Nat.lt_succ_self _))
        · intro b o hb e
          have hb' : b ≠ D ∧ b ≠ C := by simpa using hb
          exact k79 b o hb'.1 (hs7.extBut b o hb'.2 (hk6 b o (nJ b (lt1 b o e)) (kp5 b o hb e)))
        · intro b hb o e
          have : b ≠ D ∧ b ≠ C := by
            rcases List.mem_cons.mp hb with rfl | hb
            · exact ⟨Nat.ne_of_gt (Nat.lt_succ_of_lt ltD), Nat.ne_of_gt (Nat.lt_succ_of_lt ltC)⟩
            · rw [List.mem_singleton.mp hb]; exact ⟨Nat.ne_of_gt ltD, Nat.ne_of_gt ltC⟩
          exact k79 b o this.1 (hs7.extBut b o this.2 e)
      · rintro s2 s3 hstj ⟨h5, tk5, m5, ys5, rfl, hns5, hor5, hli5, hNL5, kp5⟩ ⟨h6, tk6, rfl, hk6⟩
        have nJ : ∀ b, b < T → b ∉ [T + 1] := fun b hb q => Nat.lt_irrefl _ (Nat.lt_trans (List.mem_singleton.mp q ▸ hb : T + 1 < T) (Nat.lt_succ_self T))
        have hNL6 := hNL5.keeps fun b o hb hq e => hk6 b o (fun q => by
          rw [List.mem_singleton.mp q] at e
          obtain ⟨o', ho', _, hd'⟩ := hstj.1
          rw [show h5.get? (T + 1) = some o' from ho'] at e
          cases e; simp [SeqO, hd'] at hq) e
        have k16 : Kp [D, C] h1 h6 := fun b o hb e => hk6 b o (nJ b (lt1 b o e)) (kp5 b o hb e)
        refine ⟨⟨h6, _, _, ys5, rfl, hns5.at fun o e => hk6 C o (nJ C ltC) e, hli5.at fun o e => hk6 D o (nJ D ltD) e, ?_, ?_⟩, ?_⟩
        · rw [htk, List.flatMap_append]
          simpa using hNL6
        · exact fun b o hb e => k16 b o (by simp [low b o e]) (kp1 b o hb e)
        · intro b hb o e
          refine k16 b o ?_ e
          rcases List.mem_cons.mp hb with rfl | hb
          · simp [low _ _ hoI]
          · rw [List.mem_singleton.mp hb]; simp [low _ _ hoO]
    · rintro s0 s1 hst ⟨h, tk, m, ys, rfl, hns, hli, hNL, hkp⟩ ⟨h1, tk1, rfl, hk1⟩
      rw [hN.1, List.take_length] at hNL
      refine done D C h1 tk1 m ys hD hC (hns.at fun o e => hk1 C o (by rw [hC]; simpa using Nat.ne_of_gt (Nat.lt_succ_of_lt ltI)) e) (hli.at fun o e => hk1 D o (by rw [hD]; simpa using Nat.ne_of_gt ltI) e) (hNL.keeps fun b o hb _ e => hk1 b o (by simpa using (big b hb).2.2) e) fun b o hb e => hk1 b o hb (hkp b o hb e)
end
end Mine

/-! part B13 -/
namespace Mine
open PySem PySem.Calls PyProof.Rows
set_option maxRecDepth 100000
section
variable {prog : Program} {w : World} {A : Around} {E : Value → Shared → Prop} {s : Shared} {env : Env} {mg mb : Str → Option Value}

theorem bltK {scope : Scope} {cl : List (Str × Addr)} {C : Addr} {x : Str} {pos : Pos} {v : Value} {Q : Value → Shared → Prop} (hg : env.globals = mainGlobals) (hb : env.builtins = builtinsNs) (G : Gd mg mb s.heap) (hm : x ∈ (["len", "range", "sum", "chr", "isinstance", "tuple", "zip"] : List Str)) (hv : bootBuiltins x = some v) (h : Q v s)
    (hk : scope.kind = .function) (hx : (compEnvC scope cl C env).kindOf x = some .globalImplicit) (hd : (x == ("__debug__" : Str)) = false := by decide) : wpAny (model prog w) A (eval (.Name x pos) (compEnvC scope cl C env)) Q E s :=
  Name_function_global hk hx (loadGlobal_builtin (env := compEnvC scope cl C env) (show s.heap.Ns env.globals mg from hg ▸ G.g) (G.bi x hm).1 (show s.heap.Ns env.builtins mb from hb ▸ G.b) ((G.bi x hm).2.trans hv) h) hd

theorem tests_one {c : Expr} {cenv : Env} {Q : Bool → Shared → Prop} (h : wpAny (model prog w) A (isTrue c cenv (eval c cenv)) Q E s) : wpAny (model prog w) A (tests [c] cenv) Q E s := by
  show wpAny _ A (forIn [c] true _) _ _ s
  rw [List.forIn_cons]
  refine wpAny_bind (wpAny_ite ?_)
  rw [if_pos rfl]
  refine wpAny_bind (wpAny_mono h (fun ok s' q => wpAny_pure ?_) fun _ _ x => x)
  exact wpAny_pure q

theorem NL.pick {B : Addr} {h : Heap} {xs ys : Array Value} {ll kk : List (List Int)} (x : NL B h xs ll) (y : NL B h ys kk) {i : Nat} {l : List Int} {v : Value} (hl : ll[i]? = some l) (hv : xs[i]? = some v) : NL B h (ys.push v) (kk ++ [l]) := by
  obtain ⟨a, its, h1, h2, h3, h4⟩ := x.2 i l hl
  obtain rfl : v = .ref a := Option.some.inj (hv.symm.trans h2)
  exact y.push h1 h3 h4

set_option maxHeartbeats 4000000 in
/-- [order for order in orders if sum(order) == dotted] -/
theorem comp_keep {scope : Scope} {cl : List (Str × Addr)} {p1 p2 p3 p4 p5 p6 p7 pos : Pos} {i1 : Expr} {I O cd : Addr} {d : Int} {td : Tok} {xs : Array Value} {ll : List (List Int)} {R' : Addr → Addr → Shared → Prop}
    (hh : A.handled = none) (hg : env.globals = mainGlobals) (hb : env.builtins = builtinsNs) (hk : scope.kind = .function) (hx : ∀ C, (compEnvC scope cl C env).kindOf "order" = some .local)
    (hs : ∀ C, (compEnvC scope cl C env).kindOf "sum" = some .globalImplicit) (hd : ∀ C, (compEnvC scope cl C env).kindOf "dotted" = some .cell) (hcl : cl.lookup ("dotted" : Str) = some cd) (hcd : s.heap.IsCell cd (some (.int d td)))
    (hI : s.heap.IsListIter I O 0) (hO : s.heap.IsList O xs) (hN : NL 0 s.heap xs ll) (hll : ll.length ≤ 1000)
    (hGk : ∀ h', Kp [I] s.heap h' → Gd mg mb h')
    (done : ∀ D C h' tk m' ys, D = s.heap.objs.size → C = s.heap.objs.size + 1 → h'.Ns C m' → h'.IsList D ys → NL 0 s.heap ys (ll.filter fun l => l.sum == d) → Kp [I] s.heap h' → R' D C { s with heap := h', toks := tk }) :
    Begun prog w A env scope cl (.ListComp (.Name "order" p1) [⟨.Name "order" p2, i1, [.Compare (.Call (.Name "sum" p3) [.Name "order" p4] [] p5) [.Eq] [.Name "dotted" p6] p7], 0⟩] scope pos) (.ref I) R' (fun h D => h.PlainList D #[]) s where
  self := fun s' Q E k q => wpAny_pyIter_listiter (hI.at fun o e => k I o e) q
  loop := fun D C h3 tk hD hC k hacc hns hsz => by
    have hsl : sizeLine = 2 ^ 24 := rfl
    obtain ⟨m0, hns⟩ := hns
    obtain ⟨oI, hoI, hcI, hdI⟩ := id hI
    obtain ⟨oO, hoO, hcO, nO, hdO⟩ := id hO
    have hOI : O ≠ I := fun e => by subst e; rw [hoI] at hoO; cases hoO; rw [hdI] at hdO; cases hdO
    have hDC : D ≠ C := by rw [hD, hC]; exact Nat.ne_of_lt (Nat.lt_succ_self _)
    have ltI : I < s.heap.objs.size := Heap.lt_size hoI
    have low : ∀ b o, s.heap.get? b = some o → b ≠ D ∧ b ≠ C := fun b o e => ⟨by rw [hD]; exact Nat.ne_of_lt (Heap.lt_size e), by rw [hC]; exact Nat.ne_of_lt (Nat.lt_succ_of_lt (Heap.lt_size e))⟩
    have hstore : ∀ C, ((compEnvC scope cl C env).scope.kind == .class || ((compEnvC scope cl C env).scope.kind == .module && C != env.globals)) = false := fun C => by show (scope.kind == .class || (scope.kind == .module && C != env.globals)) = false; rw [hk]; rfl
    have hDI : D ≠ I := by rw [hD]; exact Nat.ne_of_gt ltI
    have hCI : C ≠ I := by rw [hC]; exact Nat.ne_of_gt (Nat.lt_succ_of_lt ltI)
    refine comp_loop (fun i s' => ∃ h tk m ys, s' = { s with heap := h, toks := tk } ∧ h.Ns C m ∧ h.IsList D ys ∧ NL 0 s.heap ys ((ll.take i).filter fun l => l.sum == d) ∧ Kp [I] s.heap h) (Walks.list hh I O hOI xs) ⟨hI.at fun o e => k I o e, hO.at fun o e => k O o e⟩
      ⟨h3, tk, m0, #[], rfl, hns, hacc.isList, ⟨rfl, by simp⟩, fun b o _ e => k b o e⟩ ?_ ?_
    · rintro i v s0 s1 hi hv hst0 hst1 ⟨h, tk, m, ys, rfl, hns, hli, hNL, hkp⟩ ⟨h1, tk1, rfl, hk1⟩
      have hil : i < ll.length := hN.1 ▸ hi
      obtain ⟨a, items, -, hva, ⟨na, hpa⟩, hia⟩ := hN.2 i ll[i] (by simp [hil])
      have hvv := hv
      obtain rfl : v = .ref a := Option.some.inj (hv.symm.trans hva)
      have haI : a ≠ I := fun e => by subst e; rw [hoI] at hpa; cases hpa; cases hdI
      have hli' : ll[i]? = some ll[i] := by simp [hil]
      generalize hl : ll[i] = l at hia hli'
      have htk : ll.take (i + 1) = ll.take i ++ [l] := take_snoc hli'
      have hns1 : h1.Ns C m := hns.at fun o e => hk1 C o (by simpa using hCI) e
      have hli1 : h1.IsList D ys := hli.at fun o e => hk1 D o (by simpa using hDI) e
      have kp1 : Kp [I] s.heap h1 := fun b o hb e => hk1 b o hb (hkp b o hb e)
      clear hns hli hkp hk1
      refine wpAny_storeName_local (hx C) hns1 (fun h2 hn2 hs2 => ?_) (hstore C)
      replace hs2 : Heap.SameBut C h1 h2 := hs2
      have kp2 : Kp [I] s.heap h2 := fun b o hb e => hs2.extBut b o (low b o e).2 (kp1 b o hb e)
      have pa2 : h2.IsList a items := ⟨_, kp2 a _ (by simpa using haI) hpa, rfl, _, rfl⟩
      refine tests_one (wpAny_isTrue_Compare1 (fun1 rfl (bltK hg hb (hGk _ kp2) (by simp) rfl ⟨rfl, wpAny_Name (wpAny_loadName_local hk (hx C) hn2 (if_pos rfl) (sum_list hh pa2 hia fun h4 tk4 t4 k4 => ?_)) (by decide)⟩ hk (hs C))))
      replace k4 : Ext h2 h4 := k4
      have hcI' : cd ≠ I := fun e => by obtain ⟨o, ho, hd⟩ := hcd; rw [e, hoI] at ho; cases ho; rw [hdI] at hd; cases hd
      have hc4 : h4.IsCell cd (some (.int d td)) := let ⟨o, ho, hd⟩ := hcd; ⟨o, k4 _ _ (kp2 _ _ (by simpa using hcI') ho), hd⟩
      refine wpAny_Name (wpAny_loadName_cell hk (hd C) hcl hc4 (P.eq_int (wpAny_truthy_bool ?_))) (by decide)
      have k14 : ∀ b o, b ≠ C → h1.get? b = some o → h4.get? b = some o := fun b o hb e => k4 b o (hs2.extBut b o hb e)
      have li4 : h4.IsList D ys := hli1.at fun o e => k14 D o hDC e
      have fr : ∀ b ∈ [I, O], b ≠ D ∧ b ≠ C := fun b hb => by
        rcases List.mem_cons.mp hb with rfl | hb
        · exact low _ _ hoI
        · rw [List.mem_singleton.mp hb]; exact low _ _ hoO
      have hsz : ys.size ≤ 1000 := by
        rw [hNL.1]
        exact Nat.le_trans (List.length_filter_le ..) (Nat.le_trans (by rw [List.length_take]; omega) hll)
      cases hb : l.sum == d with
      | true =>
        rw [if_pos rfl]
        refine wpAny_Name (wpAny_loadName_local hk (hx C) (hn2.keeps k4) (if_pos rfl) ?_) (by decide)
        refine wpAny_list_append li4 (fun h5 li5 hs5 => ?_) (by omega)
        replace hs5 : Heap.SameBut D h4 h5 := hs5
        refine ⟨⟨h5, _, _, _, rfl, (hn2.keeps k4).sameBut hs5 (Ne.symm hDC), li5, ?_, ?_⟩, ?_⟩
        · rw [htk, List.filter_append]
          have : [l].filter (fun l => l.sum == d) = [l] := by simp only [List.filter_cons, hb, if_true, List.filter_nil]
          rw [this]
          exact hN.pick hNL hli' hvv
        · exact fun b o hb e => hs5.extBut b o (low b o e).1 (k4 b o (kp2 b o hb e))
        · exact fun b hb o e => hs5.extBut b o (fr b hb).1 (k14 b o (fr b hb).2 e)
      | false =>
        rw [if_neg (by simp)]
        refine ⟨⟨h4, _, _, _, rfl, hn2.keeps k4, li4, ?_, ?_⟩, ?_⟩
        · rw [htk, List.filter_append]
          have : [l].filter (fun l => l.sum == d) = [] := by simp only [List.filter_cons, hb, List.filter_nil]; rfl
          rw [this, List.append_nil]
          exact hNL
        · exact fun b o hb e => k4 b o (kp2 b o hb e)
        · exact fun b hb o e => k14 b o (fr b hb).2 e
    · rintro s0 s1 hst ⟨h, tk, m, ys, rfl, hns, hli, hNL, hkp⟩ ⟨h1, tk1, rfl, hk1⟩
      rw [hN.1, List.take_length] at hNL
      exact done D C h1 tk1 m ys hD hC (hns.at fun o e => hk1 C o (by simpa using hCI) e) (hli.at fun o e => hk1 D o (by simpa using hDI) e) hNL fun b o hb e => hk1 b o hb (hkp b o hb e)
end
end Mine

/-! part B14 -/
namespace Mine
open PySem PySem.Calls PyProof.Rows
set_option maxRecDepth 100000

def ordL : Nat → List (List Int)
  | 0 => [[]]
  | n + 1 => (ordL n).flatMap ex2
theorem ordL_len : ∀ n, (ordL n).length = 2 ^ n
  | 0 => rfl
  | n + 1 => by rw [ordL, fm_len (fun _ => rfl), ordL_len n, Nat.pow_succ]; omega
theorem ordL_each : ∀ n, ∀ l ∈ ordL n, l.length = n
  | 0, l, h => by simp [ordL] at h; subst h; rfl
  | n + 1, l, h => by
    simp only [ordL, List.mem_flatMap, ex2, List.mem_cons, List.not_mem_nil, or_false] at h
    obtain ⟨k, hk, rfl | rfl⟩ := h
    · rw [List.length_append, ordL_each n k hk]; rfl
    · rw [List.length_append, ordL_each n k hk]; rfl

/-- what stays in _law_orders' loop -/
structure OI (h₀ : Heap) (L : Addr) (d : Int) (td : Tok) (h : Heap) (m : Str → Option Value) (ll : List (List Int)) : Prop where
  fr : Fr h₀ L h m
  cell : h.IsCell (L + 1) (some (.int d td))
  od : ∃ O xs, m "orders" = some (.ref O) ∧ h.IsList O xs ∧ NL 0 h xs ll
section
variable {h₀ h h' : Heap} {L : Addr} {d : Int} {td : Tok} {m m' : Str → Option Value} {ll : List (List Int)}
theorem OI.ext (x : OI h₀ L d td h m ll) (k : Ext h h') : OI h₀ L d td h' m ll :=
  ⟨⟨x.fr.ns.keeps k, fun b o e => k b o (x.fr.keep b o e), x.fr.above⟩, let ⟨o, a, b⟩ := x.cell; ⟨o, k _ _ a, b⟩, let ⟨O, xs, a, b, c⟩ := x.od; ⟨O, xs, a, b.at fun o e => k _ o e, c.keeps fun b o _ _ e => k b o e⟩⟩
theorem seq_ne {h : Heap} {O X : Addr} {xs : Array Value} (b : h.IsList O xs) (hno : ∀ o, h.get? X = some o → ¬ SeqO o) : O ≠ X := fun e => by
  obtain ⟨o, ho, _, n, hd⟩ := b
  exact hno o (e ▸ ho) (by simp [SeqO, hd])
theorem OI.off (x : OI h₀ L d td h m ll) {I : Addr} (k : ∀ b o, b ∉ [I] → h.get? b = some o → h'.get? b = some o) (hI : L + 1 < I) (hno : ∀ o, h.get? I = some o → ¬ SeqO o) : OI h₀ L d td h' m ll :=
  ⟨Fr_off x.fr k (Nat.lt_of_succ_lt hI), let ⟨o, a, b⟩ := x.cell; ⟨o, k _ _ (by simpa using Nat.ne_of_lt hI) a, b⟩, let ⟨O, xs, a, b, c⟩ := x.od; ⟨O, xs, a, b.at fun o e => k _ o (by simpa using seq_ne b hno) e, c.keeps fun b o _ hq e => k b o (by intro q; simp at q; subst q; exact hno o e hq) e⟩⟩
theorem OI.set (x : OI h₀ L d td h m ll) (hs : Heap.SameBut L h h') (hn : h'.Ns L m') (e1 : m' "orders" = m "orders") : OI h₀ L d td h' m' ll :=
  ⟨x.fr.set hn hs, x.cell.sameBut hs (Nat.ne_of_gt (Nat.lt_succ_self L)), let ⟨O, xs, a, b, c⟩ := x.od; ⟨O, xs, e1.trans a, b.at fun o e => hs.extBut O o (seq_ne b (ns_noSeq x.fr.ns)) e, c.keeps fun b o _ hq e => hs.extBut b o (by rintro rfl; exact ns_noSeq x.fr.ns o e hq) e⟩⟩
end

section
variable {prog : Program} {w : World} {A : Around} {E : Value → Shared → Prop} {s : Shared} {mg mb : Str → Option Value} {L : Addr} {d : Int} {td : Tok} {n : Nat} {m : Str → Option Value}

abbrev envC (i : Nat) (L a : Addr) (cd : Value) : Env := envOfC (nameAt i) (scopeAt i) L a cd
theorem locC {i : Nat} {L a : Addr} {cd : Value} {x : Str} {pos : Pos} {v : Value} {m : Str → Option Value} {Q : Value → Shared → Prop} (hn : s.heap.Ns L m) (hv : m x = some v) (h : Q v s)
    (hk : (scopeAt i).kind = .function := by rfl) (hx : (envC i L a cd).kindOf x = some .local := by rfl) (hd : (x == ("__debug__" : Str)) = false := by decide) : wpAny (model prog w) A (eval (.Name x pos) (envC i L a cd)) Q E s :=
  wpAny_Name (wpAny_loadName_local hk hx hn hv h) hd
theorem bltC {i : Nat} {L a : Addr} {cd : Value} {x : Str} {pos : Pos} {v : Value} {Q : Value → Shared → Prop} (G : Gd mg mb s.heap) (hm : x ∈ (["len", "range", "sum", "chr", "isinstance", "tuple", "zip"] : List Str)) (hv : bootBuiltins x = some v) (h : Q v s)
    (hk : (scopeAt i).kind = .function := by rfl) (hx : (envC i L a cd).kindOf x = some .globalImplicit := by rfl) (hd : (x == ("__debug__" : Str)) = false := by decide) : wpAny (model prog w) A (eval (.Name x pos) (envC i L a cd)) Q E s :=
  Name_function_global hk hx (loadGlobal_builtin (env := envC i L a cd) G.g (G.bi x hm).1 G.b ((G.bi x hm).2.trans hv) h) hd
theorem globC {i : Nat} {L a : Addr} {cd : Value} {x : Str} {pos : Pos} {v : Value} {Q : Value → Shared → Prop} (G : Gd mg mb s.heap) (hv : mg x = some v) (h : Q v s)
    (hk : (scopeAt i).kind = .function := by rfl) (hx : (envC i L a cd).kindOf x = some .globalImplicit := by rfl) (hd : (x == ("__debug__" : Str)) = false := by decide) : wpAny (model prog w) A (eval (.Name x pos) (envC i L a cd)) Q E s :=
  Name_function_global hk hx (loadGlobal_global (env := envC i L a cd) G.g hv h) hd

set_option maxHeartbeats 4000000 in
theorem orders_body {Q : Flow → Shared → Prop} {a : Addr} {cd : Value} {h₀ : Heap} (G : Gd mg mb h₀) (hh : A.handled = none) (F0 : Fr h₀ L s.heap m) (hc0 : s.heap.IsCell (L + 1) (some (.int d td))) {t : Tok} (m1 : m "size" = some (.int n t)) (hn : n ≤ 8)
    (h : ∀ D h' tk ys, h'.IsList D ys → NL 0 h' ys ((ordL n).filter fun l => l.sum == d) → Ext h₀ h' → Q (.ret (.ref D)) { s with heap := h', toks := tk }) :
    wpAny (model prog w) A (execs (bodyAt 14) (envC 14 L a cd)) Q (fun _ _ => False) s := by
  have hsl : sizeLine = 2 ^ 24 := rfl
  have hLs : L + 1 < s.heap.objs.size := let ⟨_, q, _⟩ := hc0; Heap.lt_size q
  -- orders = [[]]
  with_unfolding_all refine wpAny_execs_cons (wpAny_Assign_Name (List_ (args_cons (List_ (args_nil (newList_ (args_nil (newList_ (wpAny_storeName_local rfl ((F0.ns.push _).push _) (fun h1 hn1 hs1 => ?_) rfl))))))))) 
  have hz1 : ∀ o, (s.heap.push o).objs.size = s.heap.objs.size + 1 := fun o => Heap.size_push ..
  have X1 : OI h₀ L d td h1 (fun y => if y = "orders" then some (.ref (s.heap.objs.size + 1)) else m y) (ordL 0) := by
    have hL1 : s.heap.objs.size ≠ L := Nat.ne_of_gt (Nat.lt_of_succ_lt hLs)
    have hL2 : s.heap.objs.size + 1 ≠ L := Nat.ne_of_gt (Nat.lt_succ_of_lt (Nat.lt_of_succ_lt hLs))
    have hn1' : h1.Ns L (fun y => if y = "orders" then some (.ref (s.heap.objs.size + 1)) else m y) := by
      rw [← hz1 { cls := .type "list", data := .seq #[] }]; exact hn1
    refine ⟨⟨hn1', fun b o e => hs1.extBut b o (Nat.ne_of_lt (Nat.lt_of_lt_of_le (Heap.lt_size e) F0.above)) (Heap.get?_push_of_some _ (Heap.get?_push_of_some _ (F0.keep b o e))), F0.above⟩, ?_, s.heap.objs.size + 1, #[.ref s.heap.objs.size], rfl, ?_, rfl, ?_⟩
    · obtain ⟨o, e, hd⟩ := hc0
      exact ⟨o, hs1.extBut _ _ (Nat.ne_of_gt (Nat.lt_succ_self L)) (Heap.get?_push_of_some _ (Heap.get?_push_of_some _ e)), hd⟩
    · refine ⟨{ cls := .type "list", data := .seq #[.ref s.heap.objs.size] }, hs1.extBut _ _ hL2 ?_, rfl, _, rfl⟩
      rw [← hz1 { cls := .type "list", data := .seq #[] }]
      exact Heap.get?_push_size _ rfl
    · intro i l e
      match i, e with
      | 0, e =>
        simp [ordL] at e; subst e
        exact ⟨s.heap.objs.size, #[], Nat.zero_le _, rfl, ⟨0, hs1.extBut _ _ hL1 (Heap.get?_push_of_some _ (Heap.get?_push_size _ rfl))⟩, rfl, by simp⟩
      | i + 1, e => simp [ordL] at e
  have m1' : (fun y => if y = ("orders" : Str) then some (Value.ref (s.heap.objs.size + 1)) else m y) "size" = some (.int n t) := upd_ne (by decide) m1
  generalize (fun y => if y = ("orders" : Str) then some (Value.ref (s.heap.objs.size + 1)) else m y) = mA at X1 m1' 
  clear hn1 hs1
  have hL1 : L + 1 < h1.objs.size := let ⟨_, q, _⟩ := X1.cell; Heap.lt_size q
  refine anyTok (s := s) (h := h1) fun tk => ?_
  -- for k in range(size)
  refine wpAny_execs_cons ?_
  with_unfolding_all refine for_gen (s := { s with heap := h1, toks := _ }) (env := envC 14 L a cd) (A := A) (typ1 rfl (bltC (G.keeps X1.fr.keep) (by simp) rfl ⟨rfl, locC X1.fr.ns m1' (rng1 (by omega) (by omega) fun h2 tk2 k2 hz2 hI2 => ?_)⟩)) (fun _ => rfl)
  replace k2 : Ext h1 h2 := k2
  replace hI2 : IsRangeIter h2 (h1.objs.size + 1) (0 + ((0 : Nat) : Int) * 1) ((((n : Int)).toNat : Int) - ((0 : Nat) : Int)) 1 := hI2
  rw [Int.toNat_natCast] at hI2
  refine over_range (fun i s' => ∃ h tk m', s' = { s with heap := h, toks := tk } ∧ OI h₀ L d td h m' (ordL i)) hh hI2 ⟨_, _, _, rfl, X1.ext k2⟩ ?_ ?_
  · rintro i t0 s0 s1 hi hno ⟨oI, hoI⟩ ⟨hx, tkx, mx, rfl, X⟩ ⟨hy, tky, rfl, hk⟩
    generalize hJ : h1.objs.size + 1 = J at *
    have hLJ : L + 1 < J := by rw [← hJ]; exact Nat.lt_succ_of_lt hL1
    have Y := X.off hk hLJ hno
    clear X hk
    with_unfolding_all refine wpAny_storeName_local rfl Y.fr.ns (fun h3 hn3 hs3 => ?_) rfl
    have Y3 := Y.set hs3 hn3 (upd_ne (by decide) rfl)
    have hoI3 : h3.get? J = some oI := hs3.extBut J oI (Nat.ne_of_gt (Nat.lt_of_succ_lt hLJ)) hoI
    obtain ⟨O, xs, mo, lo, no⟩ := Y3.od
    refine anyTok (s := s) (h := h3) fun tk => ?_
    refine wpAny_execs_cons ?_
    with_unfolding_all refine comp_used (cl := []) rfl (closureFor_none (by decide)) (by decide) rfl (by decide) (locC Y3.fr.ns mo (wpAny_pyIter_list lo (comp_two hh rfl (fun _ => rfl) (fun _ => rfl) (I := h3.objs.size) (O := O) (xs := xs) (ll := ordL i) ⟨_, Heap.get?_push_size _ rfl, rfl, rfl⟩ (lo.push _) (no.keeps fun b o _ _ e => Heap.get?_push_of_some _ e) ?_ ?_ ?_)))
    · intro l hl
      have := ordL_each i l hl
      omega
    · rw [ordL_len]
      have : i < n := hi
      exact Nat.le_trans (Nat.pow_le_pow_right (by decide) (show i ≤ 8 by omega)) (by decide)
    rintro D C h4 tk4 m4 ys hD hC hn4 li4 nl4 kp4
    replace hD : D = (h3.push { cls := .type "list_iterator", data := .fields #[.ref O, .int 0 0] }).objs.size := hD
    replace hC : C = (h3.push { cls := .type "list_iterator", data := .fields #[.ref O, .int 0 0] }).objs.size + 1 := hC
    rw [Heap.size_push] at hD hC
    have k34 : Ext h3 h4 := fun b o e => kp4 b o (by simpa using Nat.ne_of_lt (Heap.lt_size e)) (Heap.get?_push_of_some _ e)
    have Y4 := Y3.ext k34
    have hL3 : L < h3.objs.size := Y3.fr.ns.lt
    have hDL : D ≠ L := by rw [hD]; exact Nat.ne_of_gt (Nat.lt_succ_of_lt hL3)
    have hCL : C ≠ L := by rw [hC]; exact Nat.ne_of_gt (Nat.lt_succ_of_lt (Nat.lt_succ_of_lt hL3))
    with_unfolding_all refine wpAny_storeName_local rfl Y4.fr.ns (fun h5 hn5 hs5 => ?_) rfl
    refine ⟨m4, hn4.sameBut hs5 hCL, fun h6 hs6 => ?_⟩
    replace hs5 : Heap.SameBut L h4 h5 := hs5
    replace hs6 : Heap.SameBut C h5 h6 := hs6
    have nsq : ∀ o, h5.get? C = some o → ¬ SeqO o := ns_noSeq (hn4.sameBut hs5 hCL)
    refine wpAny_execs_nil ⟨⟨h6, _, _, rfl, ⟨hn5.sameBut hs6 (Ne.symm hCL), fun b o e => ?_, Y4.fr.above⟩, ?_, D, ys, rfl, ?_, ?_⟩, ?_⟩
    · have lt := Nat.lt_of_lt_of_le (Heap.lt_size e) Y4.fr.above
      exact hs6.extBut b o (by rw [hC]; exact Nat.ne_of_lt (Nat.lt_succ_of_lt (Nat.lt_succ_of_lt (Nat.lt_trans lt hL3)))) (hs5.extBut b o (Nat.ne_of_lt lt) (Y4.fr.keep b o e))
    · obtain ⟨o, e, hd⟩ := Y3.cell
      have lt := Heap.lt_size e
      exact ⟨o, hs6.extBut _ _ (by rw [hC]; exact Nat.ne_of_lt (Nat.lt_succ_of_lt (Nat.lt_succ_of_lt lt))) (hs5.extBut _ _ (Nat.ne_of_gt (Nat.lt_succ_self L)) (k34 _ _ e)), hd⟩
    · exact li4.at fun o e => hs6.extBut D o (by rw [hC, hD]; exact Nat.ne_of_lt (Nat.lt_succ_self _)) (hs5.extBut D o hDL e)
    · exact (nl4.low (Nat.zero_le _)).keeps fun b o _ hq e => by
        have hbL : b ≠ L := by rintro rfl; exact ns_noSeq Y4.fr.ns o e hq
        have e5 := hs5.extBut b o hbL e
        exact hs6.extBut b o (by rintro rfl; exact nsq o e5 hq) e5
    · intro o ho
      obtain rfl : oI = o := Option.some.inj (hoI.symm.trans ho)
      have lt := Heap.lt_size hoI3
      exact hs6.extBut J _ (by rw [hC]; exact Nat.ne_of_lt (Nat.lt_succ_of_lt (Nat.lt_succ_of_lt lt))) (hs5.extBut J _ (Nat.ne_of_gt (Nat.lt_of_succ_lt hLJ)) (k34 _ _ hoI3))
  · rintro s0 s1 hno ⟨hx, tkx, mx, rfl, X⟩ ⟨hy, tky, rfl, hk⟩
    have Y := X.off hk (Nat.lt_succ_of_lt hL1) hno
    obtain ⟨O, xs, mo, lo, no⟩ := Y.od
    refine anyTok (s := s) (h := hy) fun tk => ?_
    have hcy : L + 1 < hy.objs.size := let ⟨_, q, _⟩ := Y.cell; Heap.lt_size q
    with_unfolding_all refine wpAny_execs_cons (wpAny_Return_some (comp_plain (cl := [("dotted", L + 1)]) rfl (by decide) rfl (by decide) (locC Y.fr.ns mo (wpAny_pyIter_list lo (comp_keep (mg := mg) (mb := mb) hh rfl rfl rfl (fun _ => rfl) (fun _ => rfl) (fun _ => rfl) (I := hy.objs.size) (O := O) (cd := L + 1) (d := d) (td := td) (xs := xs) (ll := ordL n) rfl ?_ ⟨_, Heap.get?_push_size _ rfl, rfl, rfl⟩ (lo.push _) (no.keeps fun b o _ _ e => Heap.get?_push_of_some _ e) ?_ ?_ ?_)))))
    · obtain ⟨o, e, hd⟩ := Y.cell
      exact ⟨o, Heap.get?_push_of_some _ e, hd⟩
    · rw [ordL_len]
      exact Nat.le_trans (Nat.pow_le_pow_right (by decide) hn) (by decide)
    · intro h' kp
      exact G.keeps fun b o e => have e' := Y.fr.keep b o e; kp b o (by simpa using Nat.ne_of_lt (Heap.lt_size e')) (Heap.get?_push_of_some _ e')
    · rintro D C h4 tk4 m4 ys hD hC hn4 li4 nl4 kp4
      replace hD : D = (hy.push { cls := .type "list_iterator", data := .fields #[.ref O, .int 0 0] }).objs.size := hD
      replace hC : C = (hy.push { cls := .type "list_iterator", data := .fields #[.ref O, .int 0 0] }).objs.size + 1 := hC
      replace kp4 : Kp [hy.objs.size] (hy.push { cls := .type "list_iterator", data := .fields #[.ref O, .int 0 0] }) h4 := kp4
      replace nl4 : NL 0 (hy.push { cls := .type "list_iterator", data := .fields #[.ref O, .int 0 0] }) ys ((ordL n).filter fun l => l.sum == d) := nl4
      refine ⟨m4, hn4, fun h5 hs5 => ?_⟩
      replace hs5 : Heap.SameBut C h4 h5 := hs5
      have nsq : ∀ o, h4.get? C = some o → ¬ SeqO o := ns_noSeq hn4
      have nit : (hy.push { cls := .type "list_iterator", data := .fields #[.ref O, .int 0 0] }).get? hy.objs.size = some { cls := .type "list_iterator", data := .fields #[.ref O, .int 0 0] } := Heap.get?_push_size _ rfl
      refine h D h5 _ ys (li4.at fun o e => hs5.extBut D o (by rw [hC, hD]; exact Nat.ne_of_lt (Nat.lt_succ_self _)) e) (nl4.keeps fun b o _ hq e => ?_) fun b o e => ?_
      · have e4 := kp4 b o (by intro q; simp at q; subst q; rw [nit] at e; cases e; exact hq) e
        exact hs5.extBut b o (by rintro rfl; exact nsq o e4 hq) e4
      · have e' := Y.fr.keep b o e
        have lt := Heap.lt_size e'
        rw [Heap.size_push] at hC
        exact hs5.extBut b o (by rw [hC]; exact Nat.ne_of_lt (Nat.lt_succ_of_lt (Nat.lt_succ_of_lt lt))) (kp4 b o (by simpa using Nat.ne_of_lt lt) (Heap.get?_push_of_some _ e'))

theorem orders_K {Q : Value → Shared → Prop} {d : Int} {n : Nat} {t u : Tok} (G : Gd mg mb s.heap) (hh : A.handled = none) (hdp : A.depth < recursionLimit) (hn : n ≤ 8) {a : Addr} (ha : mg "_law_orders" = some (.ref a))
    (h : ∀ D h' tk ys, h'.IsList D ys → NL 0 h' ys ((ordL n).filter fun l => l.sum == d) → Ext s.heap h' → Q (.ref D) { s with heap := h', toks := tk }) : wpAny (model prog w) A (call (.ref a) [.int n t, .int d u]) Q E s := by
  obtain ⟨a', o, pm, cd, doc, h1, h2, h3, h4⟩ := G.fn 14 (by simp)
  obtain rfl : a' = a := by
    have : mg (nameAt 14) = some (.ref a) := ha
    rw [h1] at this; injection this with e; injection e
  with_unfolding_all refine wpAny_call (call_cells_ret (binds := [("size", .int n t), ("dotted", .int d u)]) hdp h2 h3 G.lim h4 rfl ?_ (fun h₁ tk Fm X => ?_) rfl rfl rfl)
  · intro x hx
    simp only [List.mem_cons, List.not_mem_nil, or_false] at hx
    rcases hx with rfl | rfl
    · exact .inl rfl
    · exact .inr ⟨rfl, rfl⟩
  · exact orders_body (s := { s with heap := h₁, toks := _ }) G hh Fm (X.cell "dotted" _ rfl) rfl hn fun D h' tk ys a b c => h D h' tk ys a b c
end
end Mine

/-! part C1 -/
namespace Mine
open PySem PySem.Builtin PySem.Builtin.Str

/-! the letter, as a list of signs -/
def zeros : List Int → Nat
  | [] => 0
  | b :: r => (if b = 1 then 0 else 1) + zeros r
def dotRow (stem : List Nat) (c : Nat) : List Nat := List.replicate c 46 ++ (stem ++ [97]) ++ [13, 10]
def plainRow (stem : List Nat) : List Nat := (stem ++ [98, 98]) ++ [13, 10]
def txtK (stem : List Nat) (k : Nat) : List Int → List Nat
  | [] => []
  | b :: r => (if b = 1 then dotRow stem (1 + k + zeros r) else plainRow stem) ++ txtK stem k r
def inv : List Int → Nat
  | [] => 0
  | b :: r => (if b = 1 then zeros r else 0) + inv r
def IsEnd (e : List Nat) : Prop := e = [10] ∨ e = [13] ∨ e = [13, 10]
def Clean (stem : List Nat) : Prop := ∀ c ∈ stem, 192 ≤ c

theorem zeros_snoc (p : List Int) (b : Int) : zeros (p ++ [b]) = zeros p + (if b = 1 then 0 else 1) := by
  induction p with
  | nil => simp [zeros]
  | cons a p ih => simp only [List.cons_append, zeros, ih]; omega
theorem txt_one {stem : List Nat} (k : Nat) (p : List Int) : txtK stem k (p ++ [1]) = txtK stem k p ++ dotRow stem (1 + k) := by
  induction p with
  | nil => simp [txtK, zeros]
  | cons a p ih =>
    simp only [List.cons_append, txtK, ih, zeros_snoc, if_true, Nat.add_zero, List.append_assoc]
theorem txt_other {stem : List Nat} (k : Nat) (p : List Int) {b : Int} (hb : b ≠ 1) : txtK stem k (p ++ [b]) = txtK stem (k + 1) p ++ plainRow stem := by
  induction p with
  | nil => simp [txtK, hb]
  | cons a p ih =>
    simp only [List.cons_append, txtK, ih, zeros_snoc, if_neg hb, List.append_assoc]
    rw [show 1 + k + (zeros p + 1) = 1 + (k + 1) + zeros p by omega]
theorem inv_snoc (p : List Int) (b : Int) : inv (p ++ [b]) = inv p + (if b = 1 then 0 else p.length - zeros p) := by
  have le : ∀ p : List Int, zeros p ≤ p.length := by
    intro p; induction p with
    | nil => simp [zeros]
    | cons a p ih => simp only [zeros, List.length_cons]; split <;> omega
  induction p with
  | nil => simp [inv, zeros]
  | cons a p ih =>
    have := le p
    simp only [List.cons_append, inv, ih, zeros_snoc, zeros, List.length_cons]
    by_cases ha : a = 1 <;> by_cases hb : b = 1 <;> simp only [ha, hb, if_true, if_false] <;> omega
theorem txt_len {stem : List Nat} (p : List Int) : (txtK stem 0 p).length = p.length * (stem.length + 4) + inv p := by
  induction p with
  | nil => simp [txtK, inv]
  | cons a p ih =>
    simp only [txtK, List.length_append, ih, inv, List.length_cons, Nat.add_mul]
    by_cases ha : a = 1
    · simp [ha, dotRow]; omega
    · simp [ha, plainRow]; omega
theorem inv_le (p : List Int) : inv p ≤ p.length * p.length := by
  have le : ∀ p : List Int, zeros p ≤ p.length := by
    intro p; induction p with
    | nil => simp [zeros]
    | cons a p ih => simp only [zeros, List.length_cons]; split <;> omega
  induction p with
  | nil => simp [inv]
  | cons a p ih =>
    have := le p
    have e : (p.length + 1) * (p.length + 1) = p.length * p.length + p.length + p.length + 1 := by
      rw [Nat.add_mul, Nat.mul_add, Nat.mul_one, Nat.one_mul]; omega
    simp only [inv, List.length_cons, e]
    split <;> omega

theorem fix_clean {u : List Nat} (h : ∀ c ∈ u, c ≠ 10 ∧ c ≠ 13) (v : List Nat) : fixL (u ++ v) = u ++ fixL v := fixL_clean u v fun c hc e => by
  rcases e with e | e
  · exact (h c hc).1 e
  · exact (h c hc).2 e
theorem dot_fix {stem : List Nat} (hs : Clean stem) (n : Nat) (v : List Nat) : fixL (dotRow stem n ++ v) = dotRow stem n ++ fixL v := by
  unfold dotRow
  rw [List.append_assoc, fix_clean, show [13, 10] ++ v = 13 :: 10 :: v from rfl, fixL_crlf]
  · simp
  · intro c hc
    simp only [List.mem_append, List.mem_replicate, List.mem_cons, List.not_mem_nil, or_false] at hc
    rcases hc with ⟨-, rfl⟩ | hc | rfl
    · decide
    · have := hs c hc; omega
    · decide
theorem plain_fix {stem : List Nat} (hs : Clean stem) (v : List Nat) : fixL (plainRow stem ++ v) = plainRow stem ++ fixL v := by
  unfold plainRow
  rw [List.append_assoc, fix_clean, show [13, 10] ++ v = 13 :: 10 :: v from rfl, fixL_crlf]
  · simp
  · intro c hc
    simp only [List.mem_append, List.mem_cons, List.not_mem_nil, or_false] at hc
    rcases hc with hc | rfl | rfl
    · have := hs c hc; omega
    · decide
    · decide
theorem txt_fix {stem : List Nat} (hs : Clean stem) (k : Nat) (p : List Int) (v : List Nat) : fixL (txtK stem k p ++ v) = txtK stem k p ++ fixL v := by
  induction p with
  | nil => rfl
  | cons a p ih =>
    simp only [txtK, List.append_assoc]
    split
    · rw [dot_fix hs, ih]
    · rw [plain_fix hs, ih]
theorem end_fix {e : List Nat} (h : IsEnd e) : fixL e = [13, 10] := by
  rcases h with rfl | rfl | rfl
  · rw [fixL_lf]; rfl
  · rw [fixL_cr _ (by simp)]; rfl
  · rw [fixL_crlf]; rfl

theorem quote_row {u : List Nat} (h10 : ∀ c ∈ u, c ≠ 10) (hne : u ≠ []) (v : List Nat) : quoteL false (u ++ ([13, 10] ++ v)) = u ++ ([13, 10] ++ quoteL true v) := by
  rw [quoteL_clean u _ false h10 (fun x => by cases x) hne]
  simp [quoteL]
theorem dot_quote {stem : List Nat} (hs : Clean stem) (n : Nat) (v : List Nat) : quoteL true (dotRow stem (n + 1) ++ v) = dotRow stem (n + 2) ++ quoteL true v := by
  unfold dotRow
  rw [List.append_assoc]
  have e : List.replicate (n + 1) 46 ++ (stem ++ [97]) = 46 :: (List.replicate n 46 ++ (stem ++ [97])) := by rw [List.replicate_succ]; rfl
  rw [e, List.cons_append, quoteL, if_pos ⟨rfl, rfl⟩, quote_row]
  · rw [List.replicate_succ, List.replicate_succ]; simp
  · intro c hc
    simp only [List.mem_append, List.mem_replicate, List.mem_cons, List.not_mem_nil, or_false] at hc
    rcases hc with ⟨-, rfl⟩ | hc | rfl
    · decide
    · have := hs c hc; omega
    · decide
  · simp
theorem plain_quote {stem : List Nat} (hs : Clean stem) (v : List Nat) : quoteL true (plainRow stem ++ v) = plainRow stem ++ quoteL true v := by
  unfold plainRow
  have h10 : ∀ c ∈ stem ++ [98, 98], c ≠ 10 := by
    intro c hc
    simp only [List.mem_append, List.mem_cons, List.not_mem_nil, or_false] at hc
    rcases hc with hc | rfl | rfl
    · have := hs c hc; omega
    · decide
    · decide
  rw [List.append_assoc, quoteL_clean (stem ++ [98, 98]) _ true h10 ?_ (by simp)]
  · simp [quoteL]
  · intro _ c r e
    have hm : c ∈ stem ++ [98, 98] := e ▸ List.mem_cons_self
    simp only [List.mem_append, List.mem_cons, List.not_mem_nil, or_false] at hm
    rcases hm with hc | rfl | rfl
    · have := hs c hc; omega
    · decide
    · decide
theorem txt_quote {stem : List Nat} (hs : Clean stem) (k : Nat) (p : List Int) (v : List Nat) : quoteL true (txtK stem k p ++ v) = txtK stem (k + 1) p ++ quoteL true v := by
  induction p with
  | nil => rfl
  | cons a p ih =>
    simp only [txtK, List.append_assoc]
    split
    · rw [show 1 + k + zeros p = (k + zeros p) + 1 by omega, dot_quote hs, ih, show 1 + (k + 1) + zeros p = (k + zeros p) + 2 by omega]
    · rw [plain_quote hs, ih]

theorem row_one {stem : List Nat} (hs : Clean stem) (p : List Int) {e : List Nat} (he : IsEnd e) : fixL (txtK stem 0 p ++ ([46] ++ stem ++ [97]) ++ e) = txtK stem 0 (p ++ [1]) := by
  rw [List.append_assoc, txt_fix hs, fix_clean, end_fix he, txt_one]
  · simp [dotRow]
  · intro c hc
    simp only [List.mem_append, List.mem_cons, List.not_mem_nil, or_false] at hc
    rcases hc with (rfl | hc) | rfl
    · decide
    · have := hs c hc; omega
    · decide
theorem row_other {stem : List Nat} (hs : Clean stem) (p : List Int) {e : List Nat} (he : IsEnd e) {b : Int} (hb : b ≠ 1) : quoteL true (fixL (txtK stem 0 p ++ (stem ++ [98, 98]) ++ e)) = txtK stem 0 (p ++ [b]) := by
  rw [List.append_assoc, txt_fix hs, fix_clean, end_fix he, txt_other 0 p hb, txt_quote hs]
  · congr 1
    have := plain_quote hs []
    simpa [plainRow, quoteL] using this
  · intro c hc
    simp only [List.mem_append, List.mem_cons, List.not_mem_nil, or_false] at hc
    rcases hc with hc | rfl | rfl
    · have := hs c hc; omega
    · decide
    · decide
theorem fall_txt {stem : List Nat} (hs : Clean stem) : quoteL true (fixL (([46] ++ stem ++ [97]) ++ [10] ++ (stem ++ [98, 98]) ++ [10])) = txtK stem 0 [1, 0] := by
  have h1 : ∀ c ∈ [46] ++ stem ++ [97], c ≠ 10 ∧ c ≠ 13 := by
    intro c hc
    simp only [List.mem_append, List.mem_cons, List.not_mem_nil, or_false] at hc
    rcases hc with (rfl | hc) | rfl
    · decide
    · have := hs c hc; omega
    · decide
  have e : fixL (([46] ++ stem ++ [97]) ++ [10] ++ (stem ++ [98, 98]) ++ [10]) = txtK stem 0 [1] ++ plainRow stem := by
    rw [List.append_assoc, List.append_assoc, fix_clean h1]
    show _ ++ fixL (10 :: ((stem ++ [98, 98]) ++ [10])) = _
    rw [fixL_lf]
    have := row_other hs [] (e := [10]) (.inl rfl) (b := 0) (by decide)
    rw [fix_clean, end_fix (.inl rfl)]
    · simp [txtK, dotRow, plainRow, zeros]
    · intro c hc
      simp only [List.mem_append, List.mem_cons, List.not_mem_nil, or_false] at hc
      rcases hc with hc | rfl | rfl
      · have := hs c hc; omega
      · decide
      · decide
  rw [e, txt_quote hs]
  have := plain_quote hs []
  rw [List.append_nil] at this
  rw [this]
  have := txt_other (stem := stem) 0 [1] (b := 0) (by decide)
  rw [show ([1, 0] : List Int) = [1] ++ [0] from rfl, this]
  simp [quoteL]

/-- a dotted row ahead of a plain one, at the end -/
def fallAt (p : List Int) : Bool := match p.reverse with
  | b :: c :: _ => !(b == 1) && c == 1
  | _ => false
theorem suf_iff (x y : Str) : Txt.endswith x y = decide (y.cps.toList <:+ x.cps.toList) := by
  unfold Txt.endswith
  rw [StrLaws.subAt_eq]
  rw [Bool.eq_iff_iff]
  simp only [Bool.and_eq_true, decide_eq_true_eq, beq_iff_eq, Nat.zero_add]
  show y.cps.size ≤ x.cps.size ∧ (x.cps.toList.drop (x.cps.size - y.cps.size)).take y.cps.size = y.cps.toList ↔ _
  rw [List.suffix_iff_eq_drop]
  have e : (x.cps.toList.drop (x.cps.size - y.cps.size)).length ≤ y.cps.size ∨ x.cps.size < y.cps.size := by
    rw [List.length_drop, Array.length_toList]; omega
  have l1 : x.cps.toList.length = x.cps.size := Array.length_toList
  have l2 : y.cps.toList.length = y.cps.size := Array.length_toList
  rw [l1, l2]
  constructor
  · rintro ⟨h1, h2⟩
    rw [List.take_of_length_le (by rw [List.length_drop]; omega)] at h2
    exact h2.symm
  · intro h
    have hl := congrArg List.length h
    rw [List.length_drop, l1, l2] at hl
    exact ⟨by omega, by rw [← h, List.take_of_length_le (by omega)]⟩

theorem suf_last {u v a b : List Nat} (h : u ++ a <:+ v ++ b) (hl : a.length = b.length) : a = b := by
  obtain ⟨t, e⟩ := h
  rw [← List.append_assoc] at e
  exact (List.append_inj' e hl).2
theorem suf_strip {u v a : List Nat} : u ++ a <:+ v ++ a ↔ u <:+ v := by
  constructor
  · rintro ⟨t, e⟩
    rw [← List.append_assoc] at e
    exact ⟨t, (List.append_inj' e rfl).1⟩
  · rintro ⟨t, e⟩
    exact ⟨t, by rw [← e, List.append_assoc]⟩
theorem tail3 (x : List Nat) (a b c : Nat) (y : List Nat) : y ++ (x ++ [a] ++ [b, c]) = (y ++ x) ++ [a, b, c] := by simp
theorem dot_tail (stem : List Nat) (n : Nat) : dotRow stem n = (List.replicate n 46 ++ stem) ++ [97, 13, 10] := by simp [dotRow]
theorem plain_tail (stem : List Nat) : plainRow stem = (stem ++ [98]) ++ [98, 13, 10] := by simp [plainRow]
theorem tl_eq (stem : List Nat) : txtK stem 0 [1, 0] = dotRow stem 2 ++ plainRow stem := by simp [txtK, zeros]
theorem fallAt_one (q : List Int) : fallAt (q ++ [1]) = false := by
  unfold fallAt
  rw [List.reverse_append]
  generalize q.reverse = r
  cases r <;> rfl
theorem falls_here {stem : List Nat} (p : List Int) : (txtK stem 0 [1, 0] <:+ txtK stem 0 p) ↔ fallAt p = true := by
  rw [tl_eq]
  rcases List.eq_nil_or_concat p with rfl | ⟨q, b, rfl⟩
  · simp [txtK, fallAt, plainRow]
  · rw [List.concat_eq_append]
    by_cases hb : b = 1
    · subst hb
      rw [txt_one]
      constructor
      · intro h
        rw [plain_tail, dot_tail stem (1 + 0), ← List.append_assoc, ← List.append_assoc (txtK stem 0 q)] at h
        exact absurd (suf_last h rfl) (by decide)
      · intro h; rw [fallAt_one] at h; cases h
    · rw [txt_other 0 q hb, suf_strip]
      rcases List.eq_nil_or_concat q with rfl | ⟨r, c, rfl⟩
      · simp [txtK, fallAt, dotRow]
      · rw [List.concat_eq_append]
        by_cases hc : c = 1
        · subst hc
          rw [txt_one]
          simp [fallAt, hb]
        · rw [txt_other _ r hc]
          constructor
          · intro h
            rw [plain_tail, dot_tail, ← List.append_assoc] at h
            exact absurd (suf_last h rfl) (by decide)
          · intro h; simp [fallAt, hc] at h

/-! split at the three dots -/
theorem occ_rest (x y : Str) (hi lim : Nat) : ∀ (l : List Nat) (st : Array Nat × Nat), (∀ i ∈ l, ¬ (((st.fst.size < lim ∧ st.snd ≤ i) ∧ i + y.length ≤ hi) ∧ subAt x y i = true)) → (forIn l st (StrLaws.occBody x y hi lim)).run = st
  | [], st, _ => rfl
  | i :: l, st, h => by
    rw [List.forIn_cons]
    have : StrLaws.occBody x y hi lim i st = pure (.yield (st.fst, st.snd)) := by
      unfold StrLaws.occBody
      rw [if_neg (h i (.head _))]
    rw [this]
    exact occ_rest x y hi lim l st fun j hj => h j (.tail _ hj)
theorem occ_once {x y : Str} {lim : Nat} (hlim : 1 ≤ lim) (hy : y.length = 3) (hx : 3 ≤ x.length) (h0 : subAt x y 0 = true) (h : ∀ i, 3 ≤ i → i + 3 ≤ x.length → subAt x y i = false) : occurrences x y 0 x.length lim = [0] := by
  rw [StrLaws.occ_eq, Nat.sub_zero, List.range'_succ, List.forIn_cons]
  have hb : StrLaws.occBody x y x.length lim 0 (#[], 0) = pure (.yield (#[0], 3)) := by
    unfold StrLaws.occBody
    rw [if_pos ⟨⟨⟨by simp; omega, Nat.le_refl _⟩, by omega⟩, h0⟩]
    simp [hy]
  rw [hb]
  have := occ_rest x y x.length lim (List.range' (0 + 1) x.length) (#[0], 3) (by
    rintro i hi ⟨⟨⟨-, h1⟩, h2⟩, h3⟩
    rw [h i h1 (by omega)] at h3; cases h3)
  show (forIn (List.range' (0 + 1) x.length) (#[0], 3) (StrLaws.occBody x y x.length lim)).run.fst.toList = _
  rw [this]

def fallS (stem : List Nat) : Str := ⟨([46, 46, 46] ++ txtK stem 0 [1, 0]).toArray⟩
def tlS (stem : List Nat) : Str := ⟨(txtK stem 0 [1, 0]).toArray⟩
def dots3 : Str := ⟨#[46, 46, 46]⟩
theorem fall_occ {stem : List Nat} (hs : Clean stem) {lim : Nat} (hlim : 1 ≤ lim) : occurrences (fallS stem) dots3 0 (fallS stem).length lim = [0] := by
  have e : (fallS stem).cps.toList = [46, 46, 46, 46, 46] ++ (stem ++ [97, 13, 10] ++ plainRow stem) := by
    simp [fallS, tl_eq, dotRow]
  refine occ_once hlim rfl ?_ ?_ ?_
  · show 3 ≤ (fallS stem).cps.size
    rw [← Array.length_toList, e]; simp
  · rw [StrLaws.subAt_eq, e]; rfl
  · intro i h1 h2
    rw [StrLaws.subAt_eq, e, beq_eq_false_iff_ne]
    intro q
    have hq := congrArg (fun l => l[2]?) q
    simp only [dots3, Str.length] at hq
    rw [List.getElem?_take_of_lt (by decide), List.getElem?_drop, List.getElem?_append_right (by simp; omega)] at hq
    have hm := List.mem_of_getElem? hq
    simp only [plainRow, List.mem_append, List.mem_cons, List.not_mem_nil, or_false] at hm
    rcases hm with (hm | h | h | h) | (hm | h | h) | h | h
    · have := hs _ hm; omega
    all_goals first | (have := hs _ hm; omega) | (revert h; decide)
theorem fall_contains {stem : List Nat} (hs : Clean stem) : Txt.contains (fallS stem) dots3 = true := by
  unfold Txt.contains
  rw [fall_occ hs (Nat.le_refl _)]; rfl
theorem fall_split {stem : List Nat} (hs : Clean stem) : Txt.split (fallS stem) dots3 = [⟨#[]⟩, tlS stem] := by
  have hl : 3 ≤ (fallS stem).length := by
    show 3 ≤ (fallS stem).cps.size
    rw [← Array.length_toList]
    simp [fallS]
  unfold Txt.split
  rw [fall_occ hs (by omega)]
  have k1 : PySem.Builtin.Str.strKind dots3 = 1 := by unfold PySem.Builtin.Str.strKind dots3; simp
  have k2 : ¬ PySem.Builtin.Str.strKind (fallS stem) < PySem.Builtin.Str.strKind dots3 := by
    rw [k1]; unfold PySem.Builtin.Str.strKind; split
    · decide
    · split <;> decide
  rw [if_neg (by simp only [Bool.or_eq_true, decide_eq_true_eq, not_or]; exact ⟨by show ¬ (fallS stem).length < 3; omega, k2⟩), if_neg (by simp)]
  unfold partsBetween
  simp only [List.map_cons, List.map_nil, List.cons_append, List.nil_append, List.zip_cons_cons, List.zip_nil_right]
  have e1 : strSub (fallS stem) 0 0 = ⟨#[]⟩ := by unfold strSub; simp
  have e2 : strSub (fallS stem) (0 + dots3.length) (fallS stem).length = tlS stem := by
    unfold strSub
    simp [fallS, tlS, dots3, Str.length]
    done
  rw [e1, e2]
end Mine

/-! part C2 -/
namespace Mine
open PySem

def fallsN (o : List Int) : Nat → Int
  | 0 => 0
  | k + 1 => fallsN o k + (if fallAt (o.take (k + 1)) = true then (k : Int) else 0)
def lastI (o : List Int) : Int := o.getD (o.length - 1) 0
def oneB (o : List Int) : List (Int × Int × Int) := merge [(2 * (inv o : Int) + lastI o, 1, 0)] [(2 * fallsN o o.length + lastI o, 0, 1)]
def ordD (n d : Nat) : List (List Int) := (ordL n).filter fun l => l.sum == (d : Int)
def bookL (os : List (List Int)) : List (Int × Int × Int) := os.foldl (fun bk o => merge bk (oneB o)) []
def due1 (d : Nat) (l : List Int) : List (Int × Int) := (List.range l.length).map fun (k : Nat) => (2 * ((k : Int) + d), l.getD k 0)
def due2 (l : List Int) : List (Int × Int) := (List.range l.length).map fun (k : Nat) => (2 * (k : Int) + 1, l.getD k 0)
def dueL (n d : Nat) : List (Int × Int) := due1 d (gauss d (n - d - 1)) ++ due2 (gauss (d - 1) (n - d))
def dueB (l : List (Int × Int)) : List (Int × Int × Int) := l.foldl (fun b y => put b y.1 (y.2, y.2)) []
def sameB (l1 l2 : List (Int × Int × Int)) : Bool := l1.length == l2.length && l1.all fun y => match l2.find? (fun z => z.1 = y.1) with
  | some z => y.2.1 == z.2.1 && y.2.2 == z.2.2
  | none => false

def okAll : Bool := [((4 : Nat), (1 : Nat)), (4, 2), (4, 3), (5, 1), (5, 2), (5, 3), (5, 4)].all fun y => sameB (bookL (ordD y.1 y.2)) (dueB (dueL y.1 y.2)) && decide ((dueL y.1 y.2).length ≤ 100) && decide ((ordD y.1 y.2).length ≤ 100)
theorem ok_all : okAll = true := by decide +kernel
theorem macmahon {n d : Nat} (h : n = 4 ∨ n = 5) (h1 : 1 ≤ d) (h2 : d < n) : sameB (bookL (ordD n d)) (dueB (dueL n d)) = true ∧ (dueL n d).length ≤ 100 ∧ (ordD n d).length ≤ 100 := by
  have key := List.all_eq_true.mp ok_all
  have go : ∀ y ∈ [((4 : Nat), (1 : Nat)), (4, 2), (4, 3), (5, 1), (5, 2), (5, 3), (5, 4)], y = (n, d) → sameB (bookL (ordD n d)) (dueB (dueL n d)) = true ∧ (dueL n d).length ≤ 100 ∧ (ordD n d).length ≤ 100 := by
    intro y hy e
    have := key y hy
    subst e
    simp only [Bool.and_eq_true, decide_eq_true_eq] at this
    exact ⟨this.1.1, this.1.2, this.2⟩
  rcases h with rfl | rfl
  · have : d = 1 ∨ d = 2 ∨ d = 3 := by omega
    rcases this with rfl | rfl | rfl
    · exact go _ (by decide) rfl
    · exact go _ (by decide) rfl
    · exact go _ (by decide) rfl
  · have : d = 1 ∨ d = 2 ∨ d = 3 ∨ d = 4 := by omega
    rcases this with rfl | rfl | rfl | rfl
    · exact go _ (by decide) rfl
    · exact go _ (by decide) rfl
    · exact go _ (by decide) rfl
    · exact go _ (by decide) rfl
end Mine

/-! part B15 -/
namespace Mine
open PySem PySem.Calls PyProof.Rows
set_option maxRecDepth 100000

theorem ints_of : ∀ {vs : List Value} {ns : List Int}, IntsAre vs ns → ∀ {i : Nat} {n : Int}, ns[i]? = some n → ∃ t, vs[i]? = some (.int n t)
  | _, _, .nil, i, n, h => by simp at h
  | _, _, .cons m t r, 0, n, h => by simp at h; subst h; exact ⟨t, rfl⟩
  | _, _, .cons m t r, i + 1, n, h => by simpa using ints_of r (i := i) (n := n) (by simpa using h)
theorem Ints.of {items : Array Value} {ns : List Int} (h : IntsAre items.toList ns) : Ints items ns :=
  ⟨by rw [← h.length]; simp, fun i n e => by obtain ⟨t, q⟩ := ints_of h e; exact ⟨t, by rw [← Array.getElem?_toList]; exact q⟩⟩
theorem intsAre_of : ∀ (vs : List Value) (ns : List Int), vs.length = ns.length → (∀ (i : Nat) (n : Int), ns[i]? = some n → ∃ t, vs[i]? = some (.int n t)) → IntsAre vs ns
  | [], [], _, _ => .nil
  | [], _ :: _, h, _ => by simp at h
  | _ :: _, [], h, _ => by simp at h
  | v :: vs, n :: ns, h, e => by
    obtain ⟨t, q⟩ := e 0 n rfl
    simp at q; subst q
    exact .cons n t (intsAre_of vs ns (by simpa using h) fun i k hk => by simpa using e (i + 1) k (by simpa using hk))
theorem Ints.are {items : Array Value} {ns : List Int} (h : Ints items ns) : IntsAre items.toList ns :=
  intsAre_of _ _ (by rw [Array.length_toList]; exact h.1) fun i n e => by obtain ⟨t, q⟩ := h.2 i n e; exact ⟨t, by rw [Array.getElem?_toList]; exact q⟩

section
variable {prog : Program} {w : World} {A : Around} {E : Value → Shared → Prop} {s : Shared} {env : Env}

/-- value[:k] -/
theorem sl_to {value : Expr} {l : Addr} {items : Array Value} {ns : List Int} {k : Int} {p q pos : Pos} {kk : Nat} {Q : Value → Shared → Prop} (hk : 0 ≤ k)
    (hv : ∀ Q' : Value → Shared → Prop, Q' (.ref l) s → wpAny (model prog w) A (eval value env) Q' E s) (hl : s.heap.IsList l items) (hi : Ints items ns) (hsz : items.size ≤ 1000)
    (h : ∀ h' tk items', h'.IsList (s.heap.objs.size + 1) items' → Ints items' (ns.take k.toNat) → Ext s.heap h' → h'.objs.size = s.heap.objs.size + 2 → Q (.ref (s.heap.objs.size + 1)) { s with heap := h', toks := tk })
    (ht : ∀ o r, letTemporaryGo value o r = pure () := by intro _ _; rfl) :
    wpAny (model prog w) A (eval (.Subscript value (.Slice none (some (.Constant (.int k) kk p)) none q) pos) env) Q E s := by
  have hsl : sizeLine = 2 ^ 24 := rfl
  refine wpAny_Subscript_list_slice (hv _ (evalPart_none_step (evalPart_some_step (wpAny_Constant_int ⟨l, items, none, some k, rfl, hl, by omega, .none, .int k _, ?_⟩)))) ht
  have hz : ∀ o, (s.heap.push o).objs.size = s.heap.objs.size + 1 := fun o => Heap.size_push ..
  refine h _ _ (slicePick items none (some k) none) ?_ (Ints.of ?_) (fun b o e => Heap.get?_push_of_some _ (Heap.get?_push_of_some _ e)) (by show ((s.heap.push _).push _).objs.size = _; rw [Heap.size_push, hz])
  · refine ⟨{ cls := .type "list", data := .seq (slicePick items none (some k) none) }, ?_, rfl, _, rfl⟩
    rw [← hz { cls := .type "slice", data := .fields #[.none, .int k s.toks, .none] }]
    exact Heap.get?_push_size _ rfl
  · have := slice_ints_uptoW hi.are hk
    simpa using this

/-- value[i::k] -/
theorem sl_step {value : Expr} {l : Addr} {items : Array Value} {ns : List Int} {i k : Int} {ti : Tok} {e1 : Expr} {p q pos : Pos} {kk : Nat} {Q : Value → Shared → Prop} (hk : k ≠ 0)
    (hv : ∀ Q' : Value → Shared → Prop, Q' (.ref l) s → wpAny (model prog w) A (eval value env) Q' E s) (hv1 : ∀ Q' : Value → Shared → Prop, Q' (.int i ti) s → wpAny (model prog w) A (eval e1 env) Q' E s) (hl : s.heap.IsList l items) (hi : Ints items ns) (hsz : items.size ≤ 1000)
    (h : ∀ h' tk items' ns', h'.IsList (s.heap.objs.size + 1) items' → Ints items' ns' → Ext s.heap h' → h'.objs.size = s.heap.objs.size + 2 → Q (.ref (s.heap.objs.size + 1)) { s with heap := h', toks := tk })
    (ht : ∀ o r, letTemporaryGo value o r = pure () := by intro _ _; rfl) :
    wpAny (model prog w) A (eval (.Subscript value (.Slice (some e1) none (some (.Constant (.int k) kk p)) q) pos) env) Q E s := by
  have hsl : sizeLine = 2 ^ 24 := rfl
  refine wpAny_Subscript_Slice_step (T := "list") list_getitem_lookup (hv _ (wpAny_Slice (evalPart_some_step (hv1 _ (evalPart_none_step (evalPart_some_step (wpAny_Constant_int ⟨(hl.push _).typeIs, ?_⟩))))))) ht
  refine wpAny_getItem_list_slice (hl.push _) (Heap.IsSliceOf.new ..) (.int i ti) .none (.int k _) (by simpa using hk) ?_ (by omega)
  have hz : ∀ o, (s.heap.push o).objs.size = s.heap.objs.size + 1 := fun o => Heap.size_push ..
  show Q (.ref (s.heap.push _).objs.size) _
  rw [hz]
  refine h _ _ (slicePick items (some i) none (some k)) (pickNums ns (some i) none (some k)) ?_ (Ints.of (by have := hi.are.pick (some i) none (some k); simpa using this)) (fun b o e => Heap.get?_push_of_some _ (Heap.get?_push_of_some _ e)) (by show ((s.heap.push _).push _).objs.size = _; rw [Heap.size_push, hz])
  refine ⟨{ cls := .type "list", data := .seq (slicePick items (some i) none (some k)) }, ?_, rfl, _, rfl⟩
  rw [← hz { cls := .type "slice", data := .fields #[.int i ti, .none, .int k s.toks] }]
  exact Heap.get?_push_size _ rfl
end

/-- what stays of the law's frame -/
structure LW (z : Array Value) (c TB : Addr) (hB : Heap) (L : Addr) (h : Heap) (m : Str → Option Value) (cv : Nat → Option Value) : Prop where
  fr : Fr hB L h m
  cell : ∀ i, 1 ≤ i → i ≤ 4 → h.IsCell (L + i) (cv i)
  tb : Tb z c TB h
  ltT : TB < L
  ltc : c < L
section
variable {z : Array Value} {c TB : Addr} {hB h h' : Heap} {L : Addr} {m m' : Str → Option Value} {cv : Nat → Option Value}
theorem LW.ext (x : LW z c TB hB L h m cv) (k : Ext h h') : LW z c TB hB L h' m cv :=
  ⟨⟨x.fr.ns.keeps k, fun b o e => k b o (x.fr.keep b o e), x.fr.above⟩, fun i a b => let ⟨o, e, hd⟩ := x.cell i a b; ⟨o, k _ _ e, hd⟩, x.tb.at2 (fun o e => k _ o e) (fun o e => k _ o e), x.ltT, x.ltc⟩
theorem LW.set (x : LW z c TB hB L h m cv) (hs : Heap.SameBut L h h') (hn : h'.Ns L m') : LW z c TB hB L h' m' cv :=
  ⟨x.fr.set hn hs, fun i a b => (x.cell i a b).sameBut hs (Nat.ne_of_gt (Nat.lt_add_of_pos_right a)), x.tb.at2 (fun o e => hs.extBut c o (Nat.ne_of_lt x.ltc) e) (fun o e => hs.extBut TB o (Nat.ne_of_lt x.ltT) e), x.ltT, x.ltc⟩
theorem LW.off (x : LW z c TB hB L h m cv) {I : Addr} (k : ∀ b o, b ∉ [I] → h.get? b = some o → h'.get? b = some o) (hI : L + 4 < I) : LW z c TB hB L h' m cv :=
  have hL : L < I := Nat.lt_of_le_of_lt (Nat.le_add_right _ _) hI
  ⟨Fr_off x.fr k hL, fun i a b => let ⟨o, e, hd⟩ := x.cell i a b; ⟨o, k _ _ (by simpa using Nat.ne_of_lt (Nat.lt_of_le_of_lt (Nat.add_le_add_left b L) hI)) e, hd⟩,
    x.tb.at2 (fun o e => k c o (by simpa using Nat.ne_of_lt (Nat.lt_trans x.ltc hL)) e) (fun o e => k TB o (by simpa using Nat.ne_of_lt (Nat.lt_trans x.ltT hL)) e), x.ltT, x.ltc⟩
theorem LW.put (x : LW z c TB hB L h m cv) {i : Nat} (h1 : 1 ≤ i) {v : Option Value} (hs : Heap.SameBut (L + i) h h') (hv : h'.IsCell (L + i) v) : LW z c TB hB L h' m (fun j => if j = i then v else cv j) :=
  have hL : L < L + i := Nat.lt_add_of_pos_right h1
  ⟨⟨x.fr.ns.sameBut hs (Nat.ne_of_lt hL), fun b o e => hs.extBut b o (Nat.ne_of_lt (Nat.lt_trans (Nat.lt_of_lt_of_le (Heap.lt_size e) x.fr.above) hL)) (x.fr.keep b o e), x.fr.above⟩,
    fun j a b => by
      by_cases e : j = i
      · subst e; simpa using hv
      · simp only [e, if_false]
        exact (x.cell j a b).sameBut hs fun q => e (Nat.add_left_cancel q),
    x.tb.at2 (fun o e => hs.extBut c o (Nat.ne_of_lt (Nat.lt_trans x.ltc hL)) e) (fun o e => hs.extBut TB o (Nat.ne_of_lt (Nat.lt_trans x.ltT hL)) e), x.ltT, x.ltc⟩
theorem LW.tab (x : LW z c TB hB L h m cv) (hBT : hB.get? TB = none) (k : Kp [TB] h h') (t : Tb z c TB h') : LW z c TB hB L h' m cv :=
  ⟨⟨x.fr.ns.at' fun o e => k L o (by simpa using Nat.ne_of_gt x.ltT) e, fun b o e => k b o (by simp; rintro rfl; rw [hBT] at e; cases e) (x.fr.keep b o e), x.fr.above⟩,
    fun i a b => let ⟨o, e, hd⟩ := x.cell i a b; ⟨o, k _ _ (by simpa using Nat.ne_of_gt (Nat.lt_of_lt_of_le x.ltT (Nat.le_add_right _ _))) e, hd⟩, t, x.ltT, x.ltc⟩
theorem LW.big (x : LW z c TB hB L h m cv) : L + 4 < h.objs.size := let ⟨_, e, _⟩ := x.cell 4 (by decide) (by decide); Heap.lt_size e
end
end Mine

/-! part B16 -/
namespace Mine
open PySem PySem.Calls PyProof.Rows
set_option maxRecDepth 100000
section
variable {prog : Program} {w : World} {A : Around} {E : Value → Shared → Prop} {s : Shared} {mg mb : Str → Option Value}

theorem cellC {i : Nat} {L a : Addr} {cd : Value} {x : Str} {pos : Pos} {k : Nat} {v : Value} {cv : Nat → Option Value} {Q : Value → Shared → Prop} (hc : s.heap.IsCell (L + k) (cv k)) (hv : cv k = some v) (h : Q v s)
    (hl : (cellsFrom (L + 1) (scopeAt i).names []).lookup x = some (L + k) := by rfl) (hk : (scopeAt i).kind = .function := by rfl) (hx : (envC i L a cd).kindOf x = some .cell := by rfl) (hd : (x == ("__debug__" : Str)) = false := by decide) :
    wpAny (model prog w) A (eval (.Name x pos) (envC i L a cd)) Q E s := wpAny_Name (wpAny_loadName_cell hk hx hl (hv ▸ hc) h) hd
theorem putC {i : Nat} {L a : Addr} {cd : Value} {x : Str} {k : Nat} {v : Value} {u : Option Value} {Q : Unit → Shared → Prop} (hc : s.heap.IsCell (L + k) u) (h : ∀ h', h'.IsCell (L + k) (some v) → Heap.SameBut (L + k) s.heap h' → Q () { s with heap := h' })
    (hl : (cellsFrom (L + 1) (scopeAt i).names []).lookup x = some (L + k) := by rfl) (hk : (scopeAt i).kind = .function := by rfl) (hx : (envC i L a cd).kindOf x = some .cell := by rfl) :
    wpAny (model prog w) A (storeName (envC i L a cd) x v) Q E s := wpAny_storeName_cell hk hx hl hc fun h' hv hs => h h' hv hs

theorem add_eq {x y r : Int} {t u : Tok} {Q : Value → Shared → Prop} (e : x + y = r) (h : Q (.int r s.toks) { s with toks := s.toks + 1 }) : wpAny (model prog w) A (binaryOp .Add (.int x t) (.int y u)) Q E s := P.add_int (by rw [e]; exact h)
def size_ (t : Int) : Nat := 4 + (t.fmod 2).toNat
def dotted_ (t : Int) : Nat := 1 + ((t.fdiv 2 + 1).fmod ((size_ t : Int) - 1)).toNat
theorem size_eq (t : Int) : (4 : Int) + t.fmod 2 = (size_ t : Int) := by
  have := Int.fmod_nonneg_of_pos t (b := 2) (by decide)
  unfold size_; omega
theorem size_or (t : Int) : size_ t = 4 ∨ size_ t = 5 := by
  have h1 := Int.fmod_nonneg_of_pos t (b := 2) (by decide)
  have h2 := Int.fmod_lt_of_pos t (b := 2) (by decide)
  unfold size_; omega
theorem dotted_eq (t : Int) : (1 : Int) + (t.fdiv 2 + 1).fmod ((size_ t : Int) - 1) = (dotted_ t : Int) := by
  have h := size_or t
  have := Int.fmod_nonneg_of_pos (t.fdiv 2 + 1) (b := (size_ t : Int) - 1) (by omega)
  unfold dotted_; omega
theorem dotted_lt (t : Int) : 1 ≤ dotted_ t ∧ dotted_ t < size_ t := by
  have h := size_or t
  have h2 := Int.fmod_lt_of_pos (t.fdiv 2 + 1) (b := (size_ t : Int) - 1) (by omega)
  have h1 := Int.fmod_nonneg_of_pos (t.fdiv 2 + 1) (b := (size_ t : Int) - 1) (by omega)
  unfold dotted_; omega

variable {z : Array Value} {c TB : Addr} {hB : Heap} {L : Addr} {m : Str → Option Value} {cv : Nat → Option Value}

set_option maxHeartbeats 4000000 in
theorem law_pre1 {Q : Flow → Shared → Prop} {a : Addr} {cd : Value} (G : Gd mg mb hB) (hh : A.handled = none) (W : LW z c TB hB L s.heap m cv) {S : Addr} {items : Array Value} {ns : List Int} (m1 : m "script" = some (.ref S)) (hS : s.heap.IsList S items) (hi : Ints items ns) (hsz : items.size ≤ 1000)
    (h : ∀ (h' : Heap) tk (m' : Str → Option Value) (cv' : Nat → Option Value) (n d : Nat) DR its ds, LW z c TB hB L h' m' cv' → (n = 4 ∨ n = 5) → 1 ≤ d → d < n → (∃ t, m' "size" = some (.int n t)) → (∃ t, cv' 2 = some (.int d t)) → cv' 1 = some (.ref DR) → h'.IsList DR its → Ints its ds → its.size ≤ 1000 →
      wpAny (model prog w) A (execs ((bodyAt 15).drop 4) (envC 15 L a cd)) Q (fun _ _ => False) { s with heap := h', toks := tk }) :
    wpAny (model prog w) A (execs (bodyAt 15) (envC 15 L a cd)) Q (fun _ _ => False) s := by
  have hsl : sizeLine = 2 ^ 24 := rfl
  -- draws = script[:15]
  with_unfolding_all refine wpAny_execs_cons (wpAny_Assign_Name (sl_to (by decide) (fun Q' q => locC W.fr.ns m1 q) hS hi hsz fun h1 tk1 it1 l1 i1 k1 hz1 => ?_))
  replace l1 : h1.IsList (s.heap.objs.size + 1) it1 := l1
  replace k1 : Ext s.heap h1 := k1
  replace i1 : Ints it1 (ns.take 15) := i1
  have hs1 : it1.size ≤ 1000 := by rw [i1.1, List.length_take]; omega
  have W1 := W.ext k1
  have big := W.big
  generalize hD : s.heap.objs.size + 1 = D at *
  have hLD : L + 4 < D := by rw [← hD]; exact Nat.lt_succ_of_lt big
  generalize ns.take 15 = ds at i1
  with_unfolding_all refine putC (k := 1) (W1.cell 1 (by decide) (by decide)) fun h2 c2 s2 => ?_
  replace s2 : Heap.SameBut (L + 1) h1 h2 := s2
  have W2 := W1.put (by decide) s2 c2
  have v1 : (fun j => if j = 1 then some (Value.ref D) else cv j) 1 = some (.ref D) := rfl
  generalize (fun j => if j = 1 then some (Value.ref D) else cv j) = cvA at W2 v1
  have l2 : h2.IsList D it1 := l1.at fun o e => s2.extBut D o (Nat.ne_of_gt (Nat.lt_of_le_of_lt (Nat.add_le_add_left (by decide) L) hLD)) e
  refine anyTok (s := s) (h := h2) fun tk => ?_
  clear W1 l1 k1 s2 c2
  -- total = sum(draws)
  with_unfolding_all refine wpAny_execs_cons (wpAny_Assign_Name (fun1 rfl (bltC (G.keeps W2.fr.keep) (by simp) rfl ⟨rfl, cellC (k := 1) (cv := cvA) (W2.cell 1 (by decide) (by decide)) v1 (sum_list hh l2 i1 fun h3 tk3 t3 k3 => ?_)⟩)))
  replace k3 : Ext h2 h3 := k3
  have W3 := W2.ext k3
  have l3 : h3.IsList D it1 := l2.at fun o e => k3 _ o e
  with_unfolding_all refine wpAny_storeName_local rfl W3.fr.ns (fun h4 hn4 hs4 => ?_) rfl
  replace hs4 : Heap.SameBut L h3 h4 := hs4
  have W4 := W3.set hs4 hn4
  have hDL : D ≠ L := Nat.ne_of_gt (Nat.lt_of_le_of_lt (Nat.le_add_right _ _) hLD)
  have l4 : h4.IsList D it1 := l3.at fun o e => hs4.extBut D o hDL e
  refine anyTok (s := s) (h := h4) fun tk => ?_
  clear W2 W3 l2 l3 hs4 hn4 k3
  generalize ds.sum = total at W4
  -- size = 4 + total % 2
  with_unfolding_all refine wpAny_execs_cons (wpAny_Assign_Name (wpAny_BinOp (wpAny_Constant_int (wpAny_BinOp (locC W4.fr.ns rfl (wpAny_Constant_int (mod_int (by decide) (add_eq (size_eq total) (wpAny_storeName_local rfl W4.fr.ns (fun h5 hn5 hs5 => ?_) rfl)))))))))
  replace hs5 : Heap.SameBut L h4 h5 := hs5
  have W5 := W4.set hs5 hn5
  have l5 : h5.IsList D it1 := l4.at fun o e => hs5.extBut D o hDL e
  refine anyTok (s := s) (h := h5) fun tk => ?_
  clear W4 l4 hs5 hn5
  -- dotted = 1 + (total // 2 + 1) % (size - 1)
  with_unfolding_all refine wpAny_execs_cons (wpAny_Assign_Name (wpAny_BinOp (wpAny_Constant_int (wpAny_BinOp (wpAny_BinOp (wpAny_BinOp (locC W5.fr.ns rfl (wpAny_Constant_int (floordiv_int (by decide) (wpAny_Constant_int (P.add_int (wpAny_BinOp (locC W5.fr.ns rfl (wpAny_Constant_int (P.sub_int (mod_int ?_ (add_eq (dotted_eq total) ?_)))))))))))))))))
  · have := size_or total
    omega
  with_unfolding_all refine putC (k := 2) (W5.cell 2 (by decide) (by decide)) fun h6 c6 s6 => ?_
  replace s6 : Heap.SameBut (L + 2) h5 h6 := s6
  have W6 := W5.put (by decide) s6 c6
  have l6 : h6.IsList D it1 := l5.at fun o e => s6.extBut D o (Nat.ne_of_gt (Nat.lt_of_le_of_lt (Nat.add_le_add_left (by decide) L) hLD)) e
  with_unfolding_all refine h h6 _ _ _ (size_ total) (dotted_ total) D it1 ds W6 (size_or total) (dotted_lt total).1 (dotted_lt total).2 ⟨_, if_pos rfl⟩ ⟨_, if_pos rfl⟩ v1 l6 i1 hs1
end
end Mine

/-! part B17 -/
namespace Mine
open PySem PySem.Calls PyProof.Rows
set_option maxRecDepth 100000
section
variable {prog : Program} {w : World} {A : Around} {E : Value → Shared → Prop} {s : Shared} {mg mb : Str → Option Value}

theorem fnc1 {env : Env} {x : Str} {p pos : Pos} {a : Addr} {o : Obj} {fd : FuncData} {e1 : Expr} {Q : Value → Shared → Prop} (he1 : starEach [e1] env = [(false, eval e1 env)])
    (h : wpAny (model prog w) A (eval (.Name x p) env) (fun f s₁ => f = .ref a ∧ wpAny (model prog w) A (eval e1 env) (fun v s₂ => (s₂.heap.get? a = some o ∧ o.data = .func fd) ∧ wpAny (model prog w) A (call (.ref a) [v]) Q E s₂) E s₁) E s) :
    wpAny (model prog w) A (eval (.Call (.Name x p) [e1] [] pos) env) Q E s := by
  refine wpAny_Call_NameR (wpAny_mono h (fun f s₁ h₁ => ?_) fun _ _ x => x)
  obtain ⟨rfl, h₁⟩ := h₁
  rw [he1]
  show wpAny _ _ (callWith pos _ _ [(false, eval e1 env)] []) _ _ _
  refine callWith_function (o := o) (fd := fd) (evalArgs_plain (spliced_cons (wpAny_mono h₁ (fun v1 s₂ h₂ => spliced_nil ?_) fun _ _ x => x)))
  exact h₂
theorem fnc2 {env : Env} {x : Str} {p pos : Pos} {a : Addr} {o : Obj} {fd : FuncData} {e1 e2 : Expr} {Q : Value → Shared → Prop} (he1 : starEach [e1, e2] env = [(false, eval e1 env), (false, eval e2 env)])
    (h : wpAny (model prog w) A (eval (.Name x p) env) (fun f s₁ => f = .ref a ∧ wpAny (model prog w) A (eval e1 env) (fun v s₂ => wpAny (model prog w) A (eval e2 env) (fun v2 s₃ => (s₃.heap.get? a = some o ∧ o.data = .func fd) ∧ wpAny (model prog w) A (call (.ref a) [v, v2]) Q E s₃) E s₂) E s₁) E s) :
    wpAny (model prog w) A (eval (.Call (.Name x p) [e1, e2] [] pos) env) Q E s := by
  refine wpAny_Call_NameR (wpAny_mono h (fun f s₁ h₁ => ?_) fun _ _ x => x)
  obtain ⟨rfl, h₁⟩ := h₁
  rw [he1]
  show wpAny _ _ (callWith pos _ _ [(false, eval e1 env), (false, eval e2 env)] []) _ _ _
  refine callWith_function (o := o) (fd := fd) (evalArgs_plain (spliced_cons (wpAny_mono h₁ (fun v1 s₂ h₂ => spliced_cons (wpAny_mono h₂ (fun v2 s₃ h₃ => spliced_nil ?_) fun _ _ x => x)) fun _ _ x => x)))
  exact h₃

theorem strsAre_of : ∀ (vs : List Value) (ys : List Str), vs.length = ys.length → (∀ (i : Nat) (y : Str), ys[i]? = some y → ∃ t, vs[i]? = some (.str y t)) → StrsAre vs ys
  | [], [], _, _ => .nil
  | [], _ :: _, h, _ => by simp at h
  | _ :: _, [], h, _ => by simp at h
  | v :: vs, y :: ys, h, e => by
    obtain ⟨t, q⟩ := e 0 y rfl
    simp at q; subst q
    exact .cons y t (strsAre_of vs ys (by simpa using h) fun i k hk => by simpa using e (i + 1) k (by simpa using hk))

theorem glue_foldl (g : Str) (hg : g.cps = #[]) : ∀ (ys : List Str) (acc : Array Nat), (ys.foldl (fun acc p => acc ++ g.cps ++ p.cps) acc).toList = acc.toList ++ ys.flatMap (·.cps.toList)
  | [], acc => by simp
  | y :: ys, acc => by
    rw [List.foldl_cons, glue_foldl g hg ys, hg]
    simp
theorem glue_join (g : Str) (hg : g.cps = #[]) (ys : List Str) : (Txt.join g ys).cps.toList = ys.flatMap (·.cps.toList) := by
  cases ys with
  | nil => rfl
  | cons y ys =>
    show ((ys.foldl (fun acc p => acc ++ g.cps ++ p.cps) y.cps).toList) = _
    rw [glue_foldl g hg]
    simp

def signs (ds : List Int) : List Nat := ds.map fun x => (192 + x.fmod 5000).toNat
theorem signs_clean (ds : List Int) : Clean (signs ds) := by
  intro c hc
  simp only [signs, List.mem_map] at hc
  obtain ⟨x, -, rfl⟩ := hc
  have := Int.fmod_nonneg_of_pos x (b := 5000) (by decide)
  omega
theorem signs_flat (ds : List Int) : ((signs ds).map fun c => (⟨#[c]⟩ : Str)).flatMap (·.cps.toList) = signs ds := by
  rw [List.flatMap_map]
  induction signs ds with
  | nil => rfl
  | cons c r ih => simpa using ih

def EndsAre (items : Array Value) (n : Nat) : Prop := items.size = n ∧ ∀ (i : Nat) (y : Value), items[i]? = some y → ∃ e t, y = .str e t ∧ IsEnd e.cps.toList

def stL (k : Nat) : Stmt := (bodyAt 15).getD k (.Pass default)
variable {z : Array Value} {c TB : Addr} {hB : Heap} {L : Addr} {m : Str → Option Value} {cv : Nat → Option Value}

set_option maxHeartbeats 4000000 in
theorem law_stem {rest : List Stmt} {Q : Flow → Shared → Prop} {a : Addr} {cd : Value} {n d : Nat} {DR : Addr} {its : Array Value} {ds : List Int} (G : Gd mg mb hB) (hh : A.handled = none) (W : LW z c TB hB L s.heap m cv) (hn : n = 4 ∨ n = 5)
    (m1 : ∃ t, m "size" = some (.int n t)) (m2 : ∃ t, cv 2 = some (.int d t)) (m3 : cv 1 = some (.ref DR)) (lD : s.heap.IsList DR its) (iD : Ints its ds) (hsz : its.size ≤ 1000)
    (h : ∀ (h' : Heap) tk (m' : Str → Option Value) (stem : Str), LW z c TB hB L h' m' cv → (∃ t, m' "size" = some (.int n t)) → h'.IsList DR its → (∃ t, m' "stem" = some (.str stem t)) → Clean stem.cps.toList → stem.length ≤ 4 →
      wpAny (model prog w) A (execs rest (envC 15 L a cd)) Q (fun _ _ => False) { s with heap := h', toks := tk }) :
    wpAny (model prog w) A (execs (stL 4 :: rest) (envC 15 L a cd)) Q (fun _ _ => False) s := by
  have hsl : sizeLine = 2 ^ 24 := rfl
  -- stem = ''.join([chr(192 + x % 5000) for x in draws[:4]])
  refine wpAny_execs_cons ?_
  with_unfolding_all refine wpAny_Assign_Name ?hm ?hsw
  case hsw => with_unfolding_all rfl
  with_unfolding_all refine meth1 (name := "join") (id := "str.join") PySem.F.slot_str_join PySem.F.type_str_join ?hb ?hl ?he ?hm2
  case hb => with_unfolding_all rfl
  case hl => rfl
  case he => rfl
  refine Constant_str ⟨_, _, rfl, ?_⟩
  with_unfolding_all refine comp_plain (cl := []) ?hc ?hcell ?hk ?hn ?hmain ?hfold
  case hc => with_unfolding_all exact closureFor_none (by decide)
  case hcell => decide
  case hk => rfl
  case hn => decide
  case hfold => exact fun _ => rfl
  with_unfolding_all refine sl_to (by decide) (fun Q' q => ?_) lD iD hsz (fun h1 tk1 it1 l1 i1 k1 hz1 => ?_) ?hlt
  case hlt => exact fun _ _ => rfl
  · with_unfolding_all refine cellC (k := 1) (cv := cv) (W.cell 1 (by decide) (by decide)) m3 q ?ha ?hb ?hc ?hd
    case ha => with_unfolding_all rfl
    case hb => with_unfolding_all rfl
    case hc => with_unfolding_all rfl
    case hd => decide
  refine wpAny_pyIter_list l1 ?_
  replace l1 : h1.IsList (s.heap.objs.size + 1) it1 := l1
  replace k1 : Ext s.heap h1 := k1
  replace i1 : Ints it1 (ds.take 4) := i1
  replace hz1 : h1.objs.size = s.heap.objs.size + 2 := hz1
  have W1 := W.ext k1
  have hi1 : it1.size ≤ 4 := by rw [i1.1, List.length_take]; omega
  have hne : (s.heap.objs.size + 1 : Addr) ≠ h1.objs.size := by rw [hz1]; exact Nat.ne_of_lt (Nat.lt_succ_self _)
  refine comp_core (I := h1.objs.size) (fun _ i y => ∃ t, y = .str ⟨#[(192 + ((ds.take 4).getD i 0).fmod 5000).toNat]⟩ t) (Walks.list hh h1.objs.size (s.heap.objs.size + 1) hne it1) ⟨⟨_, Heap.get?_push_size _ rfl, rfl, rfl⟩, l1.push _⟩ ?_ ?_ ?_ ?_ rfl (fun _ => rfl) (by omega)
  · intro b hb
    show b < (h1.push _).objs.size
    rw [Heap.size_push]
    rcases List.mem_cons.mp hb with rfl | hb
    · exact Nat.lt_succ_self _
    · rw [List.mem_singleton.mp hb, hz1]; exact Nat.lt_succ_of_lt (Nat.lt_succ_self _)
  · intro i h h' y hy _; exact hy
  · intro C i v h tk m2' hi hv hns hmx hkp hsz2
    have hlt : i < (ds.take 4).length := by rw [← i1.1]; exact hi
    obtain ⟨tv, htv⟩ := i1.get hlt
    obtain rfl : v = .int ((ds.take 4).getD i 0) tv := Option.some.inj (hv.symm.trans htv)
    have p1 := Int.fmod_nonneg_of_pos ((ds.take 4).getD i 0) (b := 5000) (by decide)
    have p2 := Int.fmod_lt_of_pos ((ds.take 4).getD i 0) (b := 5000) (by decide)
    have kB : Ext hB h := fun b o e => have e' := W1.fr.keep b o e; hkp b o (by simpa using Nat.ne_of_lt (Heap.lt_size e')) (Heap.get?_push_of_some _ e')
    refine fun1 (id := "chr") rfl (bltK rfl rfl (G.keeps kB) (by simp) rfl ⟨rfl, ?_⟩ rfl (by with_unfolding_all rfl))
    refine wpAny_BinOp (wpAny_Constant_int (wpAny_BinOp (wpAny_Name (wpAny_loadName_local rfl (by with_unfolding_all rfl) hns hmx (wpAny_Constant_int (mod_int (by decide) (P.add_int (P.chr_of_int ?_ ⟨h, _, rfl, fun _ _ e => e, _, rfl⟩))))) (by decide))))
    rw [decide_eq_false (by omega), decide_eq_false (by omega)]; rfl
  · rintro D C h3 tk3 m3' ys hD hC hns hli hsz3 hR hkp
    replace hD : D = (h1.push { cls := .type "list_iterator", data := .fields #[.ref (s.heap.objs.size + 1), .int 0 0] }).objs.size := hD
    replace hC : C = (h1.push { cls := .type "list_iterator", data := .fields #[.ref (s.heap.objs.size + 1), .int 0 0] }).objs.size + 1 := hC
    rw [Heap.size_push] at hD hC
    replace hkp : Kp [h1.objs.size] (h1.push { cls := .type "list_iterator", data := .fields #[.ref (s.heap.objs.size + 1), .int 0 0] }) h3 := hkp
    refine ⟨m3', hns, fun h4 hs4 => ?_⟩
    replace hs4 : Heap.SameBut C h3 h4 := hs4
    have k14 : Ext h1 h4 := fun b o e => hs4.extBut b o (by rw [hC]; exact Nat.ne_of_lt (Nat.lt_succ_of_lt (Nat.lt_succ_of_lt (Heap.lt_size e)))) (hkp b o (by simpa using Nat.ne_of_lt (Heap.lt_size e)) (Heap.get?_push_of_some _ e))
    have l4 : h4.IsList D ys := hli.isList.at fun o e => hs4.extBut D o (by rw [hD, hC]; exact Nat.ne_of_lt (Nat.lt_succ_self _)) e
    have hys : StrsAre ys.toList ((signs (ds.take 4)).map fun c => (⟨#[c]⟩ : Str)) := by
      refine strsAre_of _ _ (by rw [Array.length_toList, List.length_map, signs, List.length_map, ← i1.1]; exact hsz3) fun i y hy => ?_
      rw [List.getElem?_map] at hy
      cases hc : (signs (ds.take 4))[i]? with
      | none => rw [hc] at hy; cases hy
      | some ch =>
        rw [hc] at hy
        obtain rfl : (⟨#[ch]⟩ : Str) = y := Option.some.inj hy
        rw [signs, List.getElem?_map] at hc
        cases hx : (ds.take 4)[i]? with
        | none => rw [hx] at hc; cases hc
        | some x =>
          rw [hx] at hc
          obtain rfl : (192 + x.fmod 5000).toNat = ch := Option.some.inj hc
          have hlt : i < ys.size := by
            rcases List.getElem?_eq_some_iff.mp hx with ⟨q, -⟩
            rw [hsz3, i1.1]; exact q
          obtain ⟨t, ht⟩ := hR i ys[i] (by simp [hlt])
          refine ⟨t, ?_⟩
          rw [Array.getElem?_toList, Array.getElem?_eq_getElem hlt, ht, List.getD_eq_getElem?_getD, hx]; rfl
    have hlen : (signs (ds.take 4)).length ≤ 4 := by rw [signs, List.length_map, List.length_take]; omega
    refine join_list l4 hys ?_ fun t' k' => ?_
    · have e1 : ∀ l : List Nat, (((l.map fun c => (⟨#[c]⟩ : Str)).map (·.length)).sum) = l.length := by
        intro l; induction l with
        | nil => rfl
        | cons c l ih => simp only [List.map_cons, List.sum_cons, ih, List.length_cons]; show 1 + l.length = _; omega
      rw [e1, List.length_map]
      show _ + _ * 0 ≤ _
      omega
    have W4 := W.ext fun b o e => k14 b o (k1 b o e)
    have lD4 : h4.IsList DR its := lD.at fun o e => k14 _ o (k1 _ o e)
    with_unfolding_all refine wpAny_storeName_local rfl W4.fr.ns (fun h5 hn5 hs5 => ?_) rfl
    replace hs5 : Heap.SameBut L h4 h5 := hs5
    have e0 : ∀ g : Str, g.cps = #[] → (Txt.join g ((signs (ds.take 4)).map fun c => (⟨#[c]⟩ : Str))).cps.toList = signs (ds.take 4) := fun g hg => by rw [glue_join g hg, signs_flat]
    have es := e0 (Str.ofString "") rfl
    have hDL : DR ≠ L := seq_ne lD4 (ns_noSeq W4.fr.ns)
    obtain ⟨t1, ht1⟩ := m1
    refine h h5 _ _ _ (W4.set hs5 hn5) ⟨t1, upd_ne (by decide) ht1⟩ (lD4.at fun o e => hs5.extBut _ o hDL e) ⟨_, if_pos rfl⟩ ?_ ?_
    · rw [es]; exact signs_clean _
    · show (Txt.join _ _).cps.size ≤ 4
      rw [← Array.length_toList, es]; exact hlen
end
end Mine

/-! part B18 -/
namespace Mine
open PySem PySem.Calls PyProof.Rows
set_option maxRecDepth 100000

def k0S (stem : Str) : Str := stem ++ Str.ofString "bb"
def k1S (stem : Str) : Str := Str.ofString "." ++ stem ++ Str.ofString "a"
theorem str_ext {x y : Str} (h : x.cps.toList = y.cps.toList) : x = y := by
  obtain ⟨⟨l⟩⟩ := x; obtain ⟨⟨k⟩⟩ := y
  simp at h; subst h; rfl
theorem app_list (x y : Str) : (x ++ y).cps.toList = x.cps.toList ++ y.cps.toList := by
  show (x.cps ++ y.cps).toList = _
  simp
theorem ofs1 : (Str.ofString "bb").cps.toList = [98, 98] := by with_unfolding_all rfl
theorem ofs2 : (Str.ofString ".").cps.toList = [46] := by with_unfolding_all rfl
theorem ofs3 : (Str.ofString "a").cps.toList = [97] := by with_unfolding_all rfl
theorem ofs4 : (Str.ofString "\n").cps.toList = [10] := by with_unfolding_all rfl
theorem ofs5 : (Str.ofString "...").cps.toList = [46, 46, 46] := by with_unfolding_all rfl
theorem ofs6 : (Str.ofString "\x0d").cps.toList = [13] := by with_unfolding_all rfl
theorem ofs7 : (Str.ofString "\x0d\n").cps.toList = [13, 10] := by with_unfolding_all rfl
theorem k0_list (stem : Str) : (k0S stem).cps.toList = stem.cps.toList ++ [98, 98] := by rw [k0S, app_list, ofs1]
theorem k1_list (stem : Str) : (k1S stem).cps.toList = [46] ++ stem.cps.toList ++ [97] := by rw [k1S, app_list, app_list, ofs2, ofs3]
theorem len_app (x y : Str) : (x ++ y).length = x.length + y.length := by
  show (x.cps ++ y.cps).size = _
  rw [Array.size_append]; rfl
theorem len_list (x : Str) : x.length = x.cps.toList.length := Array.length_toList.symm
theorem fall_eq (stem : Str) (hs : Clean stem.cps.toList) : Str.ofString "..." ++ dotS (fixS (((k1S stem ++ Str.ofString "\n") ++ k0S stem) ++ Str.ofString "\n")) = fallS stem.cps.toList := by
  apply str_ext
  rw [app_list, ofs5]
  have : (fixS (((k1S stem ++ Str.ofString "\n") ++ k0S stem) ++ Str.ofString "\n")).cps.toList = fixL (([46] ++ stem.cps.toList ++ [97]) ++ [10] ++ (stem.cps.toList ++ [98, 98]) ++ [10]) := by
    unfold fixS
    simp only [app_list, k1_list, k0_list, ofs4]
  unfold dotS
  rw [this]
  show _ ++ quoteL true _ = _
  rw [fall_txt hs]
  simp [fallS]

section
variable {prog : Program} {w : World} {A : Around} {E : Value → Shared → Prop} {s : Shared} {mg mb : Str → Option Value}
variable {z : Array Value} {c TB : Addr} {hB : Heap} {L : Addr} {m : Str → Option Value} {cv : Nat → Option Value}

theorem cat_ {env : Env} {e1 e2 : Expr} {p : Pos} {Q : Value → Shared → Prop}
    (h : wpAny (model prog w) A (eval e1 env) (fun v s₁ => ∃ x t, v = .str x t ∧ wpAny (model prog w) A (eval e2 env) (fun v2 s₂ => ∃ y u, v2 = .str y u ∧ x.length + y.length ≤ 2 ^ 24 ∧ ∀ t' tk, Q (.str (x ++ y) t') { s₂ with toks := tk }) E s₁) E s) :
    wpAny (model prog w) A (eval (.BinOp e1 .Add e2 p) env) Q E s := by
  refine wpAny_BinOp (wpAny_mono h (fun v s₁ h₁ => ?_) fun _ _ x => x)
  obtain ⟨x, t, rfl, h₁⟩ := h₁
  refine wpAny_mono h₁ (fun v2 s₂ h₂ => ?_) fun _ _ x => x
  obtain ⟨y, u, rfl, hl, h₂⟩ := h₂
  exact PyProof.Rows.add_str h₂ hl
abbrev upd (m : Str → Option Value) (x : Str) (v : Value) : Str → Option Value := fun y => if y = x then some v else m y

set_option maxHeartbeats 4000000 in
theorem law_kinds {rest : List Stmt} {Q : Flow → Shared → Prop} {a : Addr} {cd : Value} {stem : Str} (W : LW z c TB hB L s.heap m cv) (m1 : ∃ t, m "stem" = some (.str stem t)) (hst : stem.length ≤ 4)
    (h : ∀ (h' : Heap) tk K t u, LW z c TB hB L h' (upd m "kinds" (.ref K)) cv → h'.IsTuple K #[.str (k0S stem) t, .str (k1S stem) u] → Kp [L] s.heap h' →
      wpAny (model prog w) A (execs rest (envC 15 L a cd)) Q (fun _ _ => False) { s with heap := h', toks := tk }) :
    wpAny (model prog w) A (execs (stL 5 :: rest) (envC 15 L a cd)) Q (fun _ _ => False) s := by
  have hsl : sizeLine = 2 ^ 24 := rfl
  have hbb : (Str.ofString "bb").length = 2 := by rw [len_list, ofs1]; rfl
  have hd1 : (Str.ofString ".").length = 1 := by rw [len_list, ofs2]; rfl
  have ha1 : (Str.ofString "a").length = 1 := by rw [len_list, ofs3]; rfl
  obtain ⟨t, m1⟩ := m1
  refine wpAny_execs_cons ?_
  with_unfolding_all refine wpAny_Assign_Name ?hm ?hsw
  case hsw => with_unfolding_all rfl
  refine Tuple_ (args_cons (cat_ (locC W.fr.ns m1 ⟨_, _, rfl, Constant_str ⟨_, _, rfl, by omega, fun t1 tk1 => ?_⟩⟩ ?ha ?hb ?hc)))
  case ha => with_unfolding_all rfl
  case hb => with_unfolding_all rfl
  case hc => decide
  refine args_cons (cat_ (cat_ (Constant_str ⟨_, _, rfl, locC W.fr.ns m1 ⟨_, _, rfl, by omega, fun t2 tk2 => ⟨_, _, rfl, Constant_str ⟨_, _, rfl, ?hz, fun t3 tk3 => args_nil (wpAny_newTuple ?hmain)⟩⟩⟩ ?ha ?hb ?hc⟩)))
  case ha => with_unfolding_all rfl
  case hb => with_unfolding_all rfl
  case hc => decide
  case hz => rw [len_app]; omega
  case hmain =>
    skip
    have k : Ext s.heap (s.heap.push { cls := .type "tuple", data := .seq [Value.str (k0S stem) t1, .str (k1S stem) t3].toArray }) := fun b o e => Heap.get?_push_of_some _ e
    have W1 := W.ext k
    have hK : (s.heap.push { cls := .type "tuple", data := .seq [Value.str (k0S stem) t1, .str (k1S stem) t3].toArray }).IsTuple s.heap.objs.size #[.str (k0S stem) t1, .str (k1S stem) t3] := ⟨_, Heap.get?_push_size _ rfl, rfl, _, rfl⟩
    with_unfolding_all refine wpAny_storeName_local ?_ W1.fr.ns (fun h5 hn5 hs5 => ?_) ?_
    · with_unfolding_all rfl
    · replace hs5 : Heap.SameBut L (s.heap.push { cls := .type "tuple", data := .seq [Value.str (k0S stem) t1, .str (k1S stem) t3].toArray }) h5 := hs5
      have hL : L < s.heap.objs.size := W.fr.ns.lt
      exact h h5 _ _ t1 t3 (W1.set hs5 hn5) (let ⟨o, e, r⟩ := hK; ⟨o, hs5.extBut _ o (Nat.ne_of_gt hL) e, r⟩) fun b o hb e => hs5.extBut b o (by simpa using hb) (k b o e)
    · with_unfolding_all rfl
set_option maxHeartbeats 4000000 in
theorem law_fall {rest : List Stmt} {Q : Flow → Shared → Prop} {a : Addr} {cd : Value} {stem : Str} {K : Addr} {t u : Tok} (G : Gd mg mb hB) (hdp : A.depth < recursionLimit) (W : LW z c TB hB L s.heap m cv) (m1 : m "kinds" = some (.ref K)) (hK : s.heap.IsTuple K #[.str (k0S stem) t, .str (k1S stem) u]) (hst : stem.length ≤ 4) (hs : Clean stem.cps.toList)
    (h : ∀ (h' : Heap) tk v, LW z c TB hB L h' (upd m "fall" (.str (fallS stem.cps.toList) v)) cv → Kp [L] s.heap h' →
      wpAny (model prog w) A (execs rest (envC 15 L a cd)) Q (fun _ _ => False) { s with heap := h', toks := tk }) :
    wpAny (model prog w) A (execs (stL 7 :: rest) (envC 15 L a cd)) Q (fun _ _ => False) s := by
  have hsl : sizeLine = 2 ^ 24 := rfl
  have l0 : (k0S stem).length ≤ 6 := by rw [len_list, k0_list, List.length_append, ← len_list]; show _ + 2 ≤ _; omega
  have l1 : (k1S stem).length ≤ 6 := by rw [len_list, k1_list, List.length_append, List.length_append, ← len_list]; show 1 + _ + 1 ≤ _; omega
  have ln : (Str.ofString "\n").length = 1 := by rw [len_list, ofs4]; rfl
  obtain ⟨a', o, pm, cd', doc, g1, g2, g3, g4⟩ := G.fn 10 (by simp)
  refine wpAny_execs_cons ?_
  with_unfolding_all refine wpAny_Assign_Name ?hm ?hsw
  case hsw => with_unfolding_all rfl
  with_unfolding_all refine wpAny_BinOp (Constant_str ?_)
  with_unfolding_all refine fnc1 (a := a') (o := o) (fd := docDef (nameAt 10) (paramsAt 10) (bodyAt 10) (scopeAt 10) pm cd' doc) ?he (globC (G.keeps W.fr.keep) g1 ⟨rfl, ?_⟩ ?hk ?hx ?hd)
  case he => rfl
  case hk => with_unfolding_all rfl
  case hx => with_unfolding_all rfl
  case hd => decide
  have item : ∀ (j : Nat) (x : Value) (tk : Nat) (p1 p2 p3 : Pos) (Q' : Value → Shared → Prop), (#[.str (k0S stem) t, .str (k1S stem) u] : Array Value)[j]? = some x → seqIndex? (j : Int) 2 = some j → j < 2 → (∀ tk', Q' x { s with toks := tk' }) →
      wpAny (model prog w) A (eval (.Subscript (.Name "kinds" p1) (.Constant (.int j) 0 p2) p3) (envC 15 L a cd)) Q' (fun _ _ => False) { s with toks := tk } := by
    intro j x tk p1 p2 p3 Q' hx hj hlt hq
    refine Subscript_ (locC (s := { s with toks := tk }) W.fr.ns m1 (wpAny_Constant_int (item_tuple (j := j) hK (by omega) (by omega) hj hx (hq _))) (by with_unfolding_all rfl) (by with_unfolding_all rfl))
  refine cat_ (cat_ (cat_ (item 1 (.str (k1S stem) u) _ _ _ _ _ rfl rfl (by decide) fun tk1 => ⟨_, _, rfl, Constant_str ⟨_, _, rfl, by omega, fun t2 tk2 => ⟨_, _, rfl, ?_⟩⟩⟩)))
  refine item 0 (.str (k0S stem) t) _ _ _ _ _ rfl rfl (by decide) fun tk3 => ⟨_, _, rfl, by simp only [len_app, ln]; omega, fun t4 tk4 => ⟨_, _, rfl, Constant_str ⟨_, _, rfl, by simp only [len_app, ln]; omega, fun t5 tk5 => ?_⟩⟩⟩
  · refine ⟨⟨W.fr.keep _ _ g2, g3⟩, ?_⟩
    refine anyTok (s := s) (h := s.heap) fun tk => ?_
    refine quotedata_K (s := { s with heap := s.heap, toks := tk }) (G.keeps W.fr.keep) hdp ?_ g1 fun h1 tk6 t6 k6 => ?_
    · simp only [len_app, ln]; omega
    replace k6 : Ext s.heap h1 := k6
    refine PyProof.Rows.add_str (fun t7 tk7 => ?_) ?_
    · have W1 := W.ext k6
      with_unfolding_all refine wpAny_storeName_local ?_ W1.fr.ns (fun h5 hn5 hs5 => ?_) ?_
      · with_unfolding_all rfl
      · replace hs5 : Heap.SameBut L h1 h5 := hs5
        have e := fall_eq stem hs
        have hn6 : h5.Ns L (upd m "fall" (.str (fallS stem.cps.toList) t7)) := e ▸ hn5
        exact h h5 _ t7 (W1.set hs5 hn6) fun b o hb e => hs5.extBut b o (by simpa using hb) (k6 b o e)
      · with_unfolding_all rfl
    · have e := congrArg Str.length (fall_eq stem hs)
      rw [len_app] at e
      rw [e, len_list]
      simp only [fallS, tl_eq, dotRow, plainRow, List.toList_toArray, List.length_append, List.length_cons, List.length_nil, List.length_replicate, ← len_list]
      omega
end
end Mine

/-! part B19 -/
namespace Mine
open PySem PySem.Calls PyProof.Rows
set_option maxRecDepth 100000
section
variable {prog : Program} {w : World} {A : Around} {E : Value → Shared → Prop} {s : Shared} {mg mb : Str → Option Value}
variable {z : Array Value} {c TB : Addr} {hB : Heap} {L : Addr} {m : Str → Option Value} {cv : Nat → Option Value}

theorem tup3 {env : Env} {e0 e1 e2 : Str} {q0 q1 q2 : Nat} {p0 p1 p2 p3 : Pos} {kt : Nat} {K : Value → Shared → Prop}
    (h : ∀ h' tk t0 t1 t2, Ext s.heap h' → h'.objs.size = s.heap.objs.size + 1 → h'.IsTuple s.heap.objs.size #[.str e0 t0, .str e1 t1, .str e2 t2] → K (.ref s.heap.objs.size) { s with heap := h', toks := tk }) :
    wpAny (model prog w) A (eval (.Tuple [.Constant (.str e0) q0 p0, .Constant (.str e1) q1 p1, .Constant (.str e2) q2 p2] kt p3) env) K E s :=
  Tuple_ (args_cons (Constant_str (args_cons (Constant_str (args_cons (Constant_str (args_nil (wpAny_newTuple (h _ _ _ _ _ (fun _ _ e => Heap.get?_push_of_some _ e) (Heap.size_push ..) ⟨_, Heap.get?_push_size _ rfl, rfl, _, rfl⟩)))))))))

set_option maxHeartbeats 4000000 in
theorem law_ends {rest : List Stmt} {Q : Flow → Shared → Prop} {a : Addr} {cd : Value} {n : Nat} {DR : Addr} {its : Array Value} {ds : List Int} (G : Gd mg mb hB) (hh : A.handled = none) (W : LW z c TB hB L s.heap m cv) (hn : n = 4 ∨ n = 5)
    (m1 : ∃ t, m "size" = some (.int n t)) (m3 : cv 1 = some (.ref DR)) (lD : s.heap.IsList DR its) (iD : Ints its ds) (hsz : its.size ≤ 1000)
    (h : ∀ (h' : Heap) tk D ys, LW z c TB hB L h' (upd m "ends" (.ref D)) cv → h'.IsList D ys → EndsAre ys n → Kp [L] s.heap h' →
      wpAny (model prog w) A (execs rest (envC 15 L a cd)) Q (fun _ _ => False) { s with heap := h', toks := tk }) :
    wpAny (model prog w) A (execs (stL 6 :: rest) (envC 15 L a cd)) Q (fun _ _ => False) s := by
  have hsl : sizeLine = 2 ^ 24 := rfl
  obtain ⟨t1, m1⟩ := m1
  refine wpAny_execs_cons ?_
  with_unfolding_all refine comp_used (cl := [("draws", L + 1)]) ?hsw ?hclos ?hcell ?hkind ?hnames ?hmain ?hfold
  case hsw => with_unfolding_all rfl
  case hclos => with_unfolding_all rfl
  case hcell => decide
  case hkind => rfl
  case hnames => decide
  case hfold => exact fun _ => rfl
  with_unfolding_all refine typ1 (T := "range") ?he (bltC (G.keeps W.fr.keep) (by simp) rfl ⟨rfl, locC W.fr.ns m1 (rng1 (by omega) (by omega) fun h1 tk1 k1 hz1 hI1 => ?_) ?h1 ?h2 ?h3⟩ ?h4 ?h5 ?h6)
  case he => rfl
  case h1 => with_unfolding_all rfl
  case h2 => with_unfolding_all rfl
  case h3 => decide
  case h4 => with_unfolding_all rfl
  case h5 => with_unfolding_all rfl
  case h6 => decide
  replace k1 : Ext s.heap h1 := k1
  replace hz1 : h1.objs.size = s.heap.objs.size + 2 := hz1
  replace hI1 : IsRangeIter h1 (s.heap.objs.size + 1) (0 + ((0 : Nat) : Int) * 1) ((((n : Int)).toNat : Int) - ((0 : Nat) : Int)) 1 := hI1
  rw [Int.toNat_natCast] at hI1
  have W1 := W.ext k1
  refine comp_core (I := s.heap.objs.size + 1) (fun _ i y => ∃ e t, y = .str e t ∧ IsEnd e.cps.toList) (Walks.range hh (s.heap.objs.size + 1) 0 1 n) hI1 ?_ ?_ ?_ ?_ rfl (fun _ => by with_unfolding_all rfl) (by omega)
  · intro b hb
    show b < h1.objs.size
    rw [List.mem_singleton.mp hb, hz1]; exact Nat.lt_succ_self _
  · intro i h h' y hy _; exact hy
  · rintro C i v h2 tk2 m2' hi ⟨tv, rfl⟩ hns hmx hkp hsz2
    replace hkp : Kp [s.heap.objs.size + 1] h1 h2 := hkp
    have kB : Ext s.heap h2 := fun b o e => hkp b o (by simpa using Nat.ne_of_lt (Nat.lt_succ_of_lt (Heap.lt_size e))) (k1 b o e)
    have W2 := W.ext kB
    have lD2 : h2.IsList DR its := lD.at fun o e => kB _ o e
    refine Subscript_ (tup3 fun h3 tk3 u0 u1 u2 kT hz3 hT => ?_)
    replace kT : Ext h2 h3 := kT
    replace hT : h3.IsTuple h2.objs.size #[.str (Str.ofString "\n") u0, .str (Str.ofString "\x0d") u1, .str (Str.ofString "\x0d\n") u2] := hT
    have W3 := W2.ext kT
    have lD3 : h3.IsList DR its := lD2.at fun o e => kT _ o e
    have hns3 := hns.keeps kT
    refine wpAny_BinOp (fun1 (id := "sum") rfl (bltK rfl rfl (G.keeps W3.fr.keep) (by simp) rfl ⟨rfl, ?_⟩ rfl (by with_unfolding_all rfl)))
    refine sl_step (l := DR) (items := its) (ns := ds) (i := 0 + (i : Int) * 1) (ti := tv) (by decide) (fun Q' q => ?_) (fun Q' q => ?_) lD3 iD hsz (fun h4 tk4 its4 ns4 l4 i4 k4 hz4 => ?_) (fun _ _ => rfl)
    · exact wpAny_Name (wpAny_loadName_cell rfl (by with_unfolding_all rfl) (by with_unfolding_all rfl) (show h3.IsCell (L + 1) (some (.ref DR)) from m3 ▸ W3.cell 1 (by decide) (by decide)) q) (by decide)
    · exact wpAny_Name (wpAny_loadName_local rfl (by with_unfolding_all rfl) hns3 hmx q) (by decide)
    replace k4 : Ext h3 h4 := k4
    replace l4 : h4.IsList (h3.objs.size + 1) its4 := l4
    refine sum_list hh l4 i4 fun h5 tk5 t5 k5 => ?_
    replace k5 : Ext h4 h5 := k5
    have hT5 : h5.IsTuple h2.objs.size #[Value.str (Str.ofString "\n") u0, .str (Str.ofString "\x0d") u1, .str (Str.ofString "\x0d\n") u2] := let ⟨o, e, r⟩ := hT; ⟨o, k5 _ _ (k4 _ _ e), r⟩
    have k25 : Ext h2 h5 := fun b o e => k5 b o (k4 b o (kT b o e))
    refine wpAny_Constant_int (mod_int (by decide) ?_)
    have p1 := Int.fmod_nonneg_of_pos ns4.sum (b := 3) (by decide)
    have p2 := Int.fmod_lt_of_pos ns4.sum (b := 3) (by decide)
    obtain ⟨x, j, hj, hx, hsi, hend⟩ : ∃ (x : Value) (j : Nat), ns4.sum.fmod 3 = (j : Int) ∧ (#[Value.str (Str.ofString "\n") u0, .str (Str.ofString "\x0d") u1, .str (Str.ofString "\x0d\n") u2] : Array Value)[j]? = some x ∧ seqIndex? (j : Int) 3 = some j ∧ ∃ e t, x = .str e t ∧ IsEnd e.cps.toList := by
      have : ns4.sum.fmod 3 = ((0 : Nat) : Int) ∨ ns4.sum.fmod 3 = ((1 : Nat) : Int) ∨ ns4.sum.fmod 3 = ((2 : Nat) : Int) := by omega
      rcases this with e | e | e
      · exact ⟨_, 0, e, rfl, rfl, _, _, rfl, .inl ofs4⟩
      · exact ⟨_, 1, e, rfl, rfl, _, _, rfl, .inr (.inl ofs6)⟩
      · exact ⟨_, 2, e, rfl, rfl, _, _, rfl, .inr (.inr ofs7)⟩
    have hlo : -(2 ^ 63) ≤ ns4.sum.fmod 3 := by omega
    have hhi : ns4.sum.fmod 3 < 2 ^ 63 := by omega
    refine subscriptTail_builtinR (x := x) hT5.typeIs slot_tuple_getitem.lookup (getItem_tuple (j := j) hT5 hlo hhi (by rw [hj]; exact hsi) hx ⟨rfl, h5, _, rfl, k25, hend⟩)
  · rintro D C h3 tk3 m3' ys hD hC hns hli hsz3 hR hkp
    replace hD : D = h1.objs.size := hD
    replace hC : C = h1.objs.size + 1 := hC
    replace hkp : Kp [s.heap.objs.size + 1] h1 h3 := hkp
    have k13 : Ext s.heap h3 := fun b o e => hkp b o (by simpa using Nat.ne_of_lt (Nat.lt_succ_of_lt (Heap.lt_size e))) (k1 b o e)
    have W3 := W.ext k13
    with_unfolding_all refine wpAny_storeName_local ?_ W3.fr.ns (fun h5 hn5 hs5 => ?_) ?_
    · with_unfolding_all rfl
    · replace hs5 : Heap.SameBut L h3 h5 := hs5
      have hL : L < s.heap.objs.size := W.fr.ns.lt
      have hCL : C ≠ L := by rw [hC, hz1]; exact Nat.ne_of_gt (Nat.lt_of_lt_of_le hL (Nat.le_trans (Nat.le_add_right _ 2) (Nat.le_succ _)))
      have hDL : D ≠ L := by rw [hD, hz1]; exact Nat.ne_of_gt (Nat.lt_of_lt_of_le hL (Nat.le_add_right _ 2))
      refine ⟨m3', hns.sameBut hs5 hCL, fun h6 hs6 => ?_⟩
      replace hs6 : Heap.SameBut C h5 h6 := hs6
      have k56 : ∀ b o, b ≠ C → h5.get? b = some o → h6.get? b = some o := fun b o hb e => hs6.extBut b o hb e
      have cOld : ∀ b o, s.heap.get? b = some o → b ≠ C := fun b o e => by rw [hC, hz1]; exact Nat.ne_of_lt (Nat.lt_of_lt_of_le (Heap.lt_size e) (Nat.le_trans (Nat.le_add_right _ 2) (Nat.le_succ _)))
      have W5 := W3.set hs5 hn5
      have hbig : L + 4 < C := by rw [hC, hz1]; exact Nat.lt_of_lt_of_le W.big (Nat.le_trans (Nat.le_add_right _ 2) (Nat.le_succ _))
      have W6 := W5.off (h' := h6) (I := C) (fun b o hb e => k56 b o (by simpa using hb) e) hbig
      exact h h6 _ D ys W6 (hli.isList.at fun o e => k56 D o (by rw [hD, hC]; exact Nat.ne_of_lt (Nat.lt_succ_self _)) (hs5.extBut D o hDL e)) ⟨hsz3, fun i y hy => hR i y hy⟩ fun b o hb e => k56 b o (cOld b o e) (hs5.extBut b o (by simpa using hb) (k13 b o e))
    · with_unfolding_all rfl
end
end Mine

/-! part B20 -/
namespace Mine
open PySem PySem.Calls PyProof.Rows
set_option maxRecDepth 100000

def TS (stem : Str) (p : List Int) : Str := ⟨(txtK stem.cps.toList 0 p).toArray⟩
theorem TS_list (stem : Str) (p : List Int) : (TS stem p).cps.toList = txtK stem.cps.toList 0 p := by simp [TS]
theorem TS_nil (stem : Str) : TS stem [] = Str.ofString "" := str_ext (by rw [TS_list]; rfl)
theorem TS_one {stem e : Str} (hs : Clean stem.cps.toList) (he : IsEnd e.cps.toList) (p : List Int) : fixS ((TS stem p ++ k1S stem) ++ e) = TS stem (p ++ [1]) := by
  apply str_ext
  have : (fixS ((TS stem p ++ k1S stem) ++ e)).cps.toList = fixL (txtK stem.cps.toList 0 p ++ ([46] ++ stem.cps.toList ++ [97]) ++ e.cps.toList) := by
    unfold fixS
    simp only [app_list, k1_list, TS_list]
  rw [this, TS_list]
  exact row_one hs p he
theorem TS_other {stem e : Str} (hs : Clean stem.cps.toList) (he : IsEnd e.cps.toList) (p : List Int) {b : Int} (hb : b ≠ 1) : dotS (fixS ((TS stem p ++ k0S stem) ++ e)) = TS stem (p ++ [b]) := by
  apply str_ext
  have : (fixS ((TS stem p ++ k0S stem) ++ e)).cps.toList = fixL (txtK stem.cps.toList 0 p ++ (stem.cps.toList ++ [98, 98]) ++ e.cps.toList) := by
    unfold fixS
    simp only [app_list, k0_list, TS_list]
  unfold dotS
  rw [this, TS_list]
  show quoteL true _ = _
  exact row_other hs p he hb
theorem TS_len (stem : Str) (p : List Int) : (TS stem p).length = p.length * (stem.length + 4) + inv p := by
  rw [len_list, TS_list, txt_len, ← len_list]
theorem TS_le {stem : Str} (hst : stem.length ≤ 4) {p : List Int} (hp : p.length ≤ 5) : (TS stem p).length ≤ 65 := by
  rw [TS_len]
  have h1 := inv_le p
  have h2 : p.length * (stem.length + 4) ≤ 5 * 8 := Nat.mul_le_mul hp (by omega)
  have h3 : p.length * p.length ≤ 5 * 5 := Nat.mul_le_mul hp hp
  omega
theorem end_le {e : Str} (he : IsEnd e.cps.toList) : e.length ≤ 2 := by
  rw [len_list]
  rcases he with h | h | h <;> rw [h] <;> decide
theorem TS_falls (stem : Str) (p : List Int) : Txt.endswith (TS stem p) (tlS stem.cps.toList) = fallAt p := by
  rw [suf_iff]
  have : (tlS stem.cps.toList).cps.toList = txtK stem.cps.toList 0 [1, 0] := by simp [tlS]
  rw [this, TS_list, Bool.eq_iff_iff, decide_eq_true_eq]
  exact falls_here p

/-- what the loops read -/
structure LV (n : Nat) (stem : Str) (K EE : Addr) (ends : Array Value) (h : Heap) (m : Str → Option Value) : Prop where
  sz : ∃ t, m "size" = some (.int n t)
  st : ∃ t, m "stem" = some (.str stem t)
  kd : m "kinds" = some (.ref K)
  kt : ∃ t u, h.IsTuple K #[.str (k0S stem) t, .str (k1S stem) u]
  en : m "ends" = some (.ref EE)
  el : h.IsList EE ends
  fl : ∃ v, m "fall" = some (.str (fallS stem.cps.toList) v)
abbrev lvNames : List Str := ["size", "stem", "kinds", "ends", "fall"]
theorem LV.move {n : Nat} {stem : Str} {K EE : Addr} {ends : Array Value} {h h' : Heap} {m m' : Str → Option Value} (x : LV n stem K EE ends h m) (k : ∀ b o, SeqO o → h.get? b = some o → h'.get? b = some o) (hm : ∀ y ∈ lvNames, m' y = m y) : LV n stem K EE ends h' m' where
  sz := by rw [hm _ (by simp)]; exact x.sz
  st := by rw [hm _ (by simp)]; exact x.st
  kd := by rw [hm _ (by simp)]; exact x.kd
  kt := let ⟨t, u, o, e, hc, nn, hd⟩ := x.kt; ⟨t, u, o, k _ _ (by simp [SeqO, hd]) e, hc, nn, hd⟩
  en := by rw [hm _ (by simp)]; exact x.en
  el := let ⟨o, e, hc, nn, hd⟩ := x.el; ⟨o, k _ _ (by simp [SeqO, hd]) e, hc, nn, hd⟩
  fl := by rw [hm _ (by simp)]; exact x.fl
theorem upd_all {m : Str → Option Value} {x : Str} {v : Value} {l : List Str} (h : x ∉ l) : ∀ y ∈ l, upd m x v y = m y := fun y hy => if_neg (fun (e : y = x) => h (e ▸ hy))

section
variable {prog : Program} {w : World} {A : Around} {E : Value → Shared → Prop} {s : Shared} {mg mb : Str → Option Value} {env : Env}

/-- { kx: (p, q) } -/
theorem dict1 {kx : Expr} {k p q : Int} {p1 p2 p3 pos : Pos} {kt q1 q2 : Nat} {Q : Value → Shared → Prop}
    (hk : ∀ (h : Heap) tk (Q' : Value → Shared → Prop), Ext s.heap h → (∀ t tk', Q' (.int k t) { s with heap := h, toks := tk' }) → wpAny (model prog w) A (eval kx env) Q' E { s with heap := h, toks := tk })
    (h : ∀ D h' tk, s.heap.objs.size ≤ D → D < h'.objs.size → Book prog w h' D [(k, p, q)] → Ext s.heap h' → Q (.ref D) { s with heap := h', toks := tk }) :
    wpAny (model prog w) A (eval (.Dict [some kx] [.Tuple [.Constant (.int p) q1 p1, .Constant (.int q) q2 p2] kt p3] pos) env) Q E s := by
  refine wpAny_Dict_walk (knd := intKind prog w) rfl rfl (by simp) (by simp) ?_
  refine pairTrees_cons_walk ?_
  have k1 : Ext s.heap (s.heap.push { cls := .type "dict", data := .dict #[] }) := fun b o e => Heap.get?_push_of_some _ e
  refine hk (s.heap.push { cls := .type "dict", data := .dict #[] }) s.toks _ k1 fun t tk' => ?_
  refine Tuple_ (args_cons (wpAny_Constant_int (args_cons (wpAny_Constant_int (args_nil (wpAny_newTuple (pairTrees_nil_walk ?_)))))))
  have hD : ∀ o, ((s.heap.push { cls := .type "dict", data := .dict #[] }).push o).DictOf (intKind prog w) s.heap.objs.size [] := fun o => (Heap.DictOf.new (knd := intKind prog w) s.heap).push o
  refine ⟨[(k, .ref (s.heap.push { cls := .type "dict", data := .dict #[] }).objs.size)], ⟨by simp [intKind, Value.isInt], rfl, trivial⟩, hD _, fun h' dh hs => ?_⟩
  have hz : (s.heap.push { cls := .type "dict", data := .dict #[] }).objs.size = s.heap.objs.size + 1 := Heap.size_push ..
  have hm : merged [] [(k, Value.ref (s.heap.push { cls := .type "dict", data := .dict #[] }).objs.size)] = [(k, Value.ref (s.heap.push { cls := .type "dict", data := .dict #[] }).objs.size)] := rfl
  rw [hm] at dh
  refine h s.heap.objs.size h' _ (Nat.le_refl _) (let ⟨o, _, _, ho, _⟩ := dh; Heap.lt_size ho) ⟨_, dh, .cons ⟨_, _, _, rfl, hs.extBut _ _ ?_ (Heap.get?_push_size _ rfl)⟩ .nil⟩ fun b o e => hs.extBut b o (Nat.ne_of_lt (Heap.lt_size e)) (Heap.get?_push_of_some _ (k1 b o e))
  show (s.heap.push _).objs.size ≠ _
  rw [hz]
  exact Nat.ne_of_gt (Nat.lt_succ_self _)
end
end Mine

/-! part B21 -/
namespace Mine
open PySem PySem.Calls PyProof.Rows
set_option maxRecDepth 100000

def orderBody : List Stmt := match stL 9 with | .For _ _ b _ _ => b | _ => []
def stO (k : Nat) : Stmt := orderBody.getD k (.Pass default)

/-- what stays in the loop over the rows -/
structure IX (z : Array Value) (c TB : Addr) (hB : Heap) (L : Addr) (cv : Nat → Option Value) (n : Nat) (stem : Str) (K EE : Addr) (ends : Array Value) (OA BK : Addr) (hI : Heap) (Lt : Str) (Fa : Int) (h : Heap) (m : Str → Option Value) : Prop where
  lw : LW z c TB hB L h m cv
  lv : LV n stem K EE ends h m
  od : m "order" = some (.ref OA)
  bk : m "book" = some (.ref BK)
  lt : ∃ t, m "letter" = some (.str Lt t)
  fa : ∃ t, m "falls" = some (.int Fa t)
  kp : Kp [L] hI h
section
variable {z : Array Value} {c TB : Addr} {hB : Heap} {L : Addr} {cv : Nat → Option Value} {n : Nat} {stem : Str} {K EE : Addr} {ends : Array Value} {OA BK : Addr} {hI : Heap} {Lt : Str} {Fa : Int} {h h' : Heap} {m m' : Str → Option Value}
theorem IX.grow (x : IX z c TB hB L cv n stem K EE ends OA BK hI Lt Fa h m) (k : Ext h h') : IX z c TB hB L cv n stem K EE ends OA BK hI Lt Fa h' m :=
  ⟨x.lw.ext k, x.lv.move (fun b o _ e => k b o e) fun _ _ => rfl, x.od, x.bk, x.lt, x.fa, fun b o hb e => k b o (x.kp b o hb e)⟩
theorem IX.off (x : IX z c TB hB L cv n stem K EE ends OA BK hI Lt Fa h m) {J : Addr} (k : ∀ b o, b ∉ [J] → h.get? b = some o → h'.get? b = some o) (hJ : L + 4 < J) (hJ2 : hI.objs.size ≤ J) (hno : ∀ o, h.get? J = some o → ¬ SeqO o) : IX z c TB hB L cv n stem K EE ends OA BK hI Lt Fa h' m :=
  ⟨x.lw.off k hJ, x.lv.move (fun b o hq e => k b o (by intro q; rw [List.mem_singleton.mp q] at e; exact hno o e hq) e) fun _ _ => rfl, x.od, x.bk, x.lt, x.fa,
    fun b o hb e => k b o (by simpa using Nat.ne_of_lt (Nat.lt_of_lt_of_le (Heap.lt_size e) hJ2)) (x.kp b o hb e)⟩
theorem IX.store (x : IX z c TB hB L cv n stem K EE ends OA BK hI Lt Fa h m) {Lt' : Str} {Fa' : Int} (hs : Heap.SameBut L h h') (hn : h'.Ns L m') (e1 : ∀ y ∈ lvNames, m' y = m y) (e2 : m' "order" = m "order") (e3 : m' "book" = m "book") (e4 : ∃ t, m' "letter" = some (.str Lt' t)) (e5 : ∃ t, m' "falls" = some (.int Fa' t)) :
    IX z c TB hB L cv n stem K EE ends OA BK hI Lt' Fa' h' m' :=
  ⟨x.lw.set hs hn, x.lv.move (fun b o hq e => hs.extBut b o (by rintro rfl; exact ns_noSeq x.lw.fr.ns o e hq) e) e1, e2.trans x.od, e3.trans x.bk, e4, e5, fun b o hb e => hs.extBut b o (by simpa using hb) (x.kp b o hb e)⟩
end

section
variable {prog : Program} {w : World} {A : Around} {s : Shared} {mg mb : Str → Option Value}
variable {z : Array Value} {c TB : Addr} {hB : Heap} {L : Addr} {m : Str → Option Value} {cv : Nat → Option Value} {n : Nat} {stem : Str} {K EE : Addr} {ends : Array Value} {OA BK : Addr} {hI : Heap} {Lt : Str} {Fa : Int}

/-- kinds[j] -/
theorem kind_item {a : Addr} {cd : Value} {j : Nat} {x : Value} {t u : Tok} {p1 p2 p3 : Pos} {Q' : Value → Shared → Prop} {E : Value → Shared → Prop} (hn : s.heap.Ns L m) (hk : m "kinds" = some (.ref K)) (hK : s.heap.IsTuple K #[.str (k0S stem) t, .str (k1S stem) u])
    (hx : (#[.str (k0S stem) t, .str (k1S stem) u] : Array Value)[j]? = some x) (hj : seqIndex? (j : Int) 2 = some j) (hlt : j < 2) (hq : ∀ tk', Q' x { s with toks := tk' }) :
    wpAny (model prog w) A (eval (.Subscript (.Name "kinds" p1) (.Constant (.int j) 0 p2) p3) (envC 15 L a cd)) Q' E s :=
  Subscript_ (locC hn hk (wpAny_Constant_int (item_tuple (j := j) hK (by omega) (by omega) hj hx (hq _))) (by with_unfolding_all rfl) (by with_unfolding_all rfl))
/-- ends[k], order[k] -/
theorem list_item {a : Addr} {cd : Value} {i : Int} {x : Value} {l : Addr} {items : Array Value} {t : Tok} {nm : Str} {p1 p2 p3 : Pos} {Q' : Value → Shared → Prop} {E : Value → Shared → Prop} (hn : s.heap.Ns L m) (hl : m nm = some (.ref l)) (hk : m "k" = some (.int i t)) (hL : s.heap.IsList l items)
    (h0 : 0 ≤ i) (h1 : i < 2 ^ 63) (hx : items[i.toNat]? = some x) (hq : Q' x s) (hx1 : (envC 15 L a cd).kindOf nm = some .local) (hd : (nm == ("__debug__" : Str)) = false) :
    wpAny (model prog w) A (eval (.Subscript (.Name nm p1) (.Name "k" p2) p3) (envC 15 L a cd)) Q' E s :=
  Subscript_ (locC hn hl (locC hn hk (item_list hL h0 h1 hx hq) (by with_unfolding_all rfl) (by with_unfolding_all rfl)) (by with_unfolding_all rfl) hx1 hd)

def rowBody : List Stmt := match stO 2 with | .For _ _ b _ _ => b | _ => []
def stR (k : Nat) : Stmt := rowBody.getD k (.Pass default)

theorem row_arg {a : Addr} {cd : Value} {j i : Nat} {kS e : Str} {t0 : Tok} {te : Tok} {p1 p2 p3 p4 p5 p6 p7 p8 p9 : Pos} {Q' : Value → Shared → Prop} {E : Value → Shared → Prop} (X : IX z c TB hB L cv n stem K EE ends OA BK hI Lt Fa s.heap m) (hk : m "k" = some (.int (0 + (i : Int) * 1) t0)) (hi : i < 100)
    (hx : ∀ t u, ∃ v, (#[.str (k0S stem) t, .str (k1S stem) u] : Array Value)[j]? = some (.str kS v)) (hj : seqIndex? (j : Int) 2 = some j) (hlt : j < 2) (he : ends[i]? = some (.str e te)) (l1 : Lt.length ≤ 65) (l2 : kS.length ≤ 6) (l3 : e.length ≤ 2)
    (hq : ∀ t tk, Q' (.str ((Lt ++ kS) ++ e) t) { s with heap := s.heap, toks := tk }) :
    wpAny (model prog w) A (eval (.BinOp (.BinOp (.Name "letter" p1) .Add (.Subscript (.Name "kinds" p2) (.Constant (.int j) 0 p3) p4) p5) .Add (.Subscript (.Name "ends" p6) (.Name "k" p7) p8) p9) (envC 15 L a cd)) Q' E s := by
  obtain ⟨tl, hl⟩ := X.lt
  obtain ⟨t, u, hK⟩ := X.lv.kt
  obtain ⟨v, hx⟩ := hx t u
  refine cat_ (cat_ (locC X.lw.fr.ns hl ⟨_, _, rfl, kind_item (j := j) X.lw.fr.ns X.lv.kd hK hx hj hlt fun tk' => ⟨_, _, rfl, by omega, fun t' tk'' => ⟨_, _, rfl, ?_⟩⟩⟩ (by with_unfolding_all rfl) (by with_unfolding_all rfl)))
  refine anyTok (s := s) (h := s.heap) fun tk => ?_
  refine list_item (s := { s with heap := s.heap, toks := tk }) X.lw.fr.ns X.lv.en hk X.lv.el (by omega) (by omega) (x := .str e te) (by rw [show (0 + (i : Int) * 1).toNat = i by omega]; exact he) ⟨_, _, rfl, ?_, fun t tk => ?_⟩ (by with_unfolding_all rfl) (by decide)
  · rw [len_app]; omega
  · exact hq t tk

set_option maxHeartbeats 8000000 in
theorem row_letter {rest : List Stmt} {Q : Flow → Shared → Prop} {a : Addr} {cd : Value} {o : List Int} {oits : Array Value} {i : Nat} {t0 : Tok} {J : Addr} {oJ : Obj} (G : Gd mg mb hB) (hdp : A.depth < recursionLimit) (Y : IX z c TB hB L cv n stem K EE ends OA BK hI (TS stem (o.take i)) Fa s.heap m) (hk : m "k" = some (.int (0 + (i : Int) * 1) t0))
    (hJ : s.heap.get? J = some oJ) (hJL : J ≠ L) (hO : s.heap.IsList OA oits) (iO : Ints oits o) (hil : i < o.length) (hol : o.length ≤ 5) (hE : EndsAre ends o.length) (hst : stem.length ≤ 4) (hs : Clean stem.cps.toList)
    (h : ∀ (h' : Heap) tk (m' : Str → Option Value), IX z c TB hB L cv n stem K EE ends OA BK hI (TS stem (o.take (i + 1))) Fa h' m' → m' "k" = some (.int (0 + (i : Int) * 1) t0) → h'.get? J = some oJ →
      wpAny (model prog w) A (execs rest (envC 15 L a cd)) Q NR { s with heap := h', toks := tk }) :
    wpAny (model prog w) A (execs (stR 0 :: rest) (envC 15 L a cd)) Q NR s := by
  obtain ⟨a11, o11, pm11, cd11, doc11, f1, f2, f3, f4⟩ := G.fn 11 (by simp)
  obtain ⟨a10, o10, pm10, cd10, doc10, q1, q2, q3, q4⟩ := G.fn 10 (by simp)
  have htk : o.take (i + 1) = o.take i ++ [o.getD i 0] := take_snoc (by rw [List.getD_eq_getElem?_getD, List.getElem?_eq_getElem hil]; rfl)
  have hle : i < ends.size := by rw [hE.1]; exact hil
  obtain ⟨e, te, hee, hend⟩ := hE.2 i ends[i] (by simp [hle])
  have hee' : ends[i]? = some (.str e te) := by rw [← hee]; simp [hle]
  have lT : (TS stem (o.take i)).length ≤ 65 := TS_le hst (by rw [List.length_take]; omega)
  have l0 : (k0S stem).length ≤ 6 := by rw [len_list, k0_list, List.length_append, ← len_list]; show _ + 2 ≤ _; omega
  have l1 : (k1S stem).length ≤ 6 := by rw [len_list, k1_list, List.length_append, List.length_append, ← len_list]; show 1 + _ + 1 ≤ _; omega
  have le := end_le hend
  obtain ⟨tv, hov⟩ := iO.get hil
  have GY : Gd mg mb s.heap := G.keeps Y.lw.fr.keep
  -- what the store of the letter leaves
  have fin : ∀ (Ls : Str) (h4 : Heap) tk4 tl, Ls = TS stem (o.take (i + 1)) → Ext s.heap h4 → (∀ (P : Unit → Shared → Prop), (∀ h5 tk5, Heap.SameBut L h4 h5 → h5.Ns L (upd m "letter" (.str (TS stem (o.take (i + 1))) tl)) → P () { s with heap := h5, toks := tk5 }) → wpAny (model prog w) A (storeName (envC 15 L a cd) "letter" (.str Ls tl)) P NR { s with heap := h4, toks := tk4 }) := by
    intro Ls h4 tk4 tl eL k4 P hP
    subst eL
    with_unfolding_all refine wpAny_storeName_local ?_ (Y.lw.fr.ns.keeps k4) (fun h5 hn5 hs5 => ?_) ?_
    · with_unfolding_all rfl
    · exact hP h5 _ hs5 hn5
    · with_unfolding_all rfl
  have fin2 : ∀ (h4 h5 : Heap) tk5 tl, Ext s.heap h4 → Heap.SameBut L h4 h5 → h5.Ns L (upd m "letter" (.str (TS stem (o.take (i + 1))) tl)) → wpAny (model prog w) A (execs rest (envC 15 L a cd)) Q NR { s with heap := h5, toks := tk5 } := by
    intro h4 h5 tk5 tl k4 hs5 hn5
    have Y4 := Y.grow k4
    refine h h5 tk5 _ (Y4.store (Lt' := TS stem (o.take (i + 1))) (Fa' := Fa) hs5 hn5 (upd_all (by decide)) (upd_ne (by decide) rfl) (upd_ne (by decide) rfl) ⟨tl, if_pos rfl⟩ (let ⟨t, e⟩ := Y.fa; ⟨t, upd_ne (by decide) e⟩)) (upd_ne (by decide) hk) (hs5.extBut J oJ hJL (k4 _ _ hJ))
  refine wpAny_execs_cons ?_
  with_unfolding_all refine wpAny_If (wpAny_isTrue_Compare1 (list_item (x := .int (o.getD i 0) tv) Y.lw.fr.ns Y.od hk hO (by omega) (by omega) ?hx (wpAny_Constant_int (P.eq_int (wpAny_truthy_bool ?hq))) ?h1 ?h2) ?hb)
  case hx => rw [show (0 + (i : Int) * 1).toNat = i by omega]; exact hov
  case h1 => with_unfolding_all rfl
  case h2 => decide
  case hb => with_unfolding_all rfl
  cases hb : (o.getD i 0 == 1) with
  | true =>
    have hb1 : o.getD i 0 = 1 := by simpa using hb
    rw [if_pos rfl]
    refine anyTok (s := s) (h := s.heap) fun tk => ?_
    refine wpAny_execs_cons ?_
    with_unfolding_all refine wpAny_Assign_Name ?hm ?hsw
    case hsw => with_unfolding_all rfl
    with_unfolding_all refine fnc1 (a := a11) (o := o11) (fd := docDef (nameAt 11) (paramsAt 11) (bodyAt 11) (scopeAt 11) pm11 cd11 doc11) ?he (globC GY f1 ⟨rfl, ?_⟩ ?hk ?hx ?hd)
    case he => rfl
    case hk => with_unfolding_all rfl
    case hx => with_unfolding_all rfl
    case hd => decide
    refine row_arg (s := { s with heap := s.heap, toks := tk }) (j := 1) (kS := k1S stem) Y hk (by omega) (fun t u => ⟨u, rfl⟩) rfl (by decide) hee' lT l1 le fun t tk' => ⟨⟨Y.lw.fr.keep _ _ f2, f3⟩, ?_⟩
    refine fixEols_K (s := { s with heap := s.heap, toks := tk' }) GY hdp ?_ f1 fun h4 tk4 t4 k4 => ?_
    · rw [len_app, len_app]; omega
    exact fin _ h4 _ t4 (by rw [TS_one hs hend, htk, hb1]) k4 _ fun h5 tk5 hs5 hn5 => wpAny_execs_nil (fin2 h4 h5 tk5 t4 k4 hs5 hn5)
  | false =>
    have hb1 : o.getD i 0 ≠ 1 := by simpa using hb
    rw [if_neg (by decide)]
    refine anyTok (s := s) (h := s.heap) fun tk => ?_
    refine wpAny_execs_cons ?_
    with_unfolding_all refine wpAny_Assign_Name ?hmB ?hswB
    case hswB => with_unfolding_all rfl
    with_unfolding_all refine fnc1 (a := a10) (o := o10) (fd := docDef (nameAt 10) (paramsAt 10) (bodyAt 10) (scopeAt 10) pm10 cd10 doc10) ?heB (globC GY q1 ⟨rfl, ?_⟩ ?hkB ?hxB ?hdB)
    case heB => rfl
    case hkB => with_unfolding_all rfl
    case hxB => with_unfolding_all rfl
    case hdB => decide
    refine row_arg (s := { s with heap := s.heap, toks := tk }) (j := 0) (kS := k0S stem) Y hk (by omega) (fun t u => ⟨t, rfl⟩) rfl (by decide) hee' lT l0 le fun t tk' => ⟨⟨Y.lw.fr.keep _ _ q2, q3⟩, ?_⟩
    refine quotedata_K (s := { s with heap := s.heap, toks := tk' }) GY hdp ?_ q1 fun h4 tk4 t4 k4 => ?_
    · rw [len_app, len_app]; omega
    exact fin _ h4 _ t4 (by rw [TS_other hs hend _ hb1, htk]) k4 _ fun h5 tk5 hs5 hn5 => wpAny_execs_nil (fin2 h4 h5 tk5 t4 k4 hs5 hn5)

set_option maxHeartbeats 8000000 in
theorem row_fall {Qt : Flow → Shared → Prop} {a : Addr} {cd : Value} {p : List Int} {i : Nat} {t0 : Tok} {J : Addr} {oJ : Obj} (G : Gd mg mb hB) (hh : A.handled = none) (hdp : A.depth < recursionLimit) (Y : IX z c TB hB L cv n stem K EE ends OA BK hI (TS stem p) Fa s.heap m) (hk : m "k" = some (.int (0 + (i : Int) * 1) t0))
    (hJ : s.heap.get? J = some oJ) (hJL : J ≠ L) (hp : p.length ≤ 5) (hst : stem.length ≤ 4) (hs : Clean stem.cps.toList)
    (h : ∀ (h' : Heap) tk (m' : Str → Option Value), IX z c TB hB L cv n stem K EE ends OA BK hI (TS stem p) (Fa + (if fallAt p = true then (i : Int) else 0)) h' m' → h'.get? J = some oJ → Qt .next { s with heap := h', toks := tk }) :
    wpAny (model prog w) A (execs [stR 1] (envC 15 L a cd)) Qt NR s := by
  obtain ⟨a3, o3, pm3, cd3, doc3, e1, e2, e3, e4⟩ := G.fn 3 (by simp)
  obtain ⟨v, hfl⟩ := Y.lv.fl
  obtain ⟨tl, hlt⟩ := Y.lt
  obtain ⟨tf, hfa⟩ := Y.fa
  have GY : Gd mg mb s.heap := G.keeps Y.lw.fr.keep
  have lT : (TS stem p).length ≤ 65 := TS_le hst hp
  have lF : (tlS stem.cps.toList).length ≤ 65 := by
    have := TS_le (stem := stem) hst (p := [1, 0]) (by decide)
    exact this
  have lF0 : (tlS stem.cps.toList).length ≠ 0 := by
    rw [len_list]
    simp [tlS, tl_eq, dotRow]
  have lW : (fallS stem.cps.toList).length ≤ 100 := by
    rw [len_list]
    rw [len_list] at lF
    simp only [fallS, tlS, List.toList_toArray, List.length_append, List.length_cons, List.length_nil] at lF ⊢
    omega
  refine wpAny_execs_cons ?_
  with_unfolding_all refine wpAny_If (wpAny_isTrue_value (fnc2 (a := a3) (o := o3) (fd := docDef (nameAt 3) (paramsAt 3) (bodyAt 3) (scopeAt 3) pm3 cd3 doc3) ?he (globC GY e1 ⟨rfl, locC Y.lw.fr.ns hfl (locC Y.lw.fr.ns hlt ⟨⟨Y.lw.fr.keep _ _ e2, e3⟩, ellipsis_K GY hh hdp (by omega) (by omega) e1 (fall_contains hs) (fall_split hs) lF0 (by omega) fun h1 tk1 k1 => wpAny_truthy_bool ?_⟩ ?hc1 ?hc2 ?hc3) ?hd1 ?hd2 ?hd3⟩ ?hk ?hx ?hd)) ?hiT)
  case he => rfl
  case hk => with_unfolding_all rfl
  case hx => with_unfolding_all rfl
  case hd => decide
  case hc1 => with_unfolding_all rfl
  case hc2 => with_unfolding_all rfl
  case hc3 => decide
  case hd1 => with_unfolding_all rfl
  case hd2 => with_unfolding_all rfl
  case hd3 => decide
  case hiT => with_unfolding_all rfl
  replace k1 : Ext s.heap h1 := k1
  have Y1 := Y.grow k1
  have hJ1 : h1.get? J = some oJ := k1 _ _ hJ
  rw [TS_falls]
  cases hf : fallAt p with
  | false =>
    rw [if_neg (by decide)]
    have := h h1 tk1 m (by rw [hf, if_neg (by decide), Int.add_zero]; exact Y1) hJ1
    exact wpAny_execs_nil (wpAny_execs_nil this)
  | true =>
    rw [if_pos rfl]
    refine anyTok (s := s) (h := h1) fun tk => ?_
    refine wpAny_execs_cons ?_
    with_unfolding_all refine wpAny_AugAssign_Name (wpAny_loadName_local ?g1 ?g2 Y1.lw.fr.ns hfa (locC Y1.lw.fr.ns hk (P.iadd_int (wpAny_storeName_local ?g3 Y1.lw.fr.ns (fun h5 hn5 hs5 => ?_) ?g4)) ?g5 ?g6 ?g7))
    case g1 => with_unfolding_all rfl
    case g2 => with_unfolding_all rfl
    case g3 => with_unfolding_all rfl
    case g4 => with_unfolding_all rfl
    case g5 => with_unfolding_all rfl
    case g6 => with_unfolding_all rfl
    case g7 => decide
    replace hs5 : Heap.SameBut L h1 h5 := hs5
    have Y5 := Y1.store (Lt' := TS stem p) (Fa' := Fa + (0 + (i : Int) * 1)) hs5 hn5 (upd_all (by decide)) (upd_ne (by decide) rfl) (upd_ne (by decide) rfl) ⟨tl, upd_ne (by decide) hlt⟩ ⟨_, if_pos rfl⟩
    have e : Fa + (0 + (i : Int) * 1) = Fa + (i : Int) := by omega
    rw [e] at Y5
    exact wpAny_execs_nil (wpAny_execs_nil (h h5 _ _ (by rw [hf, if_pos rfl]; exact Y5) (hs5.extBut J oJ hJL hJ1)))

set_option maxHeartbeats 8000000 in
theorem rows_loop {rest : List Stmt} {Q : Flow → Shared → Prop} {a : Addr} {cd : Value} {o : List Int} {oits : Array Value} (G : Gd mg mb hB) (hh : A.handled = none) (hdp : A.depth < recursionLimit) (X : IX z c TB hB L cv n stem K EE ends OA BK s.heap (TS stem []) 0 s.heap m) (hn5 : n ≤ 5)
    (hO : s.heap.IsList OA oits) (iO : Ints oits o) (hol : o.length = n) (hE : EndsAre ends n) (hst : stem.length ≤ 4) (hs : Clean stem.cps.toList)
    (h : ∀ (h' : Heap) tk (m' : Str → Option Value), IX z c TB hB L cv n stem K EE ends OA BK s.heap (TS stem o) (fallsN o n) h' m' →
      wpAny (model prog w) A (execs rest (envC 15 L a cd)) Q (fun _ _ => False) { s with heap := h', toks := tk }) :
    wpAny (model prog w) A (execs (stO 2 :: rest) (envC 15 L a cd)) Q (fun _ _ => False) s := by
  have hsl : sizeLine = 2 ^ 24 := rfl
  obtain ⟨t1, m1⟩ := X.lv.sz
  have big := X.lw.big
  refine wpAny_execs_cons ?_
  with_unfolding_all refine for_gen (env := envC 15 L a cd) (A := A) (typ1 (T := "range") ?he (bltC (G.keeps X.lw.fr.keep) (by simp) rfl ⟨rfl, locC X.lw.fr.ns m1 (rng1 (by omega) (by omega) fun h1 tk1 k1 hz1 hI1 => ?_) ?h1 ?h2 ?h3⟩ ?h4 ?h5 ?h6)) ?h7
  case he => rfl
  case h1 => with_unfolding_all rfl
  case h2 => with_unfolding_all rfl
  case h3 => decide
  case h4 => with_unfolding_all rfl
  case h5 => with_unfolding_all rfl
  case h6 => decide
  case h7 => exact fun _ => rfl
  replace k1 : Ext s.heap h1 := k1
  replace hz1 : h1.objs.size = s.heap.objs.size + 2 := hz1
  replace hI1 : IsRangeIter h1 (s.heap.objs.size + 1) (0 + ((0 : Nat) : Int) * 1) ((((n : Int)).toNat : Int) - ((0 : Nat) : Int)) 1 := hI1
  rw [Int.toNat_natCast] at hI1
  have hJbig : L + 4 < s.heap.objs.size + 1 := Nat.lt_succ_of_lt big
  have hJ2 : s.heap.objs.size ≤ s.heap.objs.size + 1 := Nat.le_succ _
  generalize s.heap.objs.size + 1 = J at hI1 hJbig hJ2
  have hJL : J ≠ L := Nat.ne_of_gt (Nat.lt_of_le_of_lt (Nat.le_add_right _ _) hJbig)
  refine over_range (fun i s' => ∃ h tk m', s' = { s with heap := h, toks := tk } ∧ IX z c TB hB L cv n stem K EE ends OA BK s.heap (TS stem (o.take i)) (fallsN o i) h m') hh hI1 ⟨_, _, _, rfl, X.grow k1⟩ ?_ ?_
  · rintro i t0 s0 s1 hi hno ⟨oJ, hoJ⟩ ⟨hx, tkx, mx, rfl, X0⟩ ⟨hy, tky, rfl, hk⟩
    have Y := X0.off hk hJbig hJ2 hno
    clear X0 hk
    replace hoJ : hy.get? J = some oJ := hoJ
    have hil : i < o.length := by rw [hol]; exact hi
    have htk : o.take (i + 1) = o.take i ++ [o.getD i 0] := take_snoc (by rw [List.getD_eq_getElem?_getD, List.getElem?_eq_getElem hil]; rfl)
    with_unfolding_all refine wpAny_storeName_local ?_ Y.lw.fr.ns (fun h3 hn3 hs3 => ?_) ?_
    · with_unfolding_all rfl
    rotate_left
    · with_unfolding_all rfl
    replace hs3 : Heap.SameBut L hy h3 := hs3
    have Y3 : IX z c TB hB L cv n stem K EE ends OA BK s.heap (TS stem (o.take i)) (fallsN o i) h3 (upd mx "k" (.int (0 + (i : Int) * 1) t0)) := Y.store (Lt' := TS stem (o.take i)) (Fa' := fallsN o i) hs3 hn3 (upd_all (by decide)) (upd_ne (by decide) rfl) (upd_ne (by decide) rfl) (let ⟨t, e⟩ := Y.lt; ⟨t, upd_ne (by decide) e⟩) (let ⟨t, e⟩ := Y.fa; ⟨t, upd_ne (by decide) e⟩)
    have hk3 : upd mx "k" (.int (0 + (i : Int) * 1) t0) "k" = some (.int (0 + (i : Int) * 1) t0) := if_pos rfl
    replace hn3 : h3.Ns L (upd mx "k" (.int (0 + (i : Int) * 1) t0)) := hn3
    have J3 : h3.get? J = some oJ := hs3.extBut J oJ hJL hoJ
    generalize upd mx "k" (.int (0 + (i : Int) * 1) t0) = m3 at *
    refine anyTok (s := s) (h := h3) fun tk => ?_
    refine row_letter (s := { s with heap := h3, toks := tk }) (rest := [stR 1]) G hdp Y3 hk3 J3 hJL ?_ iO hil (by omega) (by rw [hol]; exact hE) hst hs fun h4 tk4 m4 Y4 hk4 J4 => ?_
    · obtain ⟨oo, eo, r⟩ := hO
      exact ⟨oo, Y3.kp OA oo (by simpa using seq_ne ⟨oo, eo, r⟩ (ns_noSeq X.lw.fr.ns)) eo, r⟩
    refine row_fall (s := { s with heap := h4, toks := tk4 }) G hh hdp Y4 hk4 J4 hJL (by rw [List.length_take]; omega) hst hs fun h5 tk5 m5 Y5 J5 => ?_
    exact ⟨⟨h5, tk5, m5, rfl, Y5⟩, fun o' ho' => by obtain rfl : oJ = o' := Option.some.inj (hoJ.symm.trans ho'); exact J5⟩
  · rintro s0 s1 hno ⟨hx, tkx, mx, rfl, X0⟩ ⟨hy, tky, rfl, hk⟩
    have Y := X0.off hk hJbig hJ2 hno
    have : o.take n = o := by rw [← hol, List.take_length]
    exact h hy _ mx (by rw [this] at Y; exact Y)
end
end Mine

/-! part B22 -/
namespace Mine
open PySem PySem.Calls PyProof.Rows
set_option maxRecDepth 100000

section
variable {prog : Program} {w : World} {A : Around} {E : Value → Shared → Prop} {s : Shared} {mg mb : Str → Option Value}
variable {z : Array Value} {c TB : Addr} {hB : Heap} {L : Addr} {m : Str → Option Value} {cv : Nat → Option Value} {n : Nat} {stem : Str} {K EE : Addr} {ends : Array Value} {OA BK : Addr} {hI : Heap} {Lt : Str} {Fa : Int}

theorem sub_eq {x y r : Int} {t u : Tok} {Q : Value → Shared → Prop} (e : x - y = r) (h : Q (.int r s.toks) { s with toks := s.toks + 1 }) : wpAny (model prog w) A (binaryOp .Sub (.int x t) (.int y u)) Q E s := P.sub_int (by rw [e]; exact h)
theorem mul_small {x y : Int} {t u : Tok} {Q : Value → Shared → Prop} (h0 : 0 ≤ x) (h1 : x ≤ 1000) (h : Q (.int (x * y) s.toks) { s with toks := s.toks + 1 }) : wpAny (model prog w) A (binaryOp .Mult (.int x t) (.int y u)) Q E s :=
  P.mul_int h (IntMulOk.of_left (PySem.intBits_le_64 (by omega) (by omega)))

/-- 2 * x + order[-1] -/
theorem key_ {a : Addr} {cd : Value} {x r : Int} {tx tr : Tok} {nm : Str} {oits : Array Value} {p1 p2 p3 p4 p5 p6 p7 p8 : Pos} {q1 q2 : Nat} {Q : Value → Shared → Prop} (hn : s.heap.Ns L m) (hx : m nm = some (.int x tx)) (ho : m "order" = some (.ref OA)) (hO : s.heap.IsList OA oits) (h1 : 1 ≤ oits.size) (hr : oits[oits.size - 1]? = some (.int r tr))
    (hx1 : (envC 15 L a cd).kindOf nm = some .local) (hd : (nm == ("__debug__" : Str)) = false)
    (h : ∀ t tk, Q (.int (2 * x + r) t) { s with toks := tk }) :
    wpAny (model prog w) A (eval (.BinOp (.BinOp (.Constant (.int 2) q1 p1) .Mult (.Name nm p2) p3) .Add (.Subscript (.Name "order" p4) (.UnaryOp .USub (.Constant (.int 1) q2 p5) p6) p7) p8) (envC 15 L a cd)) Q E s := by
  refine wpAny_BinOp (wpAny_BinOp (wpAny_Constant_int (locC hn hx (mul_small (by omega) (by omega) (Subscript_ (locC hn ho (wpAny_UnaryOp (wpAny_Constant_int (P.neg_int (subscriptTail_builtin hO.typeIs slot_list_getitem.lookup (wpAny_getItem_list_neg (x := .int r tr) hO (by decide) (by omega) (by decide) ?_ (P.add_int (h _ _))) (by with_unfolding_all rfl) (by intro _; with_unfolding_all rfl))))) (by with_unfolding_all rfl) (by with_unfolding_all rfl)))) (by with_unfolding_all rfl) hx1 hd)))
  rw [← hr]
  congr 1
  omega

theorem last_of {oits : Array Value} {o : List Int} (iO : Ints oits o) (h1 : 1 ≤ o.length) : ∃ t, oits[oits.size - 1]? = some (.int (lastI o) t) := by
  rw [iO.1]
  exact iO.get (by omega)

set_option maxHeartbeats 8000000 in
theorem order_turn {Qt : Flow → Shared → Prop} {a aA : Addr} {cd : Value} {o : List Int} {oits : Array Value} {l : List (Int × Int × Int)} (G : Gd mg mb hB) (hAc : AcAt mg hB aA c) (hBT : hB.get? TB = none) (hh : A.handled = none) (hdp : A.depth + 1 < recursionLimit)
    (W : LW z c TB hB L s.heap m cv) (V : LV n stem K EE ends s.heap m) (hn5 : n = 4 ∨ n = 5) (od : m "order" = some (.ref OA)) (hO : s.heap.IsList OA oits) (iO : Ints oits o) (hol : o.length = n) (hE : EndsAre ends n) (hst : stem.length ≤ 4) (hs : Clean stem.cps.toList)
    (bk : m "book" = some (.ref BK)) (bB : Book prog w s.heap BK l) (hBK : L + 4 < BK) (hl : l.length ≤ 900) (hg : AllBare s.gens)
    (h : ∀ (h' : Heap) tk gs (m' : Str → Option Value) BK', LW z c TB hB L h' m' cv → LV n stem K EE ends h' m' → m' "book" = some (.ref BK') → Book prog w h' BK' (merge l (oneB o)) → L + 4 < BK' → AllBare gs → Kp [L, TB] s.heap h' → (∀ b o, b ∉ [L, TB] → s.heap.get? b = some o → b < BK') → Qt .next { s with heap := h', toks := tk, gens := gs }) :
    wpAny (model prog w) A (execs [stO 0, stO 1, stO 2, stO 3, stO 4, stO 5] (envC 15 L a cd)) Qt NR s := by
  have hsl : sizeLine = 2 ^ 24 := rfl
  -- letter = ''
  refine wpAny_execs_cons ?_
  with_unfolding_all refine wpAny_Assign_Name (Constant_str (wpAny_storeName_local ?g1 W.fr.ns (fun h1 hn1 hs1 => ?_) ?g2)) ?g3
  case g1 => with_unfolding_all rfl
  case g2 => with_unfolding_all rfl
  case g3 => with_unfolding_all rfl
  replace hs1 : Heap.SameBut L s.heap h1 := hs1
  refine anyTok (s := s) (h := h1) fun tk => ?_
  -- falls = 0
  refine wpAny_execs_cons ?_
  with_unfolding_all refine wpAny_Assign_Name (wpAny_Constant_int (wpAny_storeName_local ?k1 hn1 (fun h2 hn2 hs2 => ?_) ?k2)) ?k3
  case k1 => with_unfolding_all rfl
  case k2 => with_unfolding_all rfl
  case k3 => with_unfolding_all rfl
  replace hs2 : Heap.SameBut L h1 h2 := hs2
  refine anyTok (s := s) (h := h2) fun tk => ?_
  have hs12 : Heap.SameBut L s.heap h2 := hs1.trans hs2
  have X2' : ∀ t1 t2, h2.Ns L (upd (upd m "letter" (.str (Str.ofString "") t1)) "falls" (.int 0 t2)) → IX z c TB hB L cv n stem K EE ends OA BK h2 (TS stem []) 0 h2 (upd (upd m "letter" (.str (Str.ofString "") t1)) "falls" (.int 0 t2)) := by
    intro t1 t2 hns
    refine ⟨(W.set hs1 hn1).set hs2 hns, (V.move (fun b o hq e => hs12.extBut b o (by rintro rfl; exact ns_noSeq W.fr.ns o e hq) e) fun y hy => (upd_all (by decide) y hy).trans (upd_all (by decide) y hy)), ?_, ?_, ⟨t1, ?_⟩, ⟨t2, if_pos rfl⟩, fun _ _ _ e => e⟩
    · exact (if_neg (by decide)).trans ((if_neg (by decide)).trans od)
    · exact (if_neg (by decide)).trans ((if_neg (by decide)).trans bk)
    · exact (if_neg (by decide)).trans ((if_pos rfl).trans (by rw [TS_nil]))
  have X2 := X2' _ _ hn2
  have hOL : OA ≠ L := seq_ne hO (ns_noSeq W.fr.ns)
  have hO2 : h2.IsList OA oits := hO.at fun o e => hs12.extBut OA o hOL e
  -- the rows
  refine rows_loop (s := { s with heap := h2, toks := tk }) G hh (Nat.lt_of_succ_lt hdp) X2 (by omega) hO2 iO hol hE hst hs fun h3 tk3 m3 X3 => ?_
  have hO3 : h3.IsList OA oits := hO2.at fun o e => X3.kp OA o (by simpa using hOL) e
  have kp3 : Kp [L] s.heap h3 := fun b o hb e => X3.kp b o hb (hs12.extBut b o (by simpa using hb) e)
  have bB3 : Book prog w h3 BK l := bB.keeps (fun o e => kp3 BK o (by simpa using Nat.ne_of_gt (Nat.lt_of_le_of_lt (Nat.le_add_right _ _) hBK)) e) fun b o hq e => kp3 b o (by intro q; rw [List.mem_singleton.mp q] at e; exact ns_noSeq W.fr.ns o e hq) e
  obtain ⟨tl, hlt⟩ := X3.lt
  obtain ⟨tz, hsz⟩ := X3.lv.sz
  obtain ⟨ts, hstm⟩ := X3.lv.st
  have G3 : Gd mg mb h3 := G.keeps X3.lw.fr.keep
  have lT := TS_le (stem := stem) (p := o) hst (by omega)
  -- gained = len(letter) - size * (len(stem) + 4)
  refine wpAny_execs_cons ?_
  have hns3 := X3.lw.fr.ns
  have eg : (((TS stem o).length : Nat) : Int) - (n : Int) * (((stem.length : Nat) : Int) + 4) = (inv o : Int) := by
    have e1 : ((n * (stem.length + 4) + inv o : Nat) : Int) = (n : Int) * ((stem.length : Int) + 4) + (inv o : Int) := by
      rw [Int.natCast_add, Int.natCast_mul, Int.natCast_add]; rfl
    rw [TS_len, hol, e1]
    omega
  with_unfolding_all refine wpAny_Assign_Name (hs := ?hsw) (wpAny_BinOp (fun1 (id := "len") rfl (bltC G3 (by simp) rfl ⟨rfl, locC hns3 hlt (P.len_str ?b1 (wpAny_BinOp (locC hns3 hsz (wpAny_BinOp (fun1 (id := "len") rfl (bltC G3 (by simp) rfl ⟨rfl, locC hns3 hstm (P.len_str ?b2 (wpAny_Constant_int (P.add_int (mul_small ?b3 ?b4 (sub_eq eg (wpAny_storeName_local ?k5 hns3 (fun h4 hn4 hs4 => ?_) ?k6))))))⟩))))))⟩)))
  case hsw => with_unfolding_all rfl
  case k5 => with_unfolding_all rfl
  case k6 => with_unfolding_all rfl
  case b1 => omega
  case b2 => omega
  case b3 => omega
  case b4 => omega
  replace hs4 : Heap.SameBut L h3 h4 := hs4
  obtain ⟨tg, hn4⟩ : ∃ tg, h4.Ns L (upd m3 "gained" (.int (inv o : Int) tg)) := ⟨_, hn4⟩
  refine anyTok (s := s) (h := h4) fun tk => ?_
  have W4 := X3.lw.set hs4 hn4
  have V4 : LV n stem K EE ends h4 (upd m3 "gained" (.int (inv o : Int) tg)) := X3.lv.move (fun b o hq e => hs4.extBut b o (by rintro rfl; exact ns_noSeq hns3 o e hq) e) (upd_all (by decide))
  have hgn : upd m3 "gained" (.int (inv o : Int) tg) "gained" = some (.int (inv o : Int) tg) := if_pos rfl
  have hfl : ∃ t, upd m3 "gained" (.int (inv o : Int) tg) "falls" = some (.int (fallsN o n) t) := let ⟨t, e⟩ := X3.fa; ⟨t, upd_ne (by decide) e⟩
  have hod : upd m3 "gained" (.int (inv o : Int) tg) "order" = some (.ref OA) := upd_ne (by decide) X3.od
  have hbk : upd m3 "gained" (.int (inv o : Int) tg) "book" = some (.ref BK) := upd_ne (by decide) X3.bk
  generalize upd m3 "gained" (.int (inv o : Int) tg) = m4 at *
  have hO4 : h4.IsList OA oits := hO3.at fun o e => hs4.extBut OA o hOL e
  have kp4 : Kp [L] s.heap h4 := fun b o hb e => hs4.extBut b o (by simpa using hb) (kp3 b o hb e)
  have hBKL : BK ≠ L := Nat.ne_of_gt (Nat.lt_of_le_of_lt (Nat.le_add_right _ _) hBK)
  have bB4 : Book prog w h4 BK l := bB3.keeps (fun o e => hs4.extBut BK o hBKL e) fun b o hq e => hs4.extBut b o (by rintro rfl; exact ns_noSeq hns3 o e hq) e
  clear bB3 hO3 kp3 X2' X2 X3 hs4 hn4
  obtain ⟨tf, hfl⟩ := hfl
  have hsz1 : 1 ≤ oits.size := by rw [iO.1]; omega
  obtain ⟨tr, hr⟩ := last_of iO (by omega)
  obtain ⟨oA, pmA, docA, a1, a2, a3, a4⟩ := id hAc
  -- both
  refine wpAny_execs_cons ?_
  with_unfolding_all refine wpAny_Assign_Name (hs := ?hswB) ?mB
  case hswB => with_unfolding_all rfl
  with_unfolding_all refine fnc2 (a := aA) (o := oA) (fd := docDef (nameAt 5) (paramsAt 5) (bodyAt 5) (scopeAt 5) pmA (.ref c) docA) ?he5 (globC (G.keeps W4.fr.keep) a1 ⟨rfl, ?_⟩ ?hk5 ?hx5 ?hd5)
  case he5 => rfl
  case hk5 => with_unfolding_all rfl
  case hx5 => with_unfolding_all rfl
  case hd5 => decide
  refine dict1 (s := { s with heap := h4, toks := tk }) (k := 2 * (inv o : Int) + lastI o) (fun hx tkx Q' kx hq => key_ (s := { s with heap := hx, toks := tkx }) (W4.fr.ns.keeps kx) hgn hod (hO4.at fun o e => kx _ o e) hsz1 hr (by with_unfolding_all rfl) (by decide) fun t tk' => hq t tk') fun D1 h5 tk5 hD1 lD1 B1 k5 => ?_
  replace k5 : Ext h4 h5 := k5
  have W5 := W4.ext k5
  refine dict1 (s := { s with heap := h5, toks := tk5 }) (k := 2 * fallsN o n + lastI o) (fun hx tkx Q' kx hq => key_ (s := { s with heap := hx, toks := tkx }) (W5.fr.ns.keeps kx) hfl hod (hO4.at fun o e => kx _ o (k5 _ o e)) hsz1 hr (by with_unfolding_all rfl) (by decide) fun t tk' => hq t tk') fun D2 h6 tk6 hD2 lD2 B2 k6 => ?_
  replace k6 : Ext h5 h6 := k6
  have W6 := W5.ext k6
  have k46 : Ext h4 h6 := fun b o e => k6 b o (k5 b o e)
  have big : ∀ D : Addr, L + 4 < D → (D == sysModules) = false := fun D hD => beq_eq_false_iff_ne.mpr (Nat.ne_of_gt (Nat.lt_of_le_of_lt (Nat.le_trans (by decide : 1 ≤ 4) (Nat.le_add_left 4 L)) hD))
  have big1 : L + 4 < D1 := Nat.lt_of_lt_of_le W4.big hD1
  have big2 : L + 4 < D2 := Nat.lt_of_lt_of_le W5.big hD2
  refine ⟨⟨W6.fr.keep _ _ a2, a3⟩, ?_⟩
  refine addCallers_K (s := { s with heap := h6, toks := tk6 }) (hB := hB) (TB := TB) (c := c) (z := z) G W6.fr.keep hBT hAc hh hdp (big D1 big1) (big D2 big2) (B1.keeps (fun o e => k6 _ o e) fun b o _ e => k6 b o e) B2 W6.tb hg (show (1 + 1 : Nat) ≤ 1000 by decide) fun D3 h7 tk7 gs7 hD3 B3 kp7 tb7 g7 => ?_
  replace kp7 : Kp [TB] h6 h7 := kp7
  replace hD3 : h6.objs.size ≤ D3 := hD3
  have W7 := W6.tab hBT kp7 tb7
  have big3 : L + 4 < D3 := Nat.lt_of_lt_of_le W6.big hD3
  have V7 : LV n stem K EE ends h7 m4 := V4.move (fun b o hq e => kp7 b o (by intro q; rw [List.mem_singleton.mp q] at e; exact tb_noSeq W4.tb o e hq) (k46 b o e)) fun _ _ => rfl
  have hTB : ∀ D : Addr, L + 4 < D → D ∉ [TB] := fun D hD q => Nat.lt_irrefl _ (Nat.lt_trans (Nat.lt_of_lt_of_le W4.ltT (Nat.le_add_right _ _)) ((List.mem_singleton.mp q) ▸ hD))
  have bB7 : Book prog w h7 BK l := bB4.keeps (fun o e => kp7 BK o (hTB BK hBK) (k46 _ o e)) fun b o hq e => kp7 b o (by intro q; rw [List.mem_singleton.mp q] at e; exact tb_noSeq W4.tb o e hq) (k46 b o e)
  have one : merge [(2 * (inv o : Int) + lastI o, 1, 0)] [(2 * fallsN o n + lastI o, 0, 1)] = oneB o := by rw [oneB, hol]
  have kp47 : Kp [L, TB] s.heap h7 := fun b o hb e => by
    simp only [List.mem_cons, List.not_mem_nil, or_false, not_or] at hb
    exact kp7 b o (by simpa using hb.2) (k46 b o (kp4 b o (by simpa using hb.1) e))
  have tbn : ∀ o, h7.get? TB = some o → ¬ SeqO o := tb_noSeq tb7
  replace B3 : Book prog w h7 D3 (oneB o) := one ▸ B3
  with_unfolding_all refine wpAny_storeName_local ?s1 W7.fr.ns (fun h8 hn8 hs8 => ?_) ?s2
  case s1 => with_unfolding_all rfl
  case s2 => with_unfolding_all rfl
  replace hs8 : Heap.SameBut L h7 h8 := hs8
  replace hn8 : h8.Ns L (upd m4 "both" (.ref D3)) := hn8
  have nsq : ∀ b o, SeqO o → h7.get? b = some o → h8.get? b = some o := fun b o hq e => hs8.extBut b o (by rintro rfl; exact ns_noSeq W7.fr.ns o e hq) e
  have W8 := W7.set hs8 hn8
  have V8 : LV n stem K EE ends h8 (upd m4 "both" (.ref D3)) := V7.move nsq (upd_all (by decide))
  have neL : ∀ D : Addr, L + 4 < D → D ≠ L := fun D hD => Nat.ne_of_gt (Nat.lt_of_le_of_lt (Nat.le_add_right _ _) hD)
  have B8 : Book prog w h8 D3 (oneB o) := B3.keeps (fun o e => hs8.extBut D3 o (neL D3 big3) e) nsq
  have bB8 : Book prog w h8 BK l := bB7.keeps (fun o e => hs8.extBut BK o hBKL e) nsq
  have hbt : upd m4 "both" (.ref D3) "both" = some (.ref D3) := if_pos rfl
  have hbk8 : upd m4 "both" (.ref D3) "book" = some (.ref BK) := upd_ne (by decide) hbk
  generalize upd m4 "both" (.ref D3) = m8 at *
  have kp8 : Kp [L, TB] s.heap h8 := fun b o hb e => hs8.extBut b o (by intro q; exact hb (by simp [q])) (kp47 b o hb e)
  have hlen1 : (oneB o).length ≤ 2 := by unfold oneB; exact merge_len _ _
  -- book
  refine wpAny_execs_cons ?_
  with_unfolding_all refine wpAny_Assign_Name (hs := ?hswC) ?mC
  case hswC => with_unfolding_all rfl
  with_unfolding_all refine fnc2 (a := aA) (o := oA) (fd := docDef (nameAt 5) (paramsAt 5) (bodyAt 5) (scopeAt 5) pmA (.ref c) docA) ?he9 (globC (G.keeps W8.fr.keep) a1 ⟨rfl, locC W8.fr.ns hbk8 (locC W8.fr.ns hbt ⟨⟨W8.fr.keep _ _ a2, a3⟩, ?_⟩ ?u1 ?u2 ?u3) ?v1 ?v2 ?v3⟩ ?hk9 ?hx9 ?hd9)
  case he9 => rfl
  case hk9 => with_unfolding_all rfl
  case hx9 => with_unfolding_all rfl
  case hd9 => decide
  case u1 => with_unfolding_all rfl
  case u2 => with_unfolding_all rfl
  case u3 => decide
  case v1 => with_unfolding_all rfl
  case v2 => with_unfolding_all rfl
  case v3 => decide
  refine addCallers_K (hB := hB) (TB := TB) (c := c) (z := z) G W8.fr.keep hBT hAc hh hdp (big BK hBK) (big D3 big3) bB8 B8 W8.tb g7 (by omega) fun D9 h9 tk9 gs9 hD9 B9 kp9 tb9 g9 => ?_
  replace kp9 : Kp [TB] h8 h9 := kp9
  replace hD9 : h8.objs.size ≤ D9 := hD9
  have W9 := W8.tab hBT kp9 tb9
  have big9 : L + 4 < D9 := Nat.lt_of_lt_of_le W8.big hD9
  have V9 : LV n stem K EE ends h9 m8 := V8.move (fun b o hq e => kp9 b o (by intro q; rw [List.mem_singleton.mp q] at e; exact tb_noSeq W8.tb o e hq) e) fun _ _ => rfl
  with_unfolding_all refine wpAny_storeName_local ?r1 W9.fr.ns (fun h10 hn10 hs10 => wpAny_execs_nil ?_) ?r2
  case r1 => with_unfolding_all rfl
  case r2 => with_unfolding_all rfl
  replace hs10 : Heap.SameBut L h9 h10 := hs10
  replace hn10 : h10.Ns L (upd m8 "book" (.ref D9)) := hn10
  have nsq9 : ∀ b o, SeqO o → h9.get? b = some o → h10.get? b = some o := fun b o hq e => hs10.extBut b o (by rintro rfl; exact ns_noSeq W9.fr.ns o e hq) e
  refine h h10 _ gs9 (upd m8 "book" (.ref D9)) D9 (W9.set hs10 hn10) (V9.move nsq9 (upd_all (by decide))) (if_pos rfl) (B9.keeps (fun o e => hs10.extBut D9 o (neL D9 big9) e) nsq9) big9 g9 (fun b o hb e => ?_) fun b o hb e => Nat.lt_of_lt_of_le (Heap.lt_size (kp8 b o hb e)) hD9
  exact hs10.extBut b o (by intro q; exact hb (by simp [q])) (kp9 b o (by intro q; exact hb (by rw [List.mem_singleton.mp q]; simp)) (kp8 b o hb e))
end
end Mine

/-! part B23 -/
namespace Mine
open PySem PySem.Calls PyProof.Rows
set_option maxRecDepth 100000

theorem oneB_len (o : List Int) : (oneB o).length ≤ 2 := by unfold oneB; exact merge_len _ _
theorem bookL_snoc (os : List (List Int)) (o : List Int) : bookL (os ++ [o]) = merge (bookL os) (oneB o) := by simp [bookL, List.foldl_append]
theorem bookL_len : ∀ (os : List (List Int)) (acc : List (Int × Int × Int)), (os.foldl (fun bk o => merge bk (oneB o)) acc).length ≤ acc.length + 2 * os.length
  | [], acc => by simp
  | o :: os, acc => by
    rw [List.foldl_cons, List.length_cons]
    have h1 := bookL_len os (merge acc (oneB o))
    have h2 := merge_len acc (oneB o)
    have h3 := oneB_len o
    omega

section
variable {prog : Program} {w : World} {A : Around} {s : Shared} {mg mb : Str → Option Value}
variable {z : Array Value} {c TB : Addr} {hB : Heap} {L : Addr} {m : Str → Option Value} {cv : Nat → Option Value} {n d : Nat} {stem : Str} {K EE : Addr} {ends : Array Value} {B0 : Addr}

set_option maxHeartbeats 8000000 in
theorem law_loop {rest : List Stmt} {Q : Flow → Shared → Prop} {a aA : Addr} {cd : Value} (G : Gd mg mb hB) (hAc : AcAt mg hB aA c) (hBT : hB.get? TB = none) (hh : A.handled = none) (hdp : A.depth + 1 < recursionLimit)
    (W : LW z c TB hB L s.heap m cv) (V : LV n stem K EE ends s.heap m) (hn5 : n = 4 ∨ n = 5) (h1d : 1 ≤ d) (hdn : d < n) (m2 : ∃ t, cv 2 = some (.int d t)) (hE : EndsAre ends n) (hst : stem.length ≤ 4) (hs : Clean stem.cps.toList)
    (bk : m "book" = some (.ref B0)) (bB : Book prog w s.heap B0 []) (hB0 : L + 4 < B0) (hg : AllBare s.gens)
    (h : ∀ (h' : Heap) tk gs (m' : Str → Option Value) BK, LW z c TB hB L h' m' cv → LV n stem K EE ends h' m' → m' "book" = some (.ref BK) → Book prog w h' BK (bookL (ordD n d)) → L + 4 < BK → AllBare gs →
      wpAny (model prog w) A (execs rest (envC 15 L a cd)) Q NR { s with heap := h', toks := tk, gens := gs }) :
    wpAny (model prog w) A (execs (stL 9 :: rest) (envC 15 L a cd)) Q NR s := by
  have hsl : sizeLine = 2 ^ 24 := rfl
  obtain ⟨t1, m1⟩ := V.sz
  obtain ⟨t2, m2⟩ := m2
  obtain ⟨a14, o14, pm14, cd14, doc14, f1, f2, f3, f4⟩ := G.fn 14 (by simp)
  have hosl := (macmahon hn5 h1d hdn).2.2
  refine wpAny_execs_cons ?_
  with_unfolding_all refine for_gen (env := envC 15 L a cd) (A := A) (fnc2 (a := a14) (o := o14) (fd := docDef (nameAt 14) (paramsAt 14) (bodyAt 14) (scopeAt 14) pm14 cd14 doc14) ?he (globC (G.keeps W.fr.keep) f1 ⟨rfl, locC W.fr.ns m1 (cellC (k := 2) (cv := cv) (W.cell 2 (by decide) (by decide)) m2 ⟨⟨W.fr.keep _ _ f2, f3⟩, orders_K (G.keeps W.fr.keep) hh (Nat.lt_of_succ_lt hdp) (by omega) f1 fun D h1 tk1 ys lD nl k1 => ?_⟩ ?u1 ?u2 ?u3 ?u4) ?v1 ?v2 ?v3⟩ ?w1 ?w2 ?w3)) ?hfold
  case he => rfl
  case u1 => with_unfolding_all rfl
  case u2 => with_unfolding_all rfl
  case u3 => with_unfolding_all rfl
  case u4 => decide
  case v1 => with_unfolding_all rfl
  case v2 => with_unfolding_all rfl
  case v3 => decide
  case w1 => with_unfolding_all rfl
  case w2 => with_unfolding_all rfl
  case w3 => decide
  case hfold => exact fun _ => rfl
  replace k1 : Ext s.heap h1 := k1
  replace nl : NL 0 h1 ys (ordD n d) := nl
  have W1 := W.ext k1
  have V1 := V.move (h' := h1) (m' := m) (fun b o _ e => k1 b o e) fun _ _ => rfl
  have bB1 : Book prog w h1 B0 [] := bB.keeps (fun o e => k1 _ o e) fun b o _ e => k1 b o e
  have hDL : D ≠ L := seq_ne lD (ns_noSeq W1.fr.ns)
  have hDT : D ≠ TB := seq_ne lD (tb_noSeq W1.tb)
  have hLz : L + 4 < h1.objs.size := W1.big
  have each : ∀ o ∈ ordD n d, o.length = n := fun o ho => ordL_each n o (List.mem_filter.mp ho).1
  generalize ordD n d = os at *
  refine over_list (s := { s with heap := h1, toks := tk1 }) (fun i s' => ∃ h tk gs m' BK, s' = { s with heap := h, toks := tk, gens := gs } ∧ LW z c TB hB L h m' cv ∧ LV n stem K EE ends h m' ∧ m' "book" = some (.ref BK) ∧ Book prog w h BK (bookL (os.take i)) ∧ L + 4 < BK ∧ AllBare gs ∧ Kp [L, TB] h1 h ∧ BK ≠ h1.objs.size) hh lD ?_ ?_ ?_
  · intro o
    exact ⟨_, tk1, s.gens, m, B0, rfl, W1.ext fun b o e => Heap.get?_push_of_some _ e, V1.move (fun b o _ e => Heap.get?_push_of_some _ e) fun _ _ => rfl, bk, bB1.keeps (fun o e => Heap.get?_push_of_some _ e) fun b o _ e => Heap.get?_push_of_some _ e, hB0, hg, fun b o _ e => Heap.get?_push_of_some _ e, Nat.ne_of_lt (let ⟨_, ⟨_, _, _, ho, _⟩, _⟩ := bB1; Heap.lt_size ho)⟩
  · rintro i v s0 s1 hv hno hlD ⟨oI, hoI⟩ ⟨hx, tkx, gsx, mx, BK, rfl, Wx, Vx, bkx, bBx, bigx, gx, kpx, nBK⟩ ⟨hy, tky, rfl, hk⟩
    replace hk : ∀ b o, b ∉ [h1.objs.size] → hx.get? b = some o → hy.get? b = some o := hk
    replace hno : ∀ o, hx.get? h1.objs.size = some o → ¬ SeqO o := hno
    replace hlD : hy.IsList D ys := hlD
    have hiy : i < os.length := by
      rw [← nl.1]
      rcases Nat.lt_or_ge i ys.size with q | q
      · exact q
      · rw [Array.getElem?_eq_none q] at hv; cases hv
    obtain ⟨OA, oits, -, hvO, ⟨nO, pO⟩, iO⟩ := nl.2 i os[i] (by simp [hiy])
    obtain rfl : v = .ref OA := Option.some.inj (hv.symm.trans hvO)
    have hol : (os[i]).length = n := each _ (List.getElem_mem hiy)
    have htk : os.take (i + 1) = os.take i ++ [os[i]] := take_snoc (by simp [hiy])
    rw [htk, bookL_snoc]
    generalize os[i] = o at iO hol
    have Wy := Wx.off hk hLz
    have nsI : ∀ b o, SeqO o → hx.get? b = some o → hy.get? b = some o := fun b o hq e => hk b o (by intro q; rw [List.mem_singleton.mp q] at e; exact hno o e hq) e
    have Vy := Vx.move (h' := hy) (m' := mx) nsI fun _ _ => rfl
    have bBy : Book prog w hy BK (bookL (os.take i)) := bBx.keeps (fun o e => hk BK o (by simpa using nBK) e) nsI
    have kpy : Kp [L, TB] h1 hy := fun b o hb e => hk b o (by simpa using Nat.ne_of_lt (Heap.lt_size e)) (kpx b o hb e)
    have hlen : (bookL (os.take i)).length ≤ 900 := by
      have h1 := bookL_len (os.take i) []
      have h2 : (os.take i).length ≤ 100 := by rw [List.length_take]; omega
      unfold bookL
      simp only [List.length_nil] at h1
      omega
    generalize bookL (os.take i) = l at *
    -- order
    with_unfolding_all refine wpAny_storeName_local ?r1 Wy.fr.ns (fun h2 hn2 hs2 => ?_) ?r2
    case r1 => with_unfolding_all rfl
    case r2 => with_unfolding_all rfl
    replace hs2 : Heap.SameBut L hy h2 := hs2
    replace hn2 : h2.Ns L (upd mx "order" (.ref OA)) := hn2
    have nsq : ∀ b o, SeqO o → hy.get? b = some o → h2.get? b = some o := fun b o hq e => hs2.extBut b o (by rintro rfl; exact ns_noSeq Wy.fr.ns o e hq) e
    have W2 := Wy.set hs2 hn2
    have V2 : LV n stem K EE ends h2 (upd mx "order" (.ref OA)) := Vy.move nsq (upd_all (by decide))
    have bB2 : Book prog w h2 BK l := bBy.keeps (fun o e => hs2.extBut BK o (Nat.ne_of_gt (Nat.lt_of_le_of_lt (Nat.le_add_right _ _) bigx)) e) nsq
    have pO1 : h1.IsList OA oits := ⟨_, pO, rfl, _, rfl⟩
    have hOA : OA ∉ [L, TB] := by simp only [List.mem_cons, List.not_mem_nil, or_false, not_or]; exact ⟨seq_ne pO1 (ns_noSeq W1.fr.ns), seq_ne pO1 (tb_noSeq W1.tb)⟩
    have hO2 : h2.IsList OA oits := let ⟨o, e, r⟩ := pO1; ⟨o, nsq _ _ (by obtain ⟨_, nn, hd⟩ := r; simp [SeqO, hd]) (kpy _ _ hOA e), r⟩
    have hItL : (h1.objs.size : Addr) ∉ [L, TB] := by
      simp only [List.mem_cons, List.not_mem_nil, or_false, not_or]
      exact ⟨Nat.ne_of_gt (Nat.lt_of_le_of_lt (Nat.le_add_right _ _) hLz), Nat.ne_of_gt (Nat.lt_trans W1.ltT (Nat.lt_of_le_of_lt (Nat.le_add_right _ _) hLz))⟩
    have hI2 : h2.get? h1.objs.size = some oI := hs2.extBut _ oI (by intro q; exact hItL (by simp [q])) hoI
    refine anyTok (s := { s with gens := gsx }) (h := h2) fun tk => ?_
    with_unfolding_all refine order_turn (s := { s with heap := h2, toks := tk, gens := gsx }) (OA := OA) (oits := oits) (o := o) (BK := BK) (l := l) G hAc hBT hh hdp W2 V2 hn5 ?o1 hO2 iO hol hE hst hs ?o2 bB2 bigx hlen gx ?o3
    case o1 => exact if_pos rfl
    case o2 => exact (if_neg (by decide)).trans bkx
    case o3 =>
      intro h3 tk3 gs3 m3 BK3 W3 V3 bk3 bB3 big3 g3 kp3 lt3
      replace kp3 : Kp [L, TB] h2 h3 := kp3
      replace lt3 : ∀ b o, b ∉ [L, TB] → h2.get? b = some o → b < BK3 := lt3
      refine ⟨⟨h3, tk3, gs3, m3, BK3, rfl, W3, V3, bk3, bB3, big3, g3, fun b o hb e => kp3 b o hb (hs2.extBut b o (by intro q; exact hb (by simp [q])) (kpy b o hb e)), Nat.ne_of_gt (lt3 _ _ hItL hI2)⟩, ?_⟩
      rintro b (rfl | rfl) o' ho'
      · exact kp3 _ _ hItL (hs2.extBut _ o' (by intro q; exact hItL (by simp [q])) ho')
      · exact kp3 _ _ (by simp [hDL, hDT]) (hs2.extBut _ o' hDL ho')
  · rintro s0 s1 hno ⟨hx, tkx, gsx, mx, BK, rfl, Wx, Vx, bkx, bBx, bigx, gx, kpx, nBK⟩ ⟨hy, tky, rfl, hk⟩
    replace hk : ∀ b o, b ∉ [h1.objs.size] → hx.get? b = some o → hy.get? b = some o := hk
    replace hno : ∀ o, hx.get? h1.objs.size = some o → ¬ SeqO o := hno
    have nsI : ∀ b o, SeqO o → hx.get? b = some o → hy.get? b = some o := fun b o hq e => hk b o (by intro q; rw [List.mem_singleton.mp q] at e; exact hno o e hq) e
    rw [nl.1, List.take_length] at bBx
    exact h hy tky gsx mx BK (Wx.off hk hLz) (Vx.move nsI fun _ _ => rfl) bkx (bBx.keeps (fun o e => hk BK o (by simpa using nBK) e) nsI) bigx gx
end
end Mine

/-! part B24 -/
namespace Mine
open PySem PySem.Calls PyProof.Rows
set_option maxRecDepth 100000

/-- a list of pairs of ints -/
def PL (h : Heap) (ys : Array Value) (l : List (Int × Int)) : Prop := ys.size = l.length ∧ ∀ (i : Nat) (p q : Int), l[i]? = some (p, q) → ∃ v, ys[i]? = some v ∧ PV h v p q
theorem PL.keeps {h h' : Heap} {ys l} (x : PL h ys l) (k : ∀ b o, SeqO o → h.get? b = some o → h'.get? b = some o) : PL h' ys l :=
  ⟨x.1, fun i p q e => let ⟨v, a, b⟩ := x.2 i p q e; ⟨v, a, b.keeps k⟩⟩

section
variable {prog : Program} {w : World} {A : Around} {s : Shared} {mg mb : Str → Option Value}
variable {z : Array Value} {c TB : Addr} {hB : Heap} {L : Addr} {m : Str → Option Value} {cv : Nat → Option Value} {n d : Nat}

set_option maxHeartbeats 8000000 in
theorem law_g1 {rest : List Stmt} {Q : Flow → Shared → Prop} {a : Addr} {cd : Value} (G : Gd mg mb hB) (hh : A.handled = none) (hdp : A.depth < recursionLimit) (W : LW z c TB hB L s.heap m cv) (hn5 : n = 4 ∨ n = 5) (h1d : 1 ≤ d) (hdn : d < n)
    (m1 : ∃ t, m "size" = some (.int n t)) (m2 : ∃ t, cv 2 = some (.int d t))
    (h : ∀ (h' : Heap) tk D items, LW z c TB hB L h' m (fun j => if j = 3 then some (.ref D) else cv j) → h'.IsList D items → Ints items (gauss d (n - d - 1)) → (∀ b o, b ≠ L + 3 → s.heap.get? b = some o → h'.get? b = some o) →
      wpAny (model prog w) A (execs rest (envC 15 L a cd)) Q NR { s with heap := h', toks := tk }) :
    wpAny (model prog w) A (execs (stL 10 :: rest) (envC 15 L a cd)) Q NR s := by
  obtain ⟨t1, m1⟩ := m1
  obtain ⟨t2, m2⟩ := m2
  obtain ⟨a13, o13, pm13, cd13, doc13, f1, f2, f3, f4⟩ := G.fn 13 (by simp)
  have GW := G.keeps W.fr.keep
  have c2 := W.cell 2 (by decide) (by decide)
  have e1 : (n : Int) - (d : Int) = ((n - d : Nat) : Int) := by omega
  have e2 : ((n - d : Nat) : Int) - 1 = ((n - d - 1 : Nat) : Int) := by omega
  refine wpAny_execs_cons ?_
  with_unfolding_all refine wpAny_Assign_Name (hs := ?hsw) (fnc2 (a := a13) (o := o13) (fd := docDef (nameAt 13) (paramsAt 13) (bodyAt 13) (scopeAt 13) pm13 cd13 doc13) ?he (globC GW f1 ⟨rfl, cellC (k := 2) (cv := cv) c2 m2 (wpAny_BinOp (wpAny_BinOp (locC W.fr.ns m1 (cellC (k := 2) (cv := cv) c2 m2 (sub_eq e1 (wpAny_Constant_int (sub_eq e2 ⟨⟨W.fr.keep _ _ f2, f3⟩, ?_⟩))) ?x1 ?x2 ?x3 ?x4) ?y1 ?y2 ?y3))) ?u1 ?u2 ?u3 ?u4⟩ ?w1 ?w2 ?w3))
  case hsw => with_unfolding_all rfl
  case he => rfl
  case u1 => with_unfolding_all rfl
  case u2 => with_unfolding_all rfl
  case u3 => with_unfolding_all rfl
  case u4 => decide
  case x1 => with_unfolding_all rfl
  case x2 => with_unfolding_all rfl
  case x3 => with_unfolding_all rfl
  case x4 => decide
  case y1 => with_unfolding_all rfl
  case y2 => with_unfolding_all rfl
  case y3 => decide
  case w1 => with_unfolding_all rfl
  case w2 => with_unfolding_all rfl
  case w3 => decide
  refine anyTok (s := s) (h := s.heap) fun tk => ?_
  refine gauss_K (s := { s with heap := s.heap, toks := tk }) GW hh hdp (by omega) (by omega) f1 fun D h1 tk1 hl k1 => ?_
  obtain ⟨items, lD, iD⟩ := hl
  replace k1 : Ext s.heap h1 := k1
  have W1 := W.ext k1
  with_unfolding_all refine putC (k := 3) (W1.cell 3 (by decide) (by decide)) (fun h2 c3 s3 => ?_) ?p1 ?p2 ?p3
  case p1 => with_unfolding_all rfl
  case p2 => with_unfolding_all rfl
  case p3 => with_unfolding_all rfl
  replace s3 : Heap.SameBut (L + 3) h1 h2 := s3
  have hne : D ≠ L + 3 := seq_ne lD fun o ho => by obtain ⟨o', ho', hd'⟩ := W1.cell 3 (by decide) (by decide); rw [ho] at ho'; cases ho'; simp [SeqO, hd']
  exact h h2 _ D items (W1.put (by decide) s3 c3) (lD.at fun o e => s3.extBut D o hne e) iD fun b o hb e => s3.extBut b o hb (k1 b o e)

set_option maxHeartbeats 8000000 in
theorem law_g2 {rest : List Stmt} {Q : Flow → Shared → Prop} {a : Addr} {cd : Value} (G : Gd mg mb hB) (hh : A.handled = none) (hdp : A.depth < recursionLimit) (W : LW z c TB hB L s.heap m cv) (hn5 : n = 4 ∨ n = 5) (h1d : 1 ≤ d) (hdn : d < n)
    (m1 : ∃ t, m "size" = some (.int n t)) (m2 : ∃ t, cv 2 = some (.int d t))
    (h : ∀ (h' : Heap) tk D items, LW z c TB hB L h' m (fun j => if j = 4 then some (.ref D) else cv j) → h'.IsList D items → Ints items (gauss (d - 1) (n - d)) → (∀ b o, b ≠ L + 4 → s.heap.get? b = some o → h'.get? b = some o) →
      wpAny (model prog w) A (execs rest (envC 15 L a cd)) Q NR { s with heap := h', toks := tk }) :
    wpAny (model prog w) A (execs (stL 11 :: rest) (envC 15 L a cd)) Q NR s := by
  obtain ⟨t1, m1⟩ := m1
  obtain ⟨t2, m2⟩ := m2
  obtain ⟨a13, o13, pm13, cd13, doc13, f1, f2, f3, f4⟩ := G.fn 13 (by simp)
  have GW := G.keeps W.fr.keep
  have c2 := W.cell 2 (by decide) (by decide)
  have e1 : (d : Int) - 1 = ((d - 1 : Nat) : Int) := by omega
  have e2 : (n : Int) - (d : Int) = ((n - d : Nat) : Int) := by omega
  refine wpAny_execs_cons ?_
  with_unfolding_all refine wpAny_Assign_Name (hs := ?hsw) (fnc2 (a := a13) (o := o13) (fd := docDef (nameAt 13) (paramsAt 13) (bodyAt 13) (scopeAt 13) pm13 cd13 doc13) ?he (globC GW f1 ⟨rfl, wpAny_BinOp (cellC (k := 2) (cv := cv) c2 m2 (wpAny_Constant_int (sub_eq e1 (wpAny_BinOp (locC W.fr.ns m1 (cellC (k := 2) (cv := cv) c2 m2 (sub_eq e2 ⟨⟨W.fr.keep _ _ f2, f3⟩, ?_⟩) ?x1 ?x2 ?x3 ?x4) ?y1 ?y2 ?y3)))) ?u1 ?u2 ?u3 ?u4)⟩ ?w1 ?w2 ?w3))
  case hsw => with_unfolding_all rfl
  case he => rfl
  case u1 => with_unfolding_all rfl
  case u2 => with_unfolding_all rfl
  case u3 => with_unfolding_all rfl
  case u4 => decide
  case x1 => with_unfolding_all rfl
  case x2 => with_unfolding_all rfl
  case x3 => with_unfolding_all rfl
  case x4 => decide
  case y1 => with_unfolding_all rfl
  case y2 => with_unfolding_all rfl
  case y3 => decide
  case w1 => with_unfolding_all rfl
  case w2 => with_unfolding_all rfl
  case w3 => decide
  refine anyTok (s := s) (h := s.heap) fun tk => ?_
  refine gauss_K (s := { s with heap := s.heap, toks := tk }) GW hh hdp (by omega) (by omega) f1 fun D h1 tk1 hl k1 => ?_
  obtain ⟨items, lD, iD⟩ := hl
  replace k1 : Ext s.heap h1 := k1
  have W1 := W.ext k1
  with_unfolding_all refine putC (k := 4) (W1.cell 4 (by decide) (by decide)) (fun h2 c3 s3 => ?_) ?p1 ?p2 ?p3
  case p1 => with_unfolding_all rfl
  case p2 => with_unfolding_all rfl
  case p3 => with_unfolding_all rfl
  replace s3 : Heap.SameBut (L + 4) h1 h2 := s3
  have hne : D ≠ L + 4 := seq_ne lD fun o ho => by obtain ⟨o', ho', hd'⟩ := W1.cell 4 (by decide) (by decide); rw [ho] at ho'; cases ho'; simp [SeqO, hd']
  exact h h2 _ D items (W1.put (by decide) s3 c3) (lD.at fun o e => s3.extBut D o hne e) iD fun b o hb e => s3.extBut b o hb (k1 b o e)
end
end Mine

/-! part B25 -/
namespace Mine
open PySem PySem.Calls PyProof.Rows
set_option maxRecDepth 100000

section
variable {prog : Program} {w : World} {A : Around} {s : Shared} {mg mb : Str → Option Value}
variable {z : Array Value} {c TB : Addr} {hB : Heap} {L : Addr} {m : Str → Option Value} {cv : Nat → Option Value} {n d : Nat}

theorem add_eq' {E : Value → Shared → Prop} {x y r : Int} {t u : Tok} {Q : Value → Shared → Prop} (e : x + y = r) (h : Q (.int r s.toks) { s with toks := s.toks + 1 }) : wpAny (model prog w) A (binaryOp .Add (.int x t) (.int y u)) Q E s := P.add_int (by rw [e]; exact h)
theorem mul_eq {E : Value → Shared → Prop} {x y r : Int} {t u : Tok} {Q : Value → Shared → Prop} (h0 : 0 ≤ x) (h1 : x ≤ 1000) (e : x * y = r) (h : Q (.int r s.toks) { s with toks := s.toks + 1 }) : wpAny (model prog w) A (binaryOp .Mult (.int x t) (.int y u)) Q E s :=
  mul_small h0 h1 (by rw [e]; exact h)

/-- what a comprehension of pairs leaves -/
theorem pl_of {h : Heap} {ys : Array Value} {B : Addr} {g : List Int} {f : Nat → Int} (hsz : ys.size = g.length) (hR : ∀ i y, ys[i]? = some y → ∃ T t u, y = Value.ref T ∧ B ≤ T ∧ h.get? T = some { cls := .type "tuple", data := .seq #[.int (f i) t, .int (g.getD i 0) u] }) :
    PL h ys ((List.range g.length).map fun (k : Nat) => (f k, g.getD k 0)) := by
  refine ⟨by simp [hsz], fun i p q e => ?_⟩
  rw [List.getElem?_map] at e
  cases hr : (List.range g.length)[i]? with
  | none => rw [hr] at e; cases e
  | some k =>
    obtain ⟨hlt, hk⟩ := List.getElem?_eq_some_iff.mp hr
    rw [List.getElem_range] at hk
    subst hk
    rw [List.length_range] at hlt
    rw [hr] at e
    have e' : (f i, g.getD i 0) = (p, q) := Option.some.inj e
    injection e' with e1 e2
    subst e1 e2
    have hlt' : i < ys.size := by rw [hsz]; exact hlt
    obtain ⟨T, t, u, hy, -, hT⟩ := hR i ys[i] (by simp [hlt'])
    exact ⟨ys[i], by simp [hlt'], T, t, u, hy, hT⟩

set_option maxHeartbeats 8000000 in
theorem law_due {rest : List Stmt} {Q : Flow → Shared → Prop} {a : Addr} {cd : Value} {D1 : Addr} {it1 : Array Value} {g : List Int} (G : Gd mg mb hB) (hh : A.handled = none) (W : LW z c TB hB L s.heap m cv)
    (m2 : ∃ t, cv 2 = some (.int d t)) (m3 : cv 3 = some (.ref D1)) (l1 : s.heap.IsList D1 it1) (i1 : Ints it1 g) (hg : g.length ≤ 100)
    (h : ∀ (h' : Heap) tk DU ys, LW z c TB hB L h' (upd m "due" (.ref DU)) cv → h'.PlainList DU ys → PL h' ys (due1 d g) → L + 4 < DU → Kp [L] s.heap h' → (∀ b o, s.heap.get? b = some o → b < DU) →
      wpAny (model prog w) A (execs rest (envC 15 L a cd)) Q NR { s with heap := h', toks := tk }) :
    wpAny (model prog w) A (execs (stL 12 :: rest) (envC 15 L a cd)) Q NR s := by
  have hsl : sizeLine = 2 ^ 24 := rfl
  obtain ⟨t2, m2⟩ := m2
  have GW := G.keeps W.fr.keep
  have hz1 : it1.size = g.length := i1.1
  refine wpAny_execs_cons ?_
  with_unfolding_all refine comp_used (cl := [("ends_plain", L + 3), ("dotted", L + 2)]) ?hsw ?hclos ?hcell ?hkind ?hnames ?hmain ?hfold
  case hsw => with_unfolding_all rfl
  case hclos => with_unfolding_all rfl
  case hcell => decide
  case hkind => rfl
  case hnames => decide
  case hfold => exact fun _ => rfl
  with_unfolding_all refine typ1 (T := "range") ?he (bltC GW (by simp) rfl ⟨rfl, fun1 (id := "len") ?he2 (bltC GW (by simp) rfl ⟨rfl, cellC (k := 3) (cv := cv) (W.cell 3 (by decide) (by decide)) m3 (call_len_list l1 ?b1 (rng1 ?b2 ?b3 fun h1 tk1 k1 hz1 hI1 => ?_)) ?x1 ?x2 ?x3 ?x4⟩ ?y1 ?y2 ?y3)⟩ ?h4 ?h5 ?h6)
  case he => rfl
  case he2 => rfl
  case b1 => show ((it1.size : Nat) : Int) < 2 ^ 63; omega
  case b2 => show -(2 ^ 62) ≤ ((it1.size : Nat) : Int); omega
  case b3 => show ((it1.size : Nat) : Int) < 2 ^ 62; omega
  case x1 => with_unfolding_all rfl
  case x2 => with_unfolding_all rfl
  case x3 => with_unfolding_all rfl
  case x4 => decide
  case y1 => with_unfolding_all rfl
  case y2 => with_unfolding_all rfl
  case y3 => decide
  case h4 => with_unfolding_all rfl
  case h5 => with_unfolding_all rfl
  case h6 => decide
  replace k1 : Ext s.heap h1 := k1
  replace hz1 : h1.objs.size = s.heap.objs.size + 2 := hz1
  replace hI1 : IsRangeIter h1 (s.heap.objs.size + 1) (0 + ((0 : Nat) : Int) * 1) (((((it1.size : Nat) : Int)).toNat : Int) - ((0 : Nat) : Int)) 1 := hI1
  rw [Int.toNat_natCast] at hI1
  have W1 := W.ext k1
  refine comp_core (I := s.heap.objs.size + 1) (fun h' i y => ∃ T t u, y = .ref T ∧ h1.objs.size + 2 ≤ T ∧ h'.get? T = some { cls := .type "tuple", data := .seq #[.int (2 * ((i : Int) + d)) t, .int (g.getD i 0) u] }) (Walks.range hh (s.heap.objs.size + 1) 0 1 it1.size) hI1 ?_ ?_ ?_ ?_ rfl (fun _ => by with_unfolding_all rfl) (by omega)
  · intro b hb
    show b < h1.objs.size
    rw [List.mem_singleton.mp hb, hz1]; exact Nat.lt_succ_self _
  · rintro i h2 h3 y ⟨T, t, u, hy, hT, e⟩ k
    exact ⟨T, t, u, hy, hT, k T _ hT e⟩
  · rintro C i v h2 tk2 m2' hi ⟨tv, rfl⟩ hns hmx hkp hsz2
    replace hkp : Kp [s.heap.objs.size + 1] h1 h2 := hkp
    replace hsz2 : h1.objs.size + 2 ≤ h2.objs.size := hsz2
    have kB : Ext s.heap h2 := fun b o e => hkp b o (by simpa using Nat.ne_of_lt (Nat.lt_succ_of_lt (Heap.lt_size e))) (k1 b o e)
    have W2 := W.ext kB
    have l2 : h2.IsList D1 it1 := l1.at fun o e => kB _ o e
    have hlt : i < g.length := i1.1 ▸ hi
    obtain ⟨tg, hgi⟩ := i1.get hlt
    have c2 : h2.IsCell (L + 2) (some (.int d t2)) := m2 ▸ W2.cell 2 (by decide) (by decide)
    have c3 : h2.IsCell (L + 3) (some (.ref D1)) := m3 ▸ W2.cell 3 (by decide) (by decide)
    have e1 : (0 + (i : Int) * 1) + (d : Int) = (i : Int) + d := by omega
    refine Tuple_ (args_cons (wpAny_BinOp (wpAny_Constant_int (wpAny_BinOp (wpAny_Name (wpAny_loadName_local rfl (by with_unfolding_all rfl) hns hmx ?_) (by decide))))))
    refine wpAny_Name (wpAny_loadName_cell rfl (by with_unfolding_all rfl) (by with_unfolding_all rfl) c2 (add_eq' e1 (mul_small (by omega) (by omega) ?_))) (by decide)
    refine args_cons (Subscript_ (wpAny_Name (wpAny_loadName_cell rfl (by with_unfolding_all rfl) (by with_unfolding_all rfl) c3 ?_) (by decide)))
    refine wpAny_Name (wpAny_loadName_local rfl (by with_unfolding_all rfl) hns hmx (item_list (x := .int (g.getD i 0) tg) l2 (by omega) (by omega) (by rw [show (0 + (i : Int) * 1).toNat = i by omega]; exact hgi) (args_nil (wpAny_newTuple ?_)))) (by decide)
    exact ⟨_, _, rfl, fun b o e => Heap.get?_push_of_some _ e, h2.objs.size, _, tg, rfl, hsz2, Heap.get?_push_size _ rfl⟩
  · rintro D C h3 tk3 m3' ys hD hC hns hli hsz3 hR hkp
    replace hD : D = h1.objs.size := hD
    replace hC : C = h1.objs.size + 1 := hC
    replace hkp : Kp [s.heap.objs.size + 1] h1 h3 := hkp
    have k13 : Ext s.heap h3 := fun b o e => hkp b o (by simpa using Nat.ne_of_lt (Nat.lt_succ_of_lt (Heap.lt_size e))) (k1 b o e)
    have W3 := W.ext k13
    have P3 : PL h3 ys (due1 d g) := pl_of (hsz3.trans i1.1) hR
    with_unfolding_all refine wpAny_storeName_local ?r1 W3.fr.ns (fun h5 hn5 hs5 => ?_) ?r2
    case r1 => with_unfolding_all rfl
    case r2 => with_unfolding_all rfl
    replace hs5 : Heap.SameBut L h3 h5 := hs5
    replace hn5 : h5.Ns L (upd m "due" (.ref D)) := hn5
    have hL : L < s.heap.objs.size := W.fr.ns.lt
    have hCL : C ≠ L := by rw [hC, hz1]; exact Nat.ne_of_gt (Nat.lt_of_lt_of_le hL (Nat.le_trans (Nat.le_add_right _ 2) (Nat.le_succ _)))
    have hDL : D ≠ L := by rw [hD, hz1]; exact Nat.ne_of_gt (Nat.lt_of_lt_of_le hL (Nat.le_add_right _ 2))
    refine ⟨m3', hns.sameBut hs5 hCL, fun h6 hs6 => ?_⟩
    replace hs6 : Heap.SameBut C h5 h6 := hs6
    have k56 : ∀ b o, b ≠ C → h5.get? b = some o → h6.get? b = some o := fun b o hb e => hs6.extBut b o hb e
    have cOld : ∀ b o, s.heap.get? b = some o → b ≠ C := fun b o e => by rw [hC, hz1]; exact Nat.ne_of_lt (Nat.lt_of_lt_of_le (Heap.lt_size e) (Nat.le_trans (Nat.le_add_right _ 2) (Nat.le_succ _)))
    have W5 := W3.set hs5 hn5
    have hbig : L + 4 < C := by rw [hC, hz1]; exact Nat.lt_of_lt_of_le W.big (Nat.le_trans (Nat.le_add_right _ 2) (Nat.le_succ _))
    have W6 := W5.off (h' := h6) (I := C) (fun b o hb e => k56 b o (by simpa using hb) e) hbig
    have nsC : ∀ b o, SeqO o → h3.get? b = some o → h6.get? b = some o := fun b o hq e => by
      have e5 := hs5.extBut b o (by rintro rfl; exact ns_noSeq W3.fr.ns o e hq) e
      exact k56 b o (by rintro rfl; exact ns_noSeq (hns.sameBut hs5 hCL) o e5 hq) e5
    refine h h6 _ D ys W6 (hli.at fun o e => k56 D o (by rw [hD, hC]; exact Nat.ne_of_lt (Nat.lt_succ_self _)) (hs5.extBut D o hDL e)) (P3.keeps nsC) (by rw [hD, hz1]; exact Nat.lt_of_lt_of_le W.big (Nat.le_add_right _ 2)) (fun b o hb e => k56 b o (cOld b o e) (hs5.extBut b o (by simpa using hb) (k13 b o e))) fun b o e => by rw [hD, hz1]; exact Nat.lt_of_lt_of_le (Heap.lt_size e) (Nat.le_add_right _ 2)
end
end Mine

/-! part B26 -/
namespace Mine
open PySem PySem.Calls PyProof.Rows
set_option maxRecDepth 100000

theorem PL.keepsT {h h' : Heap} {ys l} (x : PL h ys l) (k : ∀ b o, o.cls = .type "tuple" → h.get? b = some o → h'.get? b = some o) : PL h' ys l :=
  ⟨x.1, fun i p q e => let ⟨v, a, T, t, u, e1, e2⟩ := x.2 i p q e; ⟨v, a, T, t, u, e1, k T _ rfl e2⟩⟩
theorem PL.append {h : Heap} {ys zs : Array Value} {l k : List (Int × Int)} (x : PL h ys l) (y : PL h zs k) : PL h (ys ++ zs) (l ++ k) := by
  refine ⟨by simp [x.1, y.1], fun i p q e => ?_⟩
  rw [List.getElem?_append] at e
  rw [Array.getElem?_append]
  split at e
  · rename_i hlt
    rw [if_pos (by rw [x.1]; exact hlt)]
    exact x.2 i p q e
  · rename_i hlt
    rw [if_neg (by rw [x.1]; exact hlt), x.1]
    exact y.2 _ p q e

section
variable {prog : Program} {w : World} {A : Around} {s : Shared} {mg mb : Str → Option Value}
variable {z : Array Value} {c TB : Addr} {hB : Heap} {L : Addr} {m : Str → Option Value} {cv : Nat → Option Value} {n d : Nat}

theorem methL1 {E : Value → Shared → Prop} {env : Env} {o e1 : Expr} {name : Str} {id : String} {apos pos : Pos} {Q : Value → Shared → Prop} (slot : Slot "list" name id) (hty : typeOf (.builtin id) = pure (.type "method_descriptor"))
    (hbase : attributeBase o name env (eval o env) = eval o env) (hline : (apos.endLine == pos.line) = true)
    (he1 : starEach [e1] env = [(false, eval e1 env)])
    (h : wpAny (model prog w) A (eval o env) (fun ov s₁ => ∃ D, ov = .ref D ∧ (∃ ob, s₁.heap.get? D = some ob ∧ ob.cls = .type "list" ∧ ob.dict = none) ∧ wpAny (model prog w) A (eval e1 env) (fun v1 s₂ => wpAny (model prog w) A (call (.builtin id) [.ref D, v1]) Q E s₂) E s₁) E s) :
    wpAny (model prog w) A (eval (.Call (.Attribute o name apos) [e1] [] pos) env) Q E s := by
  refine wpAny_Call_method (T := "list") (id := id) hbase ?_ hline PySem.F.plainAttrs_list slot hty (wpAny_mono h (fun ov s₁ h₁ => ?_) fun _ _ x => x)
  · rw [he1]; rfl
  obtain ⟨D, rfl, ⟨ob, k1, k2, k3⟩, h₁⟩ := h₁
  refine ⟨⟨ob, k1, k2⟩, fun a e => by cases e; exact ⟨ob, k1, k3⟩, ?_⟩
  rw [he1]
  show wpAny _ _ (callWith pos _ _ [(false, eval e1 env)] []) _ _ _
  refine callWith_builtin rfl (evalArgs_plain (spliced_cons (wpAny_mono h₁ (fun v1 s₂ h₂ => spliced_nil ?_) fun _ _ x => x)))
  exact h₂

theorem extend_plain {E : Value → Shared → Prop} {D b : Addr} {ys zs : Array Value} {Q : Value → Shared → Prop} (hD : s.heap.PlainList D ys) (hb : s.heap.PlainList b zs) (hsz : ys.size + zs.size ≤ 1000)
    (h : ∀ h', h'.IsList D (ys ++ zs) → Heap.SameBut D s.heap h' → Q .none { s with heap := h' }) : wpAny (model prog w) A (call (.builtin "list.extend") [.ref D, .ref b]) Q E s := by
  have hsl : sizeLine = 2 ^ 24 := rfl
  obtain ⟨n, hD⟩ := hD
  obtain ⟨n2, hb⟩ := hb
  refine call_meets PySem.F.slot_list_extend ⟨_, hD, rfl⟩ PySem.F.entry_list_extend (PySem.F.args_list_extend_2 _ _) (AutoSeq1.list_extend_list_list_0 D ys n b zs n2 (extend_door (by omega)) (by omega) (by omega)) ⟨hD, hb, ?_⟩
  have ho' : (s.heap.update D (Obj.mapSeq fun x => x ++ zs)).get? D = some { cls := .type "list", data := .seq (ys ++ zs) (if (ys ++ zs).size == ys.size then n else n + 1) } := by
    rw [Heap.get?_update_self _ hD (by rw [mapSeq_app]; rfl), mapSeq_app]
  exact h _ ⟨_, ho', rfl, _, rfl⟩ (Heap.SameBut.update ..)

set_option maxHeartbeats 8000000 in
theorem law_extend {rest : List Stmt} {Q : Flow → Shared → Prop} {a : Addr} {cd : Value} {D2 DU : Addr} {it2 ys : Array Value} {l : List (Int × Int)} {g : List Int} (G : Gd mg mb hB) (hh : A.handled = none) (W : LW z c TB hB L s.heap m cv)
    (m4 : cv 4 = some (.ref D2)) (l1 : s.heap.IsList D2 it2) (i1 : Ints it2 g) (hg : g.length ≤ 100) (md : m "due" = some (.ref DU)) (lU : s.heap.PlainList DU ys) (pU : PL s.heap ys l) (hl : l.length ≤ 100) (hbU : L + 4 < DU)
    (h : ∀ (h' : Heap) tk ys', LW z c TB hB L h' m cv → h'.IsList DU ys' → PL h' ys' (l ++ due2 g) → (∀ b o, b ≠ DU → s.heap.get? b = some o → h'.get? b = some o) →
      wpAny (model prog w) A (execs rest (envC 15 L a cd)) Q NR { s with heap := h', toks := tk }) :
    wpAny (model prog w) A (execs (stL 13 :: rest) (envC 15 L a cd)) Q NR s := by
  have hsl : sizeLine = 2 ^ 24 := rfl
  have GW := G.keeps W.fr.keep
  have hz1 : it2.size = g.length := i1.1
  refine wpAny_execs_cons ?_
  with_unfolding_all refine wpAny_Expr (hi := ?hi) (hs := ?hsw) (methL1 (name := "extend") (id := "list.extend") PySem.F.slot_list_extend PySem.F.type_list_extend ?hb ?hl ?he0 (locC W.fr.ns md ⟨DU, rfl, ?hob, comp_plain (cl := [("ends_dotted", L + 4)]) ?hclos ?hcell ?hkind ?hnames ?hmain ?hfold⟩ ?q1 ?q2 ?q3))
  case hi => with_unfolding_all rfl
  case hsw => with_unfolding_all rfl
  case hb => with_unfolding_all rfl
  case hl => rfl
  case he0 => rfl
  case hob => obtain ⟨nn, e⟩ := lU; exact ⟨_, e, rfl, rfl⟩
  case q1 => with_unfolding_all rfl
  case q2 => with_unfolding_all rfl
  case q3 => decide
  case hclos => with_unfolding_all rfl
  case hcell => decide
  case hkind => rfl
  case hnames => decide
  case hfold => exact fun _ => rfl
  with_unfolding_all refine typ1 (T := "range") ?he (bltC GW (by simp) rfl ⟨rfl, fun1 (id := "len") ?he2 (bltC GW (by simp) rfl ⟨rfl, cellC (k := 4) (cv := cv) (W.cell 4 (by decide) (by decide)) m4 (call_len_list l1 ?b1 (rng1 ?b2 ?b3 fun h1 tk1 k1 hz1 hI1 => ?_)) ?x1 ?x2 ?x3 ?x4⟩ ?y1 ?y2 ?y3)⟩ ?h4 ?h5 ?h6)
  case he => rfl
  case he2 => rfl
  case b1 => show ((it2.size : Nat) : Int) < 2 ^ 63; omega
  case b2 => show -(2 ^ 62) ≤ ((it2.size : Nat) : Int); omega
  case b3 => show ((it2.size : Nat) : Int) < 2 ^ 62; omega
  case x1 => with_unfolding_all rfl
  case x2 => with_unfolding_all rfl
  case x3 => with_unfolding_all rfl
  case x4 => decide
  case y1 => with_unfolding_all rfl
  case y2 => with_unfolding_all rfl
  case y3 => decide
  case h4 => with_unfolding_all rfl
  case h5 => with_unfolding_all rfl
  case h6 => decide
  replace k1 : Ext s.heap h1 := k1
  replace hz1 : h1.objs.size = s.heap.objs.size + 2 := hz1
  replace hI1 : IsRangeIter h1 (s.heap.objs.size + 1) (0 + ((0 : Nat) : Int) * 1) (((((it2.size : Nat) : Int)).toNat : Int) - ((0 : Nat) : Int)) 1 := hI1
  rw [Int.toNat_natCast] at hI1
  have W1 := W.ext k1
  refine comp_core (I := s.heap.objs.size + 1) (fun h' i y => ∃ T t u, y = .ref T ∧ h1.objs.size + 2 ≤ T ∧ h'.get? T = some { cls := .type "tuple", data := .seq #[.int (2 * (i : Int) + 1) t, .int (g.getD i 0) u] }) (Walks.range hh (s.heap.objs.size + 1) 0 1 it2.size) hI1 ?_ ?_ ?_ ?_ rfl (fun _ => by with_unfolding_all rfl) (by omega)
  · intro b hb
    show b < h1.objs.size
    rw [List.mem_singleton.mp hb, hz1]; exact Nat.lt_succ_self _
  · rintro i h2 h3 y ⟨T, t, u, hy, hT, e⟩ k
    exact ⟨T, t, u, hy, hT, k T _ hT e⟩
  · rintro C i v h2 tk2 m2' hi ⟨tv, rfl⟩ hns hmx hkp hsz2
    replace hkp : Kp [s.heap.objs.size + 1] h1 h2 := hkp
    replace hsz2 : h1.objs.size + 2 ≤ h2.objs.size := hsz2
    have kB : Ext s.heap h2 := fun b o e => hkp b o (by simpa using Nat.ne_of_lt (Nat.lt_succ_of_lt (Heap.lt_size e))) (k1 b o e)
    have W2 := W.ext kB
    have l2 : h2.IsList D2 it2 := l1.at fun o e => kB _ o e
    have hlt : i < g.length := i1.1 ▸ hi
    obtain ⟨tg, hgi⟩ := i1.get hlt
    have c4 : h2.IsCell (L + 4) (some (.ref D2)) := m4 ▸ W2.cell 4 (by decide) (by decide)
    have e1 : 2 * (0 + (i : Int) * 1) + 1 = 2 * (i : Int) + 1 := by omega
    refine Tuple_ (args_cons (wpAny_BinOp (wpAny_BinOp (wpAny_Constant_int (wpAny_Name (wpAny_loadName_local rfl (by with_unfolding_all rfl) hns hmx (mul_small (by omega) (by omega) (wpAny_Constant_int (add_eq' e1 ?_)))) (by decide))))))
    refine args_cons (Subscript_ (wpAny_Name (wpAny_loadName_cell rfl (by with_unfolding_all rfl) (by with_unfolding_all rfl) c4 ?_) (by decide)))
    refine wpAny_Name (wpAny_loadName_local rfl (by with_unfolding_all rfl) hns hmx (item_list (x := .int (g.getD i 0) tg) l2 (by omega) (by omega) (by rw [show (0 + (i : Int) * 1).toNat = i by omega]; exact hgi) (args_nil (wpAny_newTuple ?_)))) (by decide)
    exact ⟨_, _, rfl, fun b o e => Heap.get?_push_of_some _ e, h2.objs.size, _, tg, rfl, hsz2, Heap.get?_push_size _ rfl⟩
  · rintro D C h3 tk3 m3' zs hD hC hns hli hsz3 hR hkp
    replace hD : D = h1.objs.size := hD
    replace hC : C = h1.objs.size + 1 := hC
    replace hkp : Kp [s.heap.objs.size + 1] h1 h3 := hkp
    refine ⟨m3', hns, fun h5 hs5 => ?_⟩
    replace hs5 : Heap.SameBut C h3 h5 := hs5
    have k13 : Ext s.heap h3 := fun b o e => hkp b o (by simpa using Nat.ne_of_lt (Nat.lt_succ_of_lt (Heap.lt_size e))) (k1 b o e)
    have cOld : ∀ b o, s.heap.get? b = some o → b ≠ C := fun b o e => by rw [hC, hz1]; exact Nat.ne_of_lt (Nat.lt_of_lt_of_le (Heap.lt_size e) (Nat.le_trans (Nat.le_add_right _ 2) (Nat.le_succ _)))
    have k15 : Ext s.heap h5 := fun b o e => hs5.extBut b o (cOld b o e) (k13 b o e)
    have nsC : ∀ b o, SeqO o → h3.get? b = some o → h5.get? b = some o := fun b o hq e => hs5.extBut b o (by rintro rfl; exact ns_noSeq hns o e hq) e
    have P3 : PL h5 zs (due2 g) := PL.keeps (pl_of (f := fun i => 2 * (i : Int) + 1) (hsz3.trans i1.1) hR) nsC
    have lU5 : h5.PlainList DU ys := let ⟨nn, e⟩ := lU; ⟨nn, k15 _ _ e⟩
    have lZ5 : h5.PlainList D zs := let ⟨nn, e⟩ := hli; ⟨nn, nsC _ _ trivial e⟩
    have pU5 : PL h5 ys l := pU.keeps fun b o _ e => k15 b o e
    have hdl : (due2 g).length = g.length := by simp [due2]
    have W5 := W.ext k15
    refine extend_plain (s := { s with heap := h5, toks := _ }) lU5 lZ5 (by rw [pU5.1, P3.1, hdl]; omega) fun h6 l6 hs6 => ?_
    replace hs6 : Heap.SameBut DU h5 h6 := hs6
    have W6 := W5.off (h' := h6) (I := DU) (fun b o hb e => hs6.extBut b o (by simpa using hb) e) hbU
    refine h h6 _ (ys ++ zs) W6 l6 (PL.keepsT (pU5.append P3) fun b o hc e => hs6.extBut b o ?_ e) fun b o hb e => hs6.extBut b o hb (k15 b o e)
    rintro rfl
    obtain ⟨nn, e'⟩ := lU5
    rw [e'] at e; cases e; simp at hc
end
end Mine

/-! part B27 -/
namespace Mine
open PySem PySem.Calls PyProof.Rows
set_option maxRecDepth 100000

theorem dueB_snoc (l : List (Int × Int)) (p q : Int) : dueB (l ++ [(p, q)]) = put (dueB l) p (q, q) := by simp [dueB, List.foldl_append]
theorem dueB_len : ∀ (l : List (Int × Int)) (acc : List (Int × Int × Int)), (l.foldl (fun b y => put b y.1 (y.2, y.2)) acc).length ≤ acc.length + l.length
  | [], acc => by simp
  | y :: l, acc => by
    rw [List.foldl_cons, List.length_cons]
    have h1 := dueB_len l (put acc y.1 (y.2, y.2))
    have h2 := put_length acc y.1 (y.2, y.2)
    omega

def hitB (lb : List (Int × Int × Int)) (y : Int × Int × Int) : Bool := match lb.find? (fun z => z.1 = y.1) with
  | some z => y.2.1 == z.2.1 && y.2.2 == z.2.2
  | none => false
theorem sameB_eq (l1 l2 : List (Int × Int × Int)) : sameB l1 l2 = (l1.length == l2.length && l1.all (hitB l2)) := rfl

section
variable {prog : Program} {w : World} {A : Around} {s : Shared} {mg mb : Str → Option Value}
variable {z : Array Value} {c TB : Addr} {hB : Heap} {L : Addr} {m : Str → Option Value} {cv : Nat → Option Value} {n d : Nat}

theorem reads_pv {h : Heap} {v : Value} {p q : Int} (x : PV h v p q) : ∃ as, Reads h v (.tuple [.int p, .int q]) as := by
  obtain ⟨T, t, u, rfl, e⟩ := x
  exact ⟨_, Reads.tuple e rfl rfl (.cons (.int _ _) (.cons (.int _ _) .nil))⟩
theorem hits_of {kb : List (Int × Value)} {lb : List (Int × Int × Int)} (rb : Rel s.heap kb lb) (hu : A.in1.units + 64 < cLine) {ka : List (Int × Value)} {la : List (Int × Int × Int)} (ra : Rel s.heap ka la) :
    PySem.W.KeqHits A.in1 s kb ka (la.all (hitB lb)) := by
  induction ra with
  | nil => exact .nil
  | @cons k v p q kvs l pv _ ih =>
    rw [List.all_cons]
    rcases rb.valueAt k with ⟨h1, h2⟩ | ⟨v', p', q', h1, h2, pv'⟩
    · have : hitB lb (k, p, q) = false := by unfold hitB; rw [h2]
      rw [this, Bool.false_and]
      exact .miss h1
    · have e : hitB lb (k, p, q) = PyData.eqv (.tuple [.int p, .int q]) (.tuple [.int p', .int q']) := by
        unfold hitB; rw [h2]
        simp [PyData.eqv, PyData.eqvAll]
      rw [e]
      obtain ⟨as, r1⟩ := reads_pv pv
      obtain ⟨bs, r2⟩ := reads_pv pv'
      exact .hit h1 (PySem.W.keq_at r1 r2 rfl rfl hu) ih

set_option maxHeartbeats 8000000 in
theorem law_return {Q : Flow → Shared → Prop} {a : Addr} {cd : Value} {BK DU : Addr} {ys : Array Value} {l : List (Int × Int)} {lb : List (Int × Int × Int)} (hh : A.handled = none) (hu0 : A.units < cLine) (hu : A.in1.units + 64 < cLine) (W : LW z c TB hB L s.heap m cv)
    (mb' : m "book" = some (.ref BK)) (bB : Book prog w s.heap BK lb) (hBK : L + 4 < BK) (md : m "due" = some (.ref DU)) (lU : s.heap.IsList DU ys) (pU : PL s.heap ys l) (hl : l.length ≤ 200)
    (h : ∀ (h' : Heap) tk (m' : Str → Option Value), LW z c TB hB L h' m' cv → Q (.ret (.bool (sameB lb (dueB l)))) { s with heap := h', toks := tk }) :
    wpAny (model prog w) A (execs [stL 14] (envC 15 L a cd)) Q NR s := by
  have hsl : sizeLine = 2 ^ 24 := rfl
  refine wpAny_execs_cons ?_
  with_unfolding_all refine wpAny_Return_some (wpAny_Compare1 (hm := ?hmk) (locC W.fr.ns mb' (compD_plain (cl := []) ?hclos ?hcell ?hkind ?hnames (locC W.fr.ns md (wpAny_pyIter_list lU ?hmain) ?q1 ?q2 ?q3) ?hfold) ?q4 ?q5 ?q6))
  case hmk => with_unfolding_all rfl
  case hclos => exact closureFor_none (by decide)
  case hcell => decide
  case hkind => rfl
  case hnames => decide
  case hfold => exact fun _ => rfl
  case q1 => with_unfolding_all rfl
  case q2 => with_unfolding_all rfl
  case q3 => decide
  case q4 => with_unfolding_all rfl
  case q5 => with_unfolding_all rfl
  case q6 => decide
  have hLI : L + 4 < s.heap.objs.size := W.big
  have nit : (s.heap.push { cls := .type "list_iterator", data := .fields #[.ref DU, .int 0 0] }).get? s.heap.objs.size = some { cls := .type "list_iterator", data := .fields #[.ref DU, .int 0 0] } := Heap.get?_push_size _ rfl
  have k1 : Ext s.heap (s.heap.push { cls := .type "list_iterator", data := .fields #[.ref DU, .int 0 0] }) := fun b o e => Heap.get?_push_of_some _ e
  have hz1 : (s.heap.push { cls := .type "list_iterator", data := .fields #[.ref DU, .int 0 0] }).objs.size = s.heap.objs.size + 1 := Heap.size_push ..
  refine ⟨fun s' Q' E' k q => wpAny_pyIter_listiter (i := 0) (l := DU) ⟨_, k _ _ nit, rfl, rfl⟩ q, ?_⟩
  intro D C h3 tk hD hC k hacc hns hsz
  replace hD : D = (s.heap.push { cls := .type "list_iterator", data := .fields #[.ref DU, .int 0 0] }).objs.size := hD
  replace hC : C = (s.heap.push { cls := .type "list_iterator", data := .fields #[.ref DU, .int 0 0] }).objs.size + 1 := hC
  replace k : Ext (s.heap.push { cls := .type "list_iterator", data := .fields #[.ref DU, .int 0 0] }) h3 := k
  replace hacc : h3.DictOf (intKind prog w) D [] := hacc
  rw [hz1] at hD hC
  obtain ⟨m0, hns⟩ := hns
  have k03 : Ext s.heap h3 := fun b o e => k b o (k1 b o e)
  have hDC : D ≠ C := by rw [hD, hC]; exact Nat.ne_of_lt (Nat.lt_succ_self _)
  have low : ∀ b o, s.heap.get? b = some o → b ≠ D ∧ b ≠ C ∧ b ≠ s.heap.objs.size := fun b o e => ⟨by rw [hD]; exact Nat.ne_of_lt (Nat.lt_succ_of_lt (Heap.lt_size e)), by rw [hC]; exact Nat.ne_of_lt (Nat.lt_succ_of_lt (Nat.lt_succ_of_lt (Heap.lt_size e))), Nat.ne_of_lt (Heap.lt_size e)⟩
  obtain ⟨oU, hoU, hcU, nU, hdU⟩ := id lU
  have hUI : DU ≠ s.heap.objs.size := (low _ _ hoU).2.2
  have hDI : D ≠ s.heap.objs.size := by rw [hD]; exact Nat.ne_of_gt (Nat.lt_succ_self _)
  have hCI : C ≠ s.heap.objs.size := by rw [hC]; exact Nat.ne_of_gt (Nat.lt_succ_of_lt (Nat.lt_succ_self _))
  have dno : ∀ {h : Heap} {kvs : List (Int × Value)}, h.DictOf (intKind prog w) D kvs → ∀ o, h.get? D = some o → ¬ SeqO o := fun x => dict_noSeq x
  refine compD_loop (l := DU) (items := ys) (fun i s' => ∃ h tk m, s' = { s with heap := h, toks := tk } ∧ h.Ns C m ∧ Book prog w h D (dueB (l.take i)) ∧ Ext s.heap h ∧ ∀ o, h.get? s.heap.objs.size = some o → ¬ SeqO o) hh hUI ⟨_, k _ _ nit, rfl, rfl⟩ (lU.at fun o e => k03 _ o e) ⟨h3, _, m0, rfl, hns, ⟨[], hacc, .nil⟩, k03, fun o ho => by rw [k _ _ nit] at ho; cases ho; simp [SeqO]⟩ ?_ ?_
  · rintro i v s0 s1 hv ⟨h4, tk4, m4, rfl, hns4, bk4, k4, no4⟩ ⟨h5, tk5, rfl, hk5⟩ hit5 hl5
    replace hk5 : ∀ b o, b ∉ [s.heap.objs.size] → h4.get? b = some o → h5.get? b = some o := hk5
    replace hit5 : h5.IsListIter s.heap.objs.size DU (i + 1) := hit5
    replace hl5 : h5.IsList DU ys := hl5
    have hil : i < l.length := by
      rw [← pU.1]
      rcases Nat.lt_or_ge i ys.size with q | q
      · exact q
      · rw [Array.getElem?_eq_none q] at hv; cases hv
    obtain ⟨v', hv', T, t, u, rfl, hT⟩ := pU.2 i (l[i]).1 (l[i]).2 (by simp [hil])
    obtain rfl : v = .ref T := Option.some.inj (hv.symm.trans hv')
    have htk : l.take (i + 1) = l.take i ++ [((l[i]).1, (l[i]).2)] := take_snoc (by simp [hil])
    rw [htk, dueB_snoc]
    generalize (l[i]).1 = p at hT
    generalize (l[i]).2 = q at hT
    have k5 : Ext s.heap h5 := fun b o e => hk5 b o (by simpa using (low b o e).2.2) (k4 b o e)
    have hns5 : h5.Ns C m4 := hns4.at fun o e => hk5 C o (by simpa using hCI) e
    have bk5 : Book prog w h5 D (dueB (l.take i)) := by
      obtain ⟨kvs, dk, rk⟩ := bk4
      refine ⟨kvs, dk.at fun o e => hk5 D o (by simpa using hDI) e, rk.keeps fun b o hq e => hk5 b o ?_ e⟩
      intro e'
      rw [List.mem_singleton.mp e'] at e
      exact no4 o e hq
    refine ⟨⟨T, rfl⟩, ?_⟩
    refine PySem.W.kcp_assign (s := { s with heap := h5, toks := tk5 }) hh (T := T) (x := .int p t) (y := .int q u) ⟨_, k5 _ _ hT, rfl, _, rfl⟩ (by with_unfolding_all rfl) (by with_unfolding_all rfl) (by with_unfolding_all rfl) hns5 fun h6 tk6 hns6 k6 => ?_
    replace hns6 : h6.Ns C (fun z => if z = Str.ofString "count" then some (.int q u) else if z = Str.ofString "key" then some (.int p t) else m4 z) := hns6
    replace k6 : ∀ c o, c ≠ C → h5.get? c = some o → h6.get? c = some o := k6
    have nsC : ∀ b o, SeqO o → h5.get? b = some o → h6.get? b = some o := fun b o hq e => k6 b o (by rintro rfl; exact ns_noSeq hns5 o e hq) e
    refine wpAny_Name (wpAny_loadName_local rfl (by with_unfolding_all rfl) hns6 ((if_neg (by decide)).trans (if_pos rfl)) ?_) (by decide)
    refine Tuple_ (args_cons (wpAny_Name (wpAny_loadName_local rfl (by with_unfolding_all rfl) hns6 (if_pos rfl) ?_) (by decide)))
    refine args_cons (wpAny_Name (wpAny_loadName_local rfl (by with_unfolding_all rfl) hns6 (if_pos rfl) (args_nil (wpAny_newTuple ?_))) (by decide))
    obtain ⟨kvs, dk, rk⟩ := bk5
    have dk7 : (h6.push { cls := .type "tuple", data := .seq [Value.int q u, Value.int q u].toArray }).DictOf (intKind prog w) D kvs := (dk.at fun o e => k6 D o hDC e).push _
    have rk7 : Rel (h6.push { cls := .type "tuple", data := .seq [Value.int q u, Value.int q u].toArray }) kvs (dueB (l.take i)) := rk.keeps fun b o hq e => Heap.get?_push_of_some _ (nsC b o hq e)
    have pT : PV (h6.push { cls := .type "tuple", data := .seq [Value.int q u, Value.int q u].toArray }) (.ref h6.objs.size) q q := ⟨_, _, _, rfl, Heap.get?_push_size _ rfl⟩
    have hlen : kvs.length ≤ 200 := by
      rw [rk.length]
      have := dueB_len (l.take i) []
      have h2 : (l.take i).length ≤ l.length := by rw [List.length_take]; omega
      unfold dueB
      simp only [List.length_nil] at this
      omega
    have k67 : ∀ b o, h6.get? b = some o → (h6.push { cls := .type "tuple", data := .seq [Value.int q u, Value.int q u].toArray }).get? b = some o := fun b o e => Heap.get?_push_of_some _ e
    refine wpAny_dictSet_pairs (knd := intKind prog w) (k := p) (by simp [intKind, Value.isInt]) dk7 (fun h8 dk8 hs8 => ?_) (by omega)
    replace hs8 : Heap.SameBut D (h6.push { cls := .type "tuple", data := .seq [Value.int q u, Value.int q u].toArray }) h8 := hs8
    have k58 : ∀ b o, b ≠ C → b ≠ D → h5.get? b = some o → h8.get? b = some o := fun b o h1 h2 e => hs8.extBut b o h2 (k67 b o (k6 b o h1 e))
    have rk8 : Rel h8 (stored kvs p (.ref h6.objs.size)) (put (dueB (l.take i)) p (q, q)) := (rk7.stored pT).keeps fun b o hq e => hs8.extBut b o (by rintro rfl; exact dno dk7 o e hq) e
    refine ⟨⟨h8, _, _, rfl, (hns6.keeps k67).sameBut hs8 (Ne.symm hDC), ⟨_, dk8, rk8⟩, fun b o e => k58 b o (low b o e).2.1 (low b o e).1 (k5 b o e), ?_⟩, hit5.at fun o e => k58 _ o (Ne.symm hCI) (Ne.symm hDI) e, hl5.at fun o e => k58 DU o (low _ _ hoU).2.1 (low _ _ hoU).1 e⟩
    intro o ho
    obtain ⟨o', ho', hc', hd'⟩ := hit5
    rw [k58 _ o' (Ne.symm hCI) (Ne.symm hDI) ho'] at ho
    cases ho; simp [SeqO, hd']
  · rintro s0 s1 ⟨h4, tk4, m4, rfl, hns4, bk4, k4, no4⟩ ⟨h5, tk5, rfl, hk5⟩
    replace hk5 : ∀ b o, b ∉ [s.heap.objs.size] → h4.get? b = some o → h5.get? b = some o := hk5
    rw [pU.1, List.take_length] at bk4
    have nsI : ∀ b o, SeqO o → h4.get? b = some o → h5.get? b = some o := fun b o hq e => hk5 b o (by intro e'; rw [List.mem_singleton.mp e'] at e; exact no4 o e hq) e
    have hns5 : h5.Ns C m4 := hns4.at fun o e => hk5 C o (by simpa using hCI) e
    refine ⟨m4, hns5, fun h6 hs6 => ?_⟩
    replace hs6 : Heap.SameBut C h5 h6 := hs6
    have k6 : Ext s.heap h6 := fun b o e => hs6.extBut b o (low b o e).2.1 (hk5 b o (by simpa using (low b o e).2.2) (k4 b o e))
    have nsC : ∀ b o, SeqO o → h4.get? b = some o → h6.get? b = some o := fun b o hq e => have e5 := nsI b o hq e; hs6.extBut b o (by rintro rfl; exact ns_noSeq hns5 o e5 hq) e5
    obtain ⟨kd, dd, rd⟩ := bk4
    have dd6 : h6.DictOf (intKind prog w) D kd := dd.at fun o e => hs6.extBut D o hDC (hk5 D o (by simpa using hDI) e)
    have rd6 : Rel h6 kd (dueB l) := rd.keeps nsC
    obtain ⟨kb, db, rb⟩ := bB.keeps (fun o e => k6 _ o e) fun b o _ e => k6 b o e
    have big : ∀ X : Addr, L + 4 < X → (X == sysModules) = false := fun X hX => beq_eq_false_iff_ne.mpr (Nat.ne_of_gt (Nat.lt_of_le_of_lt (Nat.le_trans (by decide : 1 ≤ 4) (Nat.le_add_left 4 L)) hX))
    refine PySem.W.keq_eq (s := { s with heap := h6, toks := _ }) (knd := intKind prog w) (big BK hBK) (big D (by rw [hD]; exact Nat.lt_succ_of_lt hLI)) db dd6 hu0 (fun _ => hits_of (s := { s with heap := h6, toks := _ }) rd6 hu rb) ?_
    rw [rb.length, rd6.length]
    exact h h6 _ m (W.ext k6)
end
end Mine

/-! part B28 -/
namespace Mine
open PySem PySem.Calls PyProof.Rows
set_option maxRecDepth 100000

theorem Rel.keepsT {h h' : Heap} {kvs l} (x : Rel h kvs l) (k : ∀ b o, o.cls = .type "tuple" → h.get? b = some o → h'.get? b = some o) : Rel h' kvs l := by
  induction x with
  | nil => exact .nil
  | cons a _ ih => exact .cons (let ⟨T, t, u, e, g⟩ := a; ⟨T, t, u, e, k T _ rfl g⟩) ih
theorem body_tail : (bodyAt 15).drop 4 = [stL 4, stL 5, stL 6, stL 7, stL 8, stL 9, stL 10, stL 11, stL 12, stL 13, stL 14] := by with_unfolding_all rfl

section
variable {prog : Program} {w : World} {A : Around} {s : Shared} {mg mb : Str → Option Value}
variable {z : Array Value} {c TB : Addr} {hB : Heap} {L : Addr} {m : Str → Option Value} {cv : Nat → Option Value} {n d : Nat}

set_option maxHeartbeats 8000000 in
theorem law_book {rest : List Stmt} {Q : Flow → Shared → Prop} {a : Addr} {cd : Value} (W : LW z c TB hB L s.heap m cv)
    (h : ∀ (h' : Heap) tk B0, LW z c TB hB L h' (upd m "book" (.ref B0)) cv → Book prog w h' B0 [] → L + 4 < B0 → Kp [L] s.heap h' →
      wpAny (model prog w) A (execs rest (envC 15 L a cd)) Q NR { s with heap := h', toks := tk }) :
    wpAny (model prog w) A (execs (stL 8 :: rest) (envC 15 L a cd)) Q NR s := by
  refine wpAny_execs_cons ?_
  with_unfolding_all refine wpAny_Assign_Name (hs := ?hsw) (wpAny_Dict_empty (wpAny_storeName_local ?g1 (W.fr.ns.push _) (fun h1 hn1 hs1 => ?_) ?g2))
  case hsw => with_unfolding_all rfl
  case g1 => with_unfolding_all rfl
  case g2 => with_unfolding_all rfl
  replace hs1 : Heap.SameBut L (s.heap.push { cls := .type "dict", data := .dict #[] }) h1 := hs1
  replace hn1 : h1.Ns L (upd m "book" (.ref s.heap.objs.size)) := hn1
  have k1 : Ext s.heap (s.heap.push { cls := .type "dict", data := .dict #[] }) := fun b o e => Heap.get?_push_of_some _ e
  have hL : L < s.heap.objs.size := W.fr.ns.lt
  have nD : (s.heap.push { cls := .type "dict", data := .dict #[] }).DictOf (intKind prog w) s.heap.objs.size [] := Heap.DictOf.new _
  exact h h1 _ _ ((W.ext k1).set hs1 hn1) ⟨[], nD.at fun o e => hs1.extBut _ o (Nat.ne_of_gt hL) e, .nil⟩ W.big fun b o hb e => hs1.extBut b o (by simpa using hb) (k1 b o e)

set_option maxHeartbeats 8000000 in
theorem law_body {Q : Flow → Shared → Prop} {a aA : Addr} {cd : Value} (G : Gd mg mb hB) (hAc : AcAt mg hB aA c) (hBT : hB.get? TB = none) (hh : A.handled = none) (hdp : A.depth + 1 < recursionLimit) (hu0 : A.units < cLine) (hu : A.in1.units + 64 < cLine)
    (W : LW z c TB hB L s.heap m cv) {S : Addr} {items : Array Value} {ns : List Int} (m1 : m "script" = some (.ref S)) (hS : s.heap.IsList S items) (hi : Ints items ns) (hsz : items.size ≤ 1000) (hg : AllBare s.gens)
    (h : ∀ (h' : Heap) tk gs (m' : Str → Option Value) cv', LW z c TB hB L h' m' cv' → AllBare gs → Q (.ret (.bool true)) { s with heap := h', toks := tk, gens := gs }) :
    wpAny (model prog w) A (execs (bodyAt 15) (envC 15 L a cd)) Q NR s := by
  have hdp' : A.depth < recursionLimit := Nat.lt_of_succ_lt hdp
  refine law_pre1 G hh W m1 hS hi hsz fun h1 tk1 m1 cv1 n d DR its ds W1 hn h1d hdn ms1 cd1 c1 lR iR szR => ?_
  rw [body_tail]
  refine law_stem (s := { s with heap := h1, toks := tk1 }) G hh W1 hn ms1 cd1 c1 lR iR szR fun h2 tk2 m2 stem W2 ms2 lR2 mst2 hs hst => ?_
  refine law_kinds (s := { s with heap := h2, toks := tk2 }) W2 mst2 hst fun h3 tk3 K t u W3 hK3 kp3 => ?_
  replace kp3 : Kp [L] h2 h3 := kp3
  have hRL : DR ≠ L := seq_ne lR2 (ns_noSeq W2.fr.ns)
  have lR3 : h3.IsList DR its := lR2.at fun o e => kp3 DR o (by simpa using hRL) e
  have ms3 : ∃ t, upd m2 "kinds" (.ref K) "size" = some (.int n t) := let ⟨t, e⟩ := ms2; ⟨t, (if_neg (by decide)).trans e⟩
  refine law_ends (s := { s with heap := h3, toks := tk3 }) G hh W3 hn ms3 c1 lR3 iR szR fun h4 tk4 EE ends W4 lE4 hE kp4 => ?_
  replace kp4 : Kp [L] h3 h4 := kp4
  have hKL : K ≠ L := fun e => by obtain ⟨o, ho, _, nn, hd⟩ := hK3; rw [e] at ho; exact ns_noSeq W3.fr.ns o ho (by simp [SeqO, hd])
  have hK4 : h4.IsTuple K #[.str (k0S stem) t, .str (k1S stem) u] := let ⟨o, e, r⟩ := hK3; ⟨o, kp4 K o (by simpa using hKL) e, r⟩
  have mk4 : upd (upd m2 "kinds" (.ref K)) "ends" (.ref EE) "kinds" = some (.ref K) := (if_neg (by decide)).trans (if_pos rfl)
  refine law_fall (s := { s with heap := h4, toks := tk4 }) G hdp' W4 mk4 hK4 hst hs fun h5 tk5 v W5 kp5 => ?_
  replace kp5 : Kp [L] h4 h5 := kp5
  have hEL : EE ≠ L := seq_ne lE4 (ns_noSeq W4.fr.ns)
  have V5 : LV n stem K EE ends h5 (upd (upd (upd m2 "kinds" (.ref K)) "ends" (.ref EE)) "fall" (.str (fallS stem.cps.toList) v)) := by
    refine ⟨?_, ?_, ?_, ⟨t, u, ?_⟩, ?_, lE4.at fun o e => kp5 EE o (by simpa using hEL) e, v, if_pos rfl⟩
    · obtain ⟨t, e⟩ := ms2
      exact ⟨t, (if_neg (by decide)).trans ((if_neg (by decide)).trans ((if_neg (by decide)).trans e))⟩
    · obtain ⟨t, e⟩ := mst2
      exact ⟨t, (if_neg (by decide)).trans ((if_neg (by decide)).trans ((if_neg (by decide)).trans e))⟩
    · exact (if_neg (by decide)).trans mk4
    · obtain ⟨o, e, r⟩ := hK4
      exact ⟨o, kp5 K o (by simpa using hKL) e, r⟩
    · exact (if_neg (by decide)).trans (if_pos rfl)
  generalize upd (upd (upd m2 "kinds" (.ref K)) "ends" (.ref EE)) "fall" (.str (fallS stem.cps.toList) v) = m5 at *
  refine law_book (s := { s with heap := h5, toks := tk5 }) W5 fun h6 tk6 B0 W6 bB6 big6 kp6 => ?_
  replace kp6 : Kp [L] h5 h6 := kp6
  have V6 : LV n stem K EE ends h6 (upd m5 "book" (.ref B0)) := V5.move (fun b o hq e => kp6 b o (by intro e'; rw [List.mem_singleton.mp e'] at e; exact ns_noSeq W5.fr.ns o e hq) e) (upd_all (by decide))
  have mb6 : upd m5 "book" (.ref B0) "book" = some (.ref B0) := if_pos rfl
  generalize upd m5 "book" (.ref B0) = m6 at *
  refine law_loop (s := { s with heap := h6, toks := tk6 }) G hAc hBT hh hdp W6 V6 hn h1d hdn cd1 hE hst hs mb6 bB6 big6 hg fun h7 tk7 gs7 m7 BK W7 V7 mb7 bB7 big7 g7 => ?_
  refine law_g1 (s := { s with heap := h7, toks := tk7, gens := gs7 }) G hh hdp' W7 hn h1d hdn V7.sz cd1 fun h8 tk8 D1 it1 W8 l8 i8 kp8 => ?_
  replace kp8 : ∀ b o, b ≠ L + 3 → h7.get? b = some o → h8.get? b = some o := kp8
  have ne3 : BK ≠ L + 3 := Nat.ne_of_gt (Nat.lt_of_le_of_lt (Nat.add_le_add_left (by decide) L) big7)
  have cellNo : ∀ {h : Heap} {m cv}, LW z c TB hB L h m cv → ∀ i, 1 ≤ i → i ≤ 4 → ∀ o, h.get? (L + i) = some o → ¬ SeqO o := fun W i a b o ho => by obtain ⟨o', ho', hd'⟩ := W.cell i a b; rw [ho] at ho'; cases ho'; simp [SeqO, hd']
  have bB8 : Book prog w h8 BK (bookL (ordD n d)) := bB7.keeps (fun o e => kp8 BK o ne3 e) fun b o hq e => kp8 b o (by rintro rfl; exact cellNo W7 3 (by decide) (by decide) o e hq) e
  have c28 : ∃ t, (fun j => if j = 3 then some (Value.ref D1) else cv1 j) 2 = some (.int d t) := cd1
  refine law_g2 (s := { s with heap := h8, toks := tk8, gens := gs7 }) G hh hdp' W8 hn h1d hdn V7.sz c28 fun h9 tk9 D2 it2 W9 l9 i9 kp9 => ?_
  replace kp9 : ∀ b o, b ≠ L + 4 → h8.get? b = some o → h9.get? b = some o := kp9
  have bB9 : Book prog w h9 BK (bookL (ordD n d)) := bB8.keeps (fun o e => kp9 BK o (Nat.ne_of_gt big7) e) fun b o hq e => kp9 b o (by rintro rfl; exact cellNo W8 4 (by decide) (by decide) o e hq) e
  have l89 : h9.IsList D1 it1 := l8.at fun o e => kp9 D1 o (seq_ne l8 (cellNo W8 4 (by decide) (by decide))) e
  have mac := macmahon hn h1d hdn
  have hdue := mac.2.1
  unfold dueL at hdue
  rw [List.length_append] at hdue
  have hd1 : (due1 d (gauss d (n - d - 1))).length = (gauss d (n - d - 1)).length := by simp [due1]
  have hd2 : (due2 (gauss (d - 1) (n - d))).length = (gauss (d - 1) (n - d)).length := by simp [due2]
  have c39 : (fun j => if j = 4 then some (Value.ref D2) else (fun j => if j = 3 then some (Value.ref D1) else cv1 j) j) 3 = some (.ref D1) := rfl
  have c49 : (fun j => if j = 4 then some (Value.ref D2) else (fun j => if j = 3 then some (Value.ref D1) else cv1 j) j) 4 = some (.ref D2) := rfl
  have c29 : ∃ t, (fun j => if j = 4 then some (Value.ref D2) else (fun j => if j = 3 then some (Value.ref D1) else cv1 j) j) 2 = some (.int d t) := cd1
  generalize (fun j => if j = 4 then some (Value.ref D2) else (fun j => if j = 3 then some (Value.ref D1) else cv1 j) j) = cv9 at *
  refine law_due (s := { s with heap := h9, toks := tk9, gens := gs7 }) G hh W9 c29 c39 l89 i8 (by omega) fun h10 tk10 DU ys W10 lU10 pU10 bigU kp10 ltU => ?_
  replace kp10 : Kp [L] h9 h10 := kp10
  replace ltU : ∀ b o, h9.get? b = some o → b < DU := ltU
  have hBKL : BK ≠ L := Nat.ne_of_gt (Nat.lt_of_le_of_lt (Nat.le_add_right _ _) big7)
  have bB10 : Book prog w h10 BK (bookL (ordD n d)) := bB9.keeps (fun o e => kp10 BK o (by simpa using hBKL) e) fun b o hq e => kp10 b o (by intro e'; rw [List.mem_singleton.mp e'] at e; exact ns_noSeq W9.fr.ns o e hq) e
  have l10 : h10.IsList D2 it2 := l9.at fun o e => kp10 D2 o (by simpa using seq_ne l9 (ns_noSeq W9.fr.ns)) e
  have md10 : upd m7 "due" (.ref DU) "due" = some (.ref DU) := if_pos rfl
  have mb10 : upd m7 "due" (.ref DU) "book" = some (.ref BK) := (if_neg (by decide)).trans mb7
  generalize upd m7 "due" (.ref DU) = m10 at *
  refine law_extend (s := { s with heap := h10, toks := tk10, gens := gs7 }) G hh W10 c49 l10 i9 (by omega) md10 lU10 pU10 (by omega) bigU fun h11 tk11 ys' W11 lU11 pU11 kp11 => ?_
  replace kp11 : ∀ b o, b ≠ DU → h10.get? b = some o → h11.get? b = some o := kp11
  have hBD : BK ≠ DU := Nat.ne_of_lt (let ⟨_, ⟨o, _, _, ho, _⟩, _⟩ := bB9; ltU BK o ho)
  have bB11 : Book prog w h11 BK (bookL (ordD n d)) := by
    obtain ⟨kb, db, rb⟩ := bB10
    refine ⟨kb, db.at fun o e => kp11 BK o hBD e, ?_⟩
    refine rb.keepsT fun b o hc e => kp11 b o ?_ e
    rintro rfl
    obtain ⟨nn, e'⟩ := lU10
    rw [e'] at e; cases e; simp at hc
  refine law_return (s := { s with heap := h11, toks := tk11, gens := gs7 }) hh hu0 hu W11 mb10 bB11 big7 md10 lU11 pU11 (by rw [List.length_append]; omega) fun h12 tk12 m12 W12 => ?_
  have e : sameB (bookL (ordD n d)) (dueB (due1 d (gauss d (n - d - 1)) ++ due2 (gauss (d - 1) (n - d)))) = true := mac.1
  rw [e]
  exact h h12 _ gs7 m12 _ W12 g7
end
end Mine

/-! part PgTop -/
open PySem PySem.W PyProof.Rows
namespace Mine
set_option maxRecDepth 100000 in
set_option maxHeartbeats 8000000 in
open_top hd for PySem.Challenge.rw_pg0077_01
end Mine

/-! part L1 -/
open PySem PySem.Calls PyProof.Rows PySem.W
namespace Mine
set_option maxRecDepth 100000

theorem mg_of {w : World} {mg : Str → Option Value} {h : Heap} {es : Array DictEntry} {ep : Nat} (g : h.Ns mainGlobals mg) (K : (hd.heap_39 w.params).In h)
    (e3 : (hd.heap_39 w.params).lookup 3 = some { cls := .type "dict", data := .dict es ep }) (x : Str) : mg x = nsFind es x := by
  obtain ⟨o, es', ep', ho, hd, sk, hm⟩ := g
  have := K 3 _ e3
  rw [show h.get? mainGlobals = h.get? 3 from rfl, this] at ho
  cases ho
  cases hd
  exact (hm x).symm

theorem recs_at : (recsOf hd.view_39).map (fun d => (d.name, d.params, d.body, d.scope)) =
    [(nameAt 3, paramsAt 3, bodyAt 3, scopeAt 3), (nameAt 5, paramsAt 5, bodyAt 5, scopeAt 5), (nameAt 10, paramsAt 10, bodyAt 10, scopeAt 10), (nameAt 11, paramsAt 11, bodyAt 11, scopeAt 11), (nameAt 13, paramsAt 13, bodyAt 13, scopeAt 13), (nameAt 14, paramsAt 14, bodyAt 14, scopeAt 14), (nameAt 15, paramsAt 15, bodyAt 15, scopeAt 15)] := by kernel_rfl

theorem rec_of {i : Nat} (hi : i ∈ [3, 5, 10, 11, 13, 14, 15]) : ∃ d ∈ recsOf hd.view_39, d.name = nameAt i ∧ d.params = paramsAt i ∧ d.body = bodyAt i ∧ d.scope = scopeAt i := by
  have hm : (nameAt i, paramsAt i, bodyAt i, scopeAt i) ∈ (recsOf hd.view_39).map (fun d => (d.name, d.params, d.body, d.scope)) := by
    rw [recs_at]
    simp only [List.mem_cons, List.not_mem_nil, or_false] at hi
    rcases hi with rfl | rfl | rfl | rfl | rfl | rfl | rfl
    · exact .head _
    · exact .tail _ (.head _)
    · exact .tail _ (.tail _ (.head _))
    · exact .tail _ (.tail _ (.tail _ (.head _)))
    · exact .tail _ (.tail _ (.tail _ (.tail _ (.head _))))
    · exact .tail _ (.tail _ (.tail _ (.tail _ (.tail _ (.head _)))))
    · exact .tail _ (.tail _ (.tail _ (.tail _ (.tail _ (.tail _ (.head _))))))
  obtain ⟨d, hd, e⟩ := List.mem_map.mp hm
  injection e with e1 e
  injection e with e2 e
  injection e with e3 e4
  exact ⟨d, hd, e1, e2, e3, e4⟩

theorem fn_of {loose : List Str} {mean : ExcName → Option Value} {mg mb : Str → Option Value} {h : Heap} (T : Top hd.view_39 loose mean mg mb h) {i : Nat} (hi : i ∈ [3, 5, 10, 11, 13, 14, 15]) :
    ∃ a o pm c doc TB, mg (nameAt i) = some (.ref a) ∧ h.get? a = some o ∧ o.data = .func (docDef (nameAt i) (paramsAt i) (bodyAt i) (scopeAt i) pm (.ref c) doc) ∧ h.CodeRec (.ref c) (nameAt i) ∧ h.IsCode c TB #[] ∧ h.TableAt c TB #[] := by
  obtain ⟨d, hd, e1, e2, e3, e4⟩ := rec_of hi
  obtain ⟨a, o, pm, cd, doc, h1, h2, h3, h4⟩ := T.fn d hd
  obtain ⟨a', o', fd, c, P, g1, g2, g3, g4, g5, g6⟩ := T.tab d hd
  rw [h1] at g1; cases g1
  rw [h2] at g2; cases g2
  rw [h3] at g3; cases g3
  cases g4
  rw [e1, e2, e3, e4] at h3
  rw [e1] at h1 h4
  exact ⟨a, o, pm, c, doc, P, h1, h2, h3, h4, g5, g6⟩

theorem gd_top {w : World} {loose : List Str} {mean : ExcName → Option Value} {mg mb : Str → Option Value} {h : Heap} (T : Top hd.view_39 loose mean mg mb h) (K : (hd.heap_39 w.params).In h) : Gd mg mb h where
  g := T.g
  b := T.b
  lim := T.nolimit
  p1 := ⟨50, (mg_of T.g K rfl _).trans (by with_unfolding_all rfl), ⟨_, _, 49, _, _, _, K 50 _ rfl, ⟨rfl, rfl⟩, rfl, rfl, rfl, rfl, K 49 _ rfl, rfl, rfl, by with_unfolding_all rfl⟩⟩
  p2 := ⟨55, (mg_of T.g K rfl _).trans (by with_unfolding_all rfl), ⟨_, _, 54, _, _, _, K 55 _ rfl, ⟨rfl, rfl⟩, rfl, rfl, rfl, rfl, K 54 _ rfl, rfl, rfl, by with_unfolding_all rfl⟩⟩
  crlf := ⟨371, (mg_of T.g K rfl _).trans (by with_unfolding_all rfl)⟩
  dots := ⟨284, (mg_of T.g K rfl _).trans (by with_unfolding_all rfl)⟩
  bi := by
    intro x hx
    have hne : ∀ y ∈ (["len", "range", "sum", "chr", "isinstance", "tuple", "zip"] : List Str), y ≠ "__name__" := by decide
    refine ⟨?_, T.builtins x (hne x hx)⟩
    simp only [List.mem_cons, List.not_mem_nil, or_false] at hx
    rcases hx with rfl | rfl | rfl | rfl | rfl | rfl | rfl <;> exact (mg_of T.g K rfl _).trans (by with_unfolding_all rfl)
  fn := by
    intro i hi
    obtain ⟨a, o, pm, c, doc, TB, h1, h2, h3, h4, _, _⟩ := fn_of T (i := i) (by simp only [List.mem_cons, List.not_mem_nil, or_false] at hi ⊢; omega)
    exact ⟨a, o, pm, _, doc, h1, h2, h3, h4⟩
  bm := let ⟨a, b, M⟩ := bmod_of_top T; ⟨a, b, M⟩
end Mine

/-! part L2 -/
open PySem PySem.Calls PyProof.Rows PySem.W
namespace Mine
set_option maxRecDepth 100000

def hide (h : Heap) (P : Addr) : Heap := h.update P fun _ => { cls := .none, data := .freed }
theorem hide_ne {h : Heap} {P b : Addr} (hb : b ≠ P) : (hide h P).get? b = h.get? b := Heap.get?_update_other _ _ (Ne.symm hb)
theorem hide_self {h : Heap} {P : Addr} : (hide h P).get? P = none := by
  cases h with
  | mk objs life =>
    simp only [hide, Heap.update, Heap.get?, Array.getElem?_modify, if_true]
    cases objs[P]? <;> rfl
theorem hide_size (h : Heap) (P : Addr) : (hide h P).objs.size = h.objs.size := Heap.size_after_update ..
theorem hide_ext (h : Heap) (P : Addr) : Ext (hide h P) h := fun b o e => by
  by_cases hb : b = P
  · rw [hb, hide_self] at e; cases e
  · rwa [hide_ne hb] at e

section
variable {h : Heap} {c P : Addr} {mg mb : Str → Option Value}
theorem tab_ns (t : h.TableAt c P #[]) {a : Addr} {m : Str → Option Value} (x : h.Ns a m) : a ≠ P := fun e => by
  obtain ⟨o, es, ep, ho, hd, _⟩ := x
  rw [e, t.2] at ho; cases ho; cases hd
theorem hide_ns (t : h.TableAt c P #[]) {a : Addr} {m : Str → Option Value} (x : h.Ns a m) : (hide h P).Ns a m := x.at' fun o e => by rw [hide_ne (tab_ns t x)]; exact e
theorem hide_cls (t : h.TableAt c P #[]) {a : Addr} {o : Obj} (e : h.get? a = some o) (hc : o.cls ≠ .none) : (hide h P).get? a = some o := by
  rw [hide_ne (fun q => by rw [q, t.2] at e; cases e; exact hc rfl)]; exact e
theorem hide_func (t : h.TableAt c P #[]) {a : Addr} {o : Obj} {fd : FuncData} (e : h.get? a = some o) (hd : o.data = .func fd) : (hide h P).get? a = some o := by
  rw [hide_ne (fun q => by rw [q, t.2] at e; cases e; cases hd)]; exact e
theorem hide_code (t : h.TableAt c P #[]) {cd : Value} {q : Str} (x : h.CodeRec cd q) : (hide h P).CodeRec cd q := by
  obtain ⟨c', o, vs, t', e1, e2, e3, e4⟩ := x
  refine ⟨c', o, vs, t', e1, ?_, e3, e4⟩
  rw [hide_ne (fun q => by rw [q, t.2] at e2; cases e2; cases e3; simp at e4)]; exact e2
theorem hide_pat (t : h.TableAt c P #[]) {p : Addr} {code : Array Nat} (x : IsPat h p code) : IsPat (hide h P) p code := by
  obtain ⟨o, vs, q, oq, its, n, h1, h2, h3, h4, h5, h6, h7, h8, h9⟩ := x
  exact ⟨o, vs, q, oq, its, n, hide_cls t h1 (by rw [h2.1]; simp), h2, h3, h4, h5, h6, hide_cls t h7 (by rw [h8]; simp), h8, h9⟩
theorem gd_hide (t : h.TableAt c P #[]) (G : Gd mg mb h) : Gd mg mb (hide h P) where
  g := hide_ns t G.g
  b := hide_ns t G.b
  lim := let ⟨mc, a, b⟩ := G.lim; ⟨mc, hide_ns t a, b⟩
  p1 := let ⟨a, e, x⟩ := G.p1; ⟨a, e, hide_pat t x⟩
  p2 := let ⟨a, e, x⟩ := G.p2; ⟨a, e, hide_pat t x⟩
  crlf := G.crlf
  dots := G.dots
  bi := G.bi
  fn := fun i hi => let ⟨a, o, pm, cd, doc, h1, h2, h3, h4⟩ := G.fn i hi; ⟨a, o, pm, cd, doc, h1, hide_func t h2 h3, h3, hide_code t h4⟩
  bm := let ⟨a, ob, M⟩ := G.bm; ⟨a, ob, ⟨hide_ns t M.ns, M.name, M.ne, hide_cls t M.obj (by rw [M.cls]; simp), M.cls, M.dict, M.data⟩⟩
end

set_option maxHeartbeats 8000000 in
/-- the law's call -/
theorem law_call {prog : Program} {w : World} {A : Around} {E : Value → Shared → Prop} {s : Shared} {loose : List Str} {mean : ExcName → Option Value} {mg mb : Str → Option Value} {Q : Value → Shared → Prop}
    (T : Top hd.view_39 loose mean mg mb s.heap) (K : (hd.heap_39 w.params).In s.heap) (hh : A.handled = none) (hdp : A.depth + 2 < recursionLimit) (hu0 : ∀ env, (A.deeper env).units < cLine) (hu : ∀ env, (A.deeper env).in1.units + 64 < cLine) {a S : Addr} (ha : mg (nameAt 15) = some (.ref a))
    {items : Array Value} {ns : List Int} (hS : s.heap.IsList S items) (hi : Ints items ns) (hsz : items.size ≤ 1000) (hg : AllBare s.gens)
    (h : ∀ h' tk gs, OldK s.heap h' → AllBare gs → Q (.bool true) { s with heap := h', toks := tk, gens := gs }) : wpAny (model prog w) A (call (.ref a) [.ref S]) Q E s := by
  obtain ⟨a', o, pm, cc, doc, P15, h1, h2, h3, h4, _, _⟩ := fn_of T (i := 15) (by simp)
  obtain rfl : a' = a := by rw [h1] at ha; injection ha with e; injection e
  obtain ⟨aA, oA, pmA, c, docA, TB, f1, f2, f3, f4, f5, f6⟩ := fn_of T (i := 5) (by simp)
  have G := gd_top T K
  have GB := gd_hide f6 G
  have hAc : AcAt mg (hide s.heap TB) aA c := ⟨oA, pmA, docA, f1, hide_func f6 f2 f3, f3, hide_code f6 f4⟩
  have hPT : TB ≠ cStatics := fun e => by
    obtain ⟨_, hn, _⟩ := T.nolimit
    exact tab_ns f6 hn e.symm
  with_unfolding_all refine wpAny_call (call_cells_ret (binds := [("script", .ref S)]) (Nat.lt_of_succ_lt (Nat.lt_of_succ_lt hdp)) h2 h3 T.nolimit h4 rfl ?_ (fun h₁ tk Fm X => ?_) rfl rfl rfl)
  · intro x hx
    simp only [List.mem_cons, List.not_mem_nil, or_false] at hx
    subst hx
    exact .inl rfl
  have hL : (hide s.heap TB).objs.size ≤ s.heap.objs.size := Nat.le_of_eq (hide_size ..)
  have W' : ∀ m, Fr s.heap s.heap.objs.size h₁ m → LW #[] c TB (hide s.heap TB) s.heap.objs.size h₁ m (fun _ => none) := by
    intro m Fm
    refine ⟨⟨Fm.ns, fun b o e => Fm.keep b o (hide_ext _ _ b o e), hL⟩, ?_, ⟨#[], f5.keeps Fm.keep, f6.keeps Fm.keep⟩, f5.lt.2, f5.lt.1⟩
    intro i h1 h4
    match i, h1, h4 with
    | 1, _, _ => exact X.cell "draws" _ rfl
    | 2, _, _ => exact X.cell "dotted" _ rfl
    | 3, _, _ => exact X.cell "ends_plain" _ rfl
    | 4, _, _ => exact X.cell "ends_dotted" _ rfl
  have W := W' _ Fm
  refine law_body (s := { s with heap := h₁, toks := tk }) GB hAc hide_self hh (by show A.depth + 1 + 1 < _; exact hdp) (hu0 _) (hu _) W rfl (hS.at fun o e => Fm.keep _ o e) hi hsz hg fun h' tk' gs m' cv' W' hg' => ?_
  refine h h' tk' gs ?_ hg'
  obtain ⟨more, _, t'⟩ := W'.tb
  exact OldK.step_table (OldK.refl _) f6 f6 t' (fun b o hb e => W'.fr.keep b o (by rw [hide_ne hb]; exact e)) hPT
end Mine

/-! part L3 -/
open PySem PySem.W PyProof.Rows
namespace Mine
theorem law_raises (l : OpenLaw) (args : List WData) (cls : ExcName) : l.row.claim.raises args cls = false := rfl
theorem law_post (l : OpenLaw) (args : List WData) : l.row.claim.post args (.bool true) args = true := by
  exact postW_of (by wrow_shape) (by wtm_val) (by w_fin)
end Mine
set_option maxRecDepth 100000 in
set_option maxHeartbeats 8000000 in
theorem PySem.Challenge.cw_pg0077_01_holds : PySem.Challenge.rw_pg0077_01.Holds := by
  refine Mine.hd ?_
  intro w s₀ s₁ mg mb G Y fa o pm cd doc dV kV ho hd hcd hD hmg hg args vals as hpre hlay hrd hwl hlo
  have KX := kIn_of Y
  have T := G.T
  clear hD hcd hd ho Y G
  wrow_args hpre hlay hrd hwl hlo
  have hI := ‹IntsAre _ _›
  have hL := ‹Heap.IsList s₁.heap _ _›
  have hlen := ‹¬ ((63 : Nat) : Int) < _›
  refine Mine.law_call T KX rfl (by decide) ?hu0 ?hu hmg hL (Mine.Ints.of (by simpa using hI)) ?hsz (AllBare.of_eq hg) fun h' tk gs hK hB => ?hend
  case hu0 => intro env; units_room
  case hu => intro env; units_room
  case hsz =>
    have := hI.length
    rw [List.size_toArray]
    omega
  case hend =>
    refine ⟨.inl ⟨.bool true, .bool true, [], rfl, ?_, .bool true, ?_, unshared_nil⟩, hK, rfl, hB⟩
    · exact fun cls => Mine.law_raises _ _ cls
    · exact Mine.law_post _ _

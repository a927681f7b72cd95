import PyProof.Rows.All
import Wide.All
import OpenK.AllK
import Wide.FinOn
import Lean
import PySem.Challenge.RW_pe0122_01
set_option Elab.async false
section
namespace Mine
open PySem
def c1 : Array Nat := #[14,4,0,1,1,6,1,16,46,1]
def c2 : Array Nat := #[14,9,4,1,2,16,10,16,13,0,7,7,16,13,16,10,15,18,5,16,10,15,13,11,16,13,5,5,0,16,10,1,15,2,0,1]
/-- from m the machine comes to m' in at most B steps -/
def RunTo (m : Sre.M) (B : Nat) (m' : Sre.M) : Prop := ∃ k, k ≤ B ∧ m.runFor k = m'
theorem runFor_add (a b : Nat) (m : Sre.M) : m.runFor (a + b) = (m.runFor a).runFor b := by
  induction a generalizing m with
  | zero => rw [Nat.zero_add]; rfl
  | succ a ih =>
    rw [Nat.succ_add]
    show (if m.outcome.isSome then m else Sre.M.runFor (a + b) m.step) = Sre.M.runFor b (if m.outcome.isSome then m else Sre.M.runFor a m.step)
    by_cases h : m.outcome.isSome = true
    · rw [if_pos h, if_pos h]
      cases b with
      | zero => rfl
      | succ b => show m = if m.outcome.isSome then m else _; rw [if_pos h]
    · rw [if_neg h, if_neg h]; exact ih _
theorem RunTo.trans {m m1 m2 : Sre.M} {a b : Nat} (h : RunTo m a m1) (g : RunTo m1 b m2) : RunTo m (a + b) m2 := by
  obtain ⟨k, hk, e⟩ := h
  obtain ⟨j, hj, f⟩ := g
  exact ⟨k + j, by omega, by rw [runFor_add, e, f]⟩
theorem RunTo.refl (m : Sre.M) : RunTo m 0 m := ⟨0, Nat.le_refl _, rfl⟩
theorem RunTo.mono {m m1 : Sre.M} {a b : Nat} (h : RunTo m a m1) (hab : a ≤ b) : RunTo m b m1 := let ⟨k, hk, e⟩ := h; ⟨k, by omega, e⟩
theorem RunTo.step {m m1 m2 : Sre.M} {b : Nat} (ho : m.outcome = none) (e : m.step = m1) (g : RunTo m1 b m2) : RunTo m (b + 1) m2 := by
  obtain ⟨j, hj, f⟩ := g
  refine ⟨j + 1, by omega, ?_⟩
  show (if m.outcome.isSome then m else Sre.M.runFor j m.step) = m2
  rw [ho, e]; exact f
/-- the machine of a search, at an attempt -/
abbrev at1 (code text : Array Nat) (body lim p : Nat) (first : Bool) (sn : Sre.Seen) : Sre.M :=
  { code := code, text := text, lim := lim, start := p, lastStart := lim, pc := body, pos := p, handed := p, outermost := first, marks := #[],
    frames := [{ wait := .nextStart, pc := body, pos := p, outermost := first }], weight := 1, seen := sn }
/-- the same with nothing waiting: its answer is the search's -/
abbrev end1 (code text : Array Nat) (body lim p e : Nat) (first yes : Bool) (sn : Sre.Seen) : Sre.M :=
  { code := code, text := text, lim := lim, start := p, lastStart := lim, pc := body, pos := p, handed := e, outermost := first, marks := #[],
    frames := [], weight := 0, seen := sn, answer := some yes }
theorem end1_step {code text : Array Nat} {body lim p e : Nat} {first yes : Bool} {sn : Sre.Seen} :
    (end1 code text body lim p e first yes sn).step = { end1 code text body lim p e first yes sn with outcome := some (if yes then .matched else .failed) } := rfl
theorem one_at_step {text : Array Nat} {lim p : Nat} {first : Bool} {sn : Sre.Seen} :
    (at1 c1 text 5 lim p first sn).step = if (p == 0 || text.getD (p - 1) 0 == 10) = true then { at1 c1 text 5 lim p first ((sn.add 6).add 44) with pc := 7 } else (at1 c1 text 5 lim p first ((sn.add 6).add 44)).say false := by
  rfl
theorem one_no_step {text : Array Nat} {lim p q : Nat} {first : Bool} {sn : Sre.Seen} :
    ({ at1 c1 text 5 lim p first sn with pc := q }.say false).step = if p < lim then at1 c1 text 5 lim (p + 1) false sn else end1 c1 text 5 lim p p first false sn := by
  rfl
theorem one_lit_step {text : Array Nat} {lim p : Nat} {first : Bool} {sn : Sre.Seen} :
    ({ at1 c1 text 5 lim p first sn with pc := 7 }).step = if p ≥ lim then { at1 c1 text 5 lim p first (sn.add 16) with pc := 7 }.say false else
      match (text.getD p 0 == 46) with
      | true => { at1 c1 text 5 lim p first (sn.add 16) with pc := 9, pos := p + 1 }
      | false => { at1 c1 text 5 lim p first (sn.add 16) with pc := 7 }.say false := by
  show (if p ≥ lim then _ else _) = _
  by_cases h : p ≥ lim
  · rw [if_pos h, if_pos h]; rfl
  · rw [if_neg h, if_neg h]
    show (match (Except.ok ((text.getD p 0 == 46), sn.add 16) : Except String (Bool × Sre.Seen)) with
      | .error why => _
      | .ok (false, seen) => _
      | .ok (true, seen) => _) = _
    cases (text.getD p 0 == 46) <;> rfl
theorem one_win {text : Array Nat} {lim p : Nat} {first : Bool} {sn : Sre.Seen} :
    ∃ m', RunTo ({ at1 c1 text 5 lim p first sn with pc := 9, pos := p + 1 }) 3 m' ∧ m'.outcome = some .matched ∧ m'.start = p ∧ m'.handed = p + 1 := by
  cases first
  · exact ⟨_, ⟨3, Nat.le_refl _, rfl⟩, rfl, rfl, rfl⟩
  · exact ⟨_, ⟨3, Nat.le_refl _, rfl⟩, rfl, rfl, rfl⟩
def find1 (text : Array Nat) : Nat → Nat → Option Nat
  | 0, _ => none
  | d + 1, p => if (p == 0 || text.getD (p - 1) 0 == 10) = true ∧ (text.getD p 0 == 46) = true then some p else find1 text d (p + 1)
/-- what a search says -/
def Says (m : Sre.M) (r : Option (Nat × Nat)) : Prop := match r with
  | some (b, e) => m.outcome = some .matched ∧ m.start = b ∧ m.handed = e
  | none => m.outcome = some .failed
theorem one_run (text : Array Nat) (lim : Nat) : ∀ (d p : Nat) (first : Bool) (sn : Sre.Seen), p + d = lim →
    ∃ m', RunTo (at1 c1 text 5 lim p first sn) (6 * d + 6) m' ∧ Says m' ((find1 text d p).map fun q => (q, q + 1))
  | 0, p, first, sn, h => by
    have hl : ¬ p < lim := by omega
    have fin : ∀ sn' q, ∃ m', RunTo ({ at1 c1 text 5 lim p first sn' with pc := q }.say false) 2 m' ∧ Says m' none := fun sn' q => by
      have e := one_no_step (text := text) (lim := lim) (p := p) (q := q) (first := first) (sn := sn')
      rw [if_neg hl] at e
      exact ⟨_, RunTo.step rfl e (RunTo.step rfl end1_step (RunTo.refl _)), rfl⟩
    by_cases h1 : (p == 0 || text.getD (p - 1) 0 == 10) = true
    · obtain ⟨m', r, e⟩ := fin (((sn.add 6).add 44).add 16) 7
      exact ⟨m', (RunTo.step rfl (by rw [one_at_step, if_pos h1]) (RunTo.step rfl (by rw [one_lit_step, if_pos (by omega : p ≥ lim)]) r)).mono (by omega), e⟩
    · obtain ⟨m', r, e⟩ := fin ((sn.add 6).add 44) 5
      exact ⟨m', (RunTo.step rfl (by rw [one_at_step, if_neg h1]) r).mono (by omega), e⟩
  | d + 1, p, first, sn, h => by
    have hl : p < lim := by omega
    by_cases h1 : (p == 0 || text.getD (p - 1) 0 == 10) = true
    · by_cases h2 : (text.getD p 0 == 46) = true
      · obtain ⟨m', r, e1, e2, e3⟩ := one_win (text := text) (lim := lim) (p := p) (first := first) (sn := ((sn.add 6).add 44).add 16)
        refine ⟨m', (RunTo.step rfl (by rw [one_at_step, if_pos h1]) (RunTo.step rfl (by rw [one_lit_step, if_neg (by omega : ¬ p ≥ lim), h2]) r)).mono (by omega), ?_⟩
        unfold find1
        rw [if_pos ⟨h1, h2⟩]
        exact ⟨e1, e2, e3⟩
      · have h2' : (text.getD p 0 == 46) = false := by simpa using h2
        obtain ⟨m', r, e⟩ := one_run text lim d (p + 1) false (((sn.add 6).add 44).add 16) (by omega)
        refine ⟨m', (RunTo.step rfl (by rw [one_at_step, if_pos h1]) (RunTo.step rfl (by rw [one_lit_step, if_neg (by omega : ¬ p ≥ lim), h2']) (RunTo.step rfl (by rw [one_no_step, if_pos hl]) r))).mono (by omega), ?_⟩
        unfold find1
        rw [if_neg (fun q => h2 q.2)]
        exact e
    · obtain ⟨m', r, e⟩ := one_run text lim d (p + 1) false ((sn.add 6).add 44) (by omega)
      refine ⟨m', (RunTo.step rfl (by rw [one_at_step, if_neg h1]) (RunTo.step rfl (by rw [one_no_step (q := 5), if_pos hl]) r)).mono (by omega), ?_⟩
      unfold find1
      rw [if_neg (fun q => h1 q.1)]
      exact e
theorem one_search (text : Array Nat) (p : Nat) (hp : p ≤ text.size) :
    ∃ m', RunTo (Sre.forSearch c1 text 0 p text.size false) (6 * text.size + 12) m' ∧ Says m' ((find1 text (text.size - p) p).map fun q => (q, q + 1)) := by
  by_cases h : p = text.size
  · subst h
    have e : Sre.forSearch c1 text 0 text.size text.size false = if (decide (text.size > text.size) || decide (text.size - text.size < 1)) = true then _ else _ := rfl
    rw [e, if_pos (by simp)]
    rw [Nat.sub_self]
    exact ⟨_, ⟨1, by omega, rfl⟩, rfl⟩
  · have e : Sre.forSearch c1 text 0 p text.size false = if (decide (p > text.size) || decide (text.size - p < 1)) = true then _ else at1 c1 text 5 text.size p true (({} : Sre.Seen).add 14) := rfl
    rw [e, if_neg (by simp; omega)]
    obtain ⟨m', r, s⟩ := one_run text text.size (text.size - p) p true (({} : Sre.Seen).add 14) (by omega)
    exact ⟨m', r.mono (by omega), s⟩
/-- the second pattern: a branch is tried -/
abbrev br (text : Array Nat) (lim p : Nat) (first : Bool) (alt pc pos : Nat) (sn : Sre.Seen) : Sre.M :=
  { at1 c2 text 10 lim p first sn with pc := pc, pos := pos, frames := [{ wait := .nextBranch, pc := alt, pos := p, outermost := first }, { wait := .nextStart, pc := 10, pos := p, outermost := first }], weight := 2 }
theorem two_branch {text : Array Nat} {lim p : Nat} {first : Bool} {sn : Sre.Seen} : (at1 c2 text 10 lim p first sn).step = br text lim p first 11 12 p (sn.add 7) := rfl
theorem two_lit13 {text : Array Nat} {lim p pos : Nat} {first : Bool} {sn : Sre.Seen} :
    (br text lim p first 11 12 pos sn).step = if pos ≥ lim then (br text lim p first 11 12 pos (sn.add 16)).say false else
      match (text.getD pos 0 == 13) with
      | true => br text lim p first 11 14 (pos + 1) (sn.add 16)
      | false => (br text lim p first 11 12 pos (sn.add 16)).say false := by
  show (if pos ≥ lim then _ else _) = _
  by_cases h : pos ≥ lim
  · rw [if_pos h, if_pos h]; rfl
  · rw [if_neg h, if_neg h]
    show (match (Except.ok ((text.getD pos 0 == 13), sn.add 16) : Except String (Bool × Sre.Seen)) with
      | .error why => _
      | .ok (false, seen) => _
      | .ok (true, seen) => _) = _
    cases (text.getD pos 0 == 13) <;> rfl
theorem two_lit10 {text : Array Nat} {lim p pos : Nat} {first : Bool} {sn : Sre.Seen} :
    (br text lim p first 11 14 pos sn).step = if pos ≥ lim then (br text lim p first 11 14 pos (sn.add 16)).say false else
      match (text.getD pos 0 == 10) with
      | true => br text lim p first 11 16 (pos + 1) (sn.add 16)
      | false => (br text lim p first 11 14 pos (sn.add 16)).say false := by
  show (if pos ≥ lim then _ else _) = _
  by_cases h : pos ≥ lim
  · rw [if_pos h, if_pos h]; rfl
  · rw [if_neg h, if_neg h]
    show (match (Except.ok ((text.getD pos 0 == 10), sn.add 16) : Except String (Bool × Sre.Seen)) with
      | .error why => _
      | .ok (false, seen) => _
      | .ok (true, seen) => _) = _
    cases (text.getD pos 0 == 10) <;> rfl
theorem two_lit10b {text : Array Nat} {lim p pos : Nat} {first : Bool} {sn : Sre.Seen} :
    (br text lim p first 18 19 pos sn).step = if pos ≥ lim then (br text lim p first 18 19 pos (sn.add 16)).say false else
      match (text.getD pos 0 == 10) with
      | true => br text lim p first 18 21 (pos + 1) (sn.add 16)
      | false => (br text lim p first 18 19 pos (sn.add 16)).say false := by
  show (if pos ≥ lim then _ else _) = _
  by_cases h : pos ≥ lim
  · rw [if_pos h, if_pos h]; rfl
  · rw [if_neg h, if_neg h]
    show (match (Except.ok ((text.getD pos 0 == 10), sn.add 16) : Except String (Bool × Sre.Seen)) with
      | .error why => _
      | .ok (false, seen) => _
      | .ok (true, seen) => _) = _
    cases (text.getD pos 0 == 10) <;> rfl
theorem two_no {text : Array Nat} {lim p pos : Nat} {first : Bool} {sn : Sre.Seen} : ((br text lim p first 11 12 pos sn).say false).step = br text lim p first 18 19 p sn := rfl
abbrev won (text : Array Nat) (lim p e : Nat) (first : Bool) (alt : Nat) (sn : Sre.Seen) : Sre.M :=
  { at1 c2 text 10 lim p first sn with handed := e, pc := alt, answer := some true }
theorem two_jump {text : Array Nat} {lim p pos : Nat} {first : Bool} {sn : Sre.Seen} : (br text lim p first 11 16 pos sn).step = br text lim p first 11 35 pos (sn.add 15) := rfl
theorem two_jumpb {text : Array Nat} {lim p pos : Nat} {first : Bool} {sn : Sre.Seen} : (br text lim p first 18 21 pos sn).step = br text lim p first 18 35 pos (sn.add 15) := rfl
theorem two_success {text : Array Nat} {lim p pos alt : Nat} {first : Bool} {sn : Sre.Seen} : (br text lim p first alt 35 pos sn).step = { br text lim p first alt 35 pos (sn.add 1) with handed := pos, answer := some true } := by
  cases first <;> rfl
theorem two_back {text : Array Nat} {lim p pos alt : Nat} {first : Bool} {sn : Sre.Seen} : ({ br text lim p first alt 35 pos sn with handed := pos, answer := some true } : Sre.M).step = won text lim p pos first alt sn := rfl
theorem two_back2 {text : Array Nat} {lim p pos alt : Nat} {first : Bool} {sn : Sre.Seen} : (won text lim p pos first alt sn).step = end1 c2 text 10 lim p pos first true sn := rfl
theorem two_fin {text : Array Nat} {lim p pos alt : Nat} {first : Bool} {sn : Sre.Seen} : ∃ m', RunTo (br text lim p first alt 35 pos sn) 4 m' ∧ m'.outcome = some .matched ∧ m'.start = p ∧ m'.handed = pos :=
  ⟨_, RunTo.step rfl two_success (RunTo.step rfl two_back (RunTo.step rfl two_back2 (RunTo.step rfl end1_step (RunTo.refl _)))), rfl, rfl, rfl⟩
theorem two_win {text : Array Nat} {lim p pos : Nat} {first : Bool} {sn : Sre.Seen} : ∃ m', RunTo (br text lim p first 11 16 pos sn) 5 m' ∧ m'.outcome = some .matched ∧ m'.start = p ∧ m'.handed = pos :=
  let ⟨m', r, e⟩ := two_fin; ⟨m', RunTo.step rfl two_jump r, e⟩
theorem two_winb {text : Array Nat} {lim p pos : Nat} {first : Bool} {sn : Sre.Seen} : ∃ m', RunTo (br text lim p first 18 21 pos sn) 5 m' ∧ m'.outcome = some .matched ∧ m'.start = p ∧ m'.handed = pos :=
  let ⟨m', r, e⟩ := two_fin; ⟨m', RunTo.step rfl two_jumpb r, e⟩
theorem two_at10 {text : Array Nat} {lim p : Nat} {first : Bool} {sn : Sre.Seen} (hl : p < lim) (h : text.getD p 0 = 10) :
    ∃ m', RunTo (at1 c2 text 10 lim p first sn) 10 m' ∧ Says m' (some (p, p + 1)) := by
  have h13 : (text.getD p 0 == 13) = false := by rw [h]; rfl
  have h10 : (text.getD p 0 == 10) = true := by rw [h]; rfl
  obtain ⟨m', r, e⟩ := two_winb (text := text) (lim := lim) (p := p) (pos := p + 1) (first := first) (sn := (((sn.add 7).add 16).add 16))
  exact ⟨m', (RunTo.step rfl two_branch (RunTo.step rfl (by rw [two_lit13, if_neg (by omega : ¬ p ≥ lim), h13]) (RunTo.step rfl two_no (RunTo.step rfl (by rw [two_lit10b, if_neg (by omega : ¬ p ≥ lim), h10]) r)))).mono (by omega), e⟩
theorem two_at13 {text : Array Nat} {lim p : Nat} {first : Bool} {sn : Sre.Seen} (hl : p + 1 < lim) (h : text.getD p 0 = 13) (h' : text.getD (p + 1) 0 = 10) :
    ∃ m', RunTo (at1 c2 text 10 lim p first sn) 10 m' ∧ Says m' (some (p, p + 2)) := by
  have h13 : (text.getD p 0 == 13) = true := by rw [h]; rfl
  have h10 : (text.getD (p + 1) 0 == 10) = true := by rw [h']; rfl
  obtain ⟨m', r, e⟩ := two_win (text := text) (lim := lim) (p := p) (pos := p + 1 + 1) (first := first) (sn := (((sn.add 7).add 16).add 16))
  exact ⟨m', (RunTo.step rfl two_branch (RunTo.step rfl (by rw [two_lit13, if_neg (by omega : ¬ p ≥ lim), h13]) (RunTo.step rfl (by rw [two_lit10, if_neg (by omega : ¬ p + 1 ≥ lim), h10]) r))).mono (by omega), e⟩
def nl (text : Array Nat) : Nat → Nat → Option Nat
  | 0, _ => none
  | d + 1, p => if (text.getD p 0 == 10) = true then some p else if (text.getD p 0 == 13) = true then some p else nl text d (p + 1)
theorem two_set (c : Nat) (sn : Sre.Seen) : ∃ sn', Sre.inSet c2 c c2.size 5 true sn = .ok ((c == 10) || (c == 13), sn') := by
  have e : Sre.inSet c2 c c2.size 5 true sn = if (c == 10) = true then .ok (true, sn.add 16) else if (c == 13) = true then .ok (true, (sn.add 16).add 16) else .ok (false, ((sn.add 16).add 16).add 0) := rfl
  rw [e]
  cases h1 : (c == 10) with
  | true => exact ⟨_, rfl⟩
  | false =>
    cases h2 : (c == 13) with
    | true => exact ⟨_, rfl⟩
    | false => exact ⟨_, rfl⟩
theorem two_admitted (m : Sre.M) (hc : m.code = c2) : ∀ (d p f : Nat) (sn : Sre.Seen), p + d = m.lim → d < f → ∃ sn', Sre.M.admitted m f p sn = .ok (nl m.text d p, sn')
  | 0, p, f + 1, sn, h, _ => by
    unfold Sre.M.admitted
    rw [if_pos (by omega : p ≥ m.lim)]
    exact ⟨_, rfl⟩
  | d + 1, p, f + 1, sn, h, hf => by
    obtain ⟨sn1, e1⟩ := two_set (m.text.getD p 0) sn
    obtain ⟨sn2, e2⟩ := two_admitted m hc d (p + 1) f sn1 (by omega) (by omega)
    unfold Sre.M.admitted nl
    rw [if_neg (by omega : ¬ p ≥ m.lim), hc, e1]
    cases h1 : (m.text.getD p 0 == 10) with
    | true => exact ⟨_, rfl⟩
    | false =>
      cases h2 : (m.text.getD p 0 == 13) with
      | true => exact ⟨_, rfl⟩
      | false => exact ⟨sn2, e2⟩
def find2 (text : Array Nat) (d p : Nat) : Option (Nat × Nat) := (nl text d p).map fun q => (q, if (text.getD q 0 == 10) = true then q + 1 else q + 2)
theorem nl_lt {text : Array Nat} : ∀ {d p q : Nat}, nl text d p = some q → p ≤ q ∧ q < p + d ∧ (text.getD q 0 = 10 ∨ text.getD q 0 = 13)
  | 0, _, _, h => by cases h
  | d + 1, p, q, h => by
    unfold nl at h
    by_cases h1 : (text.getD p 0 == 10) = true
    · rw [if_pos h1] at h; cases h; exact ⟨Nat.le_refl _, by omega, .inl (by simpa using h1)⟩
    · rw [if_neg h1] at h
      by_cases h2 : (text.getD p 0 == 13) = true
      · rw [if_pos h2] at h; cases h; exact ⟨Nat.le_refl _, by omega, .inr (by simpa using h2)⟩
      · rw [if_neg h2] at h
        obtain ⟨a, b, c⟩ := nl_lt h
        exact ⟨by omega, by omega, c⟩
theorem two_search (text : Array Nat) (p : Nat) (hp : p ≤ text.size) (H : ∀ q, q < text.size → text.getD q 0 = 13 → q + 1 < text.size ∧ text.getD (q + 1) 0 = 10) :
    ∃ m', RunTo (Sre.forSearch c2 text 0 p text.size false) (6 * text.size + 12) m' ∧ Says m' (find2 text (text.size - p) p) := by
  by_cases h : p = text.size
  · subst h
    have e : Sre.forSearch c2 text 0 text.size text.size false = if (decide (text.size > text.size) || decide (text.size - text.size < 1)) = true then _ else _ := rfl
    rw [e, if_pos (by simp)]
    rw [Nat.sub_self]
    exact ⟨_, ⟨1, by omega, rfl⟩, rfl⟩
  · let m0 : Sre.M := { code := c2, text := text, lim := text.size, start := p, lastStart := text.size, pc := 10, pos := p, handed := p, marks := #[], seen := ({} : Sre.Seen).add 14 }
    have e : Sre.forSearch c2 text 0 p text.size false = if (decide (p > text.size) || decide (text.size - p < 1)) = true then _ else m0.attemptFrom p true := rfl
    rw [e, if_neg (by simp; omega)]
    obtain ⟨sn, e2⟩ := two_admitted m0 rfl (text.size - p) p (text.size + 1 - p) m0.seen (by show p + (text.size - p) = text.size; omega) (by omega)
    have e3 : m0.attemptFrom p true = match Sre.M.admitted m0 (text.size + 1 - p) p m0.seen with
        | .ok (some s, seen) => at1 c2 text 10 text.size s true seen
        | .ok (none, seen) => { m0 with seen }.say false
        | .error why => m0.stick why := rfl
    rw [e3, e2]
    show ∃ m', RunTo (match (Except.ok (nl text (text.size - p) p, sn) : Except String (Option Nat × Sre.Seen)) with
        | .ok (some s, seen) => at1 c2 text 10 text.size s true seen
        | .ok (none, seen) => { m0 with seen }.say false
        | .error why => m0.stick why) _ m' ∧ Says m' (find2 text (text.size - p) p)
    unfold find2
    cases hn : nl text (text.size - p) p with
    | none => exact ⟨_, ⟨1, by omega, rfl⟩, rfl⟩
    | some q =>
      obtain ⟨a, b, c⟩ := nl_lt hn
      show ∃ m', RunTo (at1 c2 text 10 text.size q true sn) _ m' ∧ Says m' (some (q, if (text.getD q 0 == 10) = true then q + 1 else q + 2))
      rcases c with c | c
      · rw [if_pos (by rw [c]; rfl)]
        obtain ⟨m', r, s⟩ := two_at10 (first := true) (sn := sn) (by omega : q < text.size) c
        exact ⟨m', r.mono (by omega), s⟩
      · rw [if_neg (by rw [c]; decide)]
        obtain ⟨c1, c2⟩ := H q (by omega) c
        obtain ⟨m', r, s⟩ := two_at13 (first := true) (sn := sn) c1 c c2
        exact ⟨m', r.mono (by omega), s⟩
end Mine
end
section
namespace Mine
open PySem PySem.Builtin PySem.Builtin.Re
theorem slot_re_sub : Slot "re.Pattern" "sub" "re.Pattern.sub" :=
  .of (owner := "re.Pattern") (n := "sub") (by rw [typeLookup_type, builtinLookup_eq_fast]; kernel_rfl) (by decide +kernel) (by decide +kernel) (by decide +kernel)
    (by first | exact .inl (by decide +kernel) | exact .inr (by decide +kernel)) (by rw [isSubtype_type]; kernel_rfl)
theorem type_re_sub : typeOf (.builtin "re.Pattern.sub") = pure (.type "method_descriptor") := by show builtinType _ = _; rw [builtinType_eq_fast]; kernel_rfl
theorem entry_re_sub : entryFor table "re.Pattern.sub" = some Builtin.«re.Pattern.sub» := entryFor_of_tree (by kernel_rfl)
theorem entry_re_loop : entryFor table "re.Pattern.sub.loop" = some Builtin.«re.Pattern.sub.loop» := entryFor_of_tree (by kernel_rfl)
theorem plainAttrs_re : PlainAttrs "re.Pattern" :=
  ⟨⟨"object.__getattribute__", by rw [typeLookup_type, builtinLookup_eq_fast]; kernel_rfl, by decide +kernel⟩, by rw [typeLookup_type, builtinLookup_eq_fast]; kernel_rfl⟩
theorem owner_re : Manifest.owners.lookup (String.ofList ['n', 'r', 'e', 't', 't', 'a', 'P', '.', 'e', 'r'].reverse) = some Manifest.sig_re_Pattern := by kernel_rfl
theorem args_re_sub (a b c : Value) : argsOk "re.Pattern.sub" ⟨[a, b, c], []⟩ := by
  unfold argsOk; rw [signature?_of (id := "re.Pattern.sub") (n := ['b', 'u', 's']) (o := ['n', 'r', 'e', 't', 't', 'a', 'P', '.', 'e', 'r']) (by kernel_rfl) owner_re]; kernel_rfl
theorem plain_re_loop : plainId "re.Pattern.sub.loop" = true := by decide +kernel
theorem str_no_call : typeLookup (.type "str") "__call__" = pure none := by rw [typeLookup_type, builtinLookup_eq_fast]; kernel_rfl
/-- a compiled pattern of no group, over texts -/
def PatAt (h : Heap) (P : Addr) (code : Array Nat) : Prop :=
  ∃ o vs C oc n, h.get? P = some o ∧ o.cls = .type "re.Pattern" ∧ o.dict = none ∧ o.data = .fields vs ∧ vs.getD 2 .none = .int 0 0 ∧ vs.getD 5 .none = .ref C ∧ vs.getD 6 .none = .int 0 0 ∧
    h.get? C = some oc ∧ oc.data = .seq (code.map fun c => .int (c : Nat) 0) n ∧ oc.cls = .type "tuple"
theorem PatAt.keeps {h h' : Heap} {P : Addr} {code : Array Nat} (x : PatAt h P code) (k : ∀ b o, h.get? b = some o → h'.get? b = some o) : PatAt h' P code :=
  let ⟨o, vs, C, oc, n, a, b, c, d, e, f, g, i, j⟩ := x; ⟨o, vs, C, oc, n, k _ _ a, b, c, d, e, f, g, k _ _ i, j⟩
theorem PatAt.keepsBut {h h' : Heap} {P l : Addr} {code : Array Nat} (x : PatAt h P code) (hl : ∃ o, h.get? l = some o ∧ o.cls = .type "list") (k : ∀ b o, b ≠ l → h.get? b = some o → h'.get? b = some o) : PatAt h' P code := by
  obtain ⟨o, vs, C, oc, n, a, b, c, d, e, f, g, i, j, m⟩ := x
  obtain ⟨ol, e1, e2⟩ := hl
  refine ⟨o, vs, C, oc, n, k _ _ (fun q => ?_) a, b, c, d, e, f, g, k _ _ (fun q => ?_) i, j, m⟩
  · rw [q, e1] at a; cases a; rw [e2] at b; exact absurd b (by decide)
  · rw [q, e1] at i; cases i; rw [e2] at m; exact absurd m (by decide)
theorem raw_code (code : Array Nat) : ((code.map fun c => Value.int (c : Nat) 0).map reRawOf).map (·.toNat) = code := by
  rw [Array.map_map, Array.map_map]
  conv => rhs; rw [← Array.map_id code]
  rfl
section
variable {prog : Program} {w : World} {A : Around} {E : Value → Shared → Prop} {s : Shared} {P : Addr} {code : Array Nat} {x r : Str} {tx tr : Tok}
abbrev tgt (P : Addr) (code : Array Nat) (x : Str) (tx : Tok) : ReTarget := { pattern := .ref P, string := .str x tx, code := code, text := x.cps, kind := 0, groups := 0, pos := 0, lim := x.cps.size }
theorem wholeTarget {Q : ReTarget → Shared → Prop} (hP : PatAt s.heap P code) (h : Q (tgt P code x tx) s) : wpAny (model prog w) A (reWholeTarget (.ref P) (.str x tx)) Q E s := by
  obtain ⟨o, vs, C, oc, n, h1, h2, h3, h4, h5, h6, h7, h8, h9, _⟩ := hP
  unfold reWholeTarget
  refine wpAny_bind (wpAny_fieldsOf h1 h4 ?_)
  refine wpAny_bind (wpAny_of_eq (a := (x.cps, 0)) rfl ?_)
  show wpAny _ _ _ _ _ _
  dsimp only
  rw [h7, h6, h5]
  refine wpAny_bind (wpAny_of_eq (a := ()) rfl ?_)
  refine wpAny_bind ?_
  unfold reRawItems
  refine wpAny_bind (wpAny_seqItems h8 h9 (wpAny_pure (wpAny_pure ?_)))
  have e := raw_code code
  dsimp only [Option.getD_some]
  rw [e]
  exact h
theorem runFor_stop {m : Sre.M} (h : m.outcome.isSome = true) : ∀ k, m.runFor k = m
  | 0 => rfl
  | k + 1 => by show (if m.outcome.isSome then m else _) = m; rw [if_pos h]
theorem drive {Q : Sre.M → Shared → Prop} {m' : Sre.M} (ho : m'.outcome.isSome = true) (hQ : Q m' s) : ∀ (turns k : Nat) (m : Sre.M), m.runFor k = m' → k < 4 * turns → wpAny (model prog w) A (reDrive turns m) Q E s
  | 0, _, _, _, h => absurd h (Nat.not_lt_zero _)
  | turns + 1, k, m, hk, h => by
    show wpAny _ _ (if (m.runFor reTurnSteps).outcome.isSome then pure (m.runFor reTurnSteps) else do rule "sre.turn"; reDrive turns (m.runFor reTurnSteps)) Q E s
    by_cases h1 : (m.runFor reTurnSteps).outcome.isSome = true
    · rw [if_pos h1]
      have e : m.runFor reTurnSteps = m' := by
        by_cases hk4 : k ≤ 4
        · have : m.runFor (k + (4 - k)) = m' := by rw [runFor_add, hk, runFor_stop ho]
          rw [show k + (4 - k) = reTurnSteps from by show _ = 4; omega] at this
          exact this
        · have : m.runFor (4 + (k - 4)) = m' := by rw [show 4 + (k - 4) = k from by omega]; exact hk
          rw [runFor_add] at this
          exact (runFor_stop h1 (k - 4)).symm.trans this
      rw [e]
      exact wpAny_pure hQ
    · rw [if_neg h1]
      have hk4 : ¬ k ≤ 4 := fun hk4 => h1 (by
        have : m.runFor (k + (4 - k)) = m' := by rw [runFor_add, hk, runFor_stop ho]
        rw [show k + (4 - k) = reTurnSteps from by show _ = 4; omega] at this
        rw [this]; exact ho)
      refine wpAny_bind (wpAny_rule (drive ho hQ turns (k - 4) _ ?_ (by omega)))
      show (m.runFor 4).runFor (k - 4) = m'
      rw [← runFor_add, show 4 + (k - 4) = k from by omega]; exact hk
theorem says_some {m : Sre.M} {r : Option (Nat × Nat)} (h : Says m r) : m.outcome.isSome = true := by
  cases r with
  | none => rw [show m.outcome = _ from h]; rfl
  | some p => rw [h.1]; rfl
theorem runEnd {Q : Option Sre.M → Shared → Prop} {m m' : Sre.M} {B : Nat} {res : Option (Nat × Nat)} (hr : RunTo m B m') (hB : B < 2 ^ 60) (hs : Says m' res)
    (h0 : res = none → Q none s) (h1 : ∀ b e, res = some (b, e) → m'.start = b → m'.handed = e → Q (some m') s) : wpAny (model prog w) A (reRunToEnd m) Q E s := by
  obtain ⟨k, hk, e⟩ := hr
  unfold reRunToEnd
  refine wpAny_bind (drive (says_some hs) ?_ (2 ^ 64) k m e (by omega))
  refine wpAny_bind (wpAny_mono (wpAny_forIn_list _ (fun _ _ s' => s' = s) (fun _ s' => s' = s) ?_ (fun _ _ h => h) _ _ rfl) (fun _ s' hs' => ?_) fun _ _ x => x)
  · rintro i rest b s' rfl
    by_cases hi : m'.seen.has i = true
    · simp only [hi, if_true]
      exact wpAny_bind (wpAny_rule (wpAny_pure rfl))
    · simp only [hi]
      exact wpAny_pure rfl
  · subst hs'
    cases res with
    | none => rw [show m'.outcome = some .failed from hs]; exact wpAny_pure (h0 rfl)
    | some p => rw [show m'.outcome = some .matched from hs.1]; exact wpAny_pure (h1 p.1 p.2 rfl hs.2.1 hs.2.2)
def subTexts (find : Nat → Option (Nat × Nat)) (x r : Str) : Nat → Nat → Option (List Str)
  | 0, _ => none
  | f + 1, a => match find a with
    | none => some (if a < x.cps.size then [⟨x.cps.extract a x.cps.size⟩] else [])
    | some (b, e) => (subTexts find x r f e).map fun rest => (if a < b then [⟨x.cps.extract a b⟩] else []) ++ r :: rest
/-- the pieces as they lie -/
def PcAt (h : Heap) (l : Addr) (ps : List (Str × Tok)) : Prop := ∃ o n, h.get? l = some o ∧ o.cls = .type "list" ∧ o.data = .seq (strValues ps).toArray n
theorem PcAt.isList {h : Heap} {l : Addr} {ps : List (Str × Tok)} (x : PcAt h l ps) : h.IsList l (strValues ps).toArray := let ⟨o, n, a, b, c⟩ := x; ⟨o, a, b, n, c⟩
theorem strValues_push (ps : List (Str × Tok)) (y : Str) (t : Tok) : (strValues ps).toArray.push (.str y t) = (strValues (ps ++ [(y, t)])).toArray := by simp [strValues]
theorem updPush {Q : Unit → Shared → Prop} {l : Addr} {ps : List (Str × Tok)} {y : Str} {t : Tok} (hl : PcAt s.heap l ps) (hz : ps.length < sizeLine)
    (h : ∀ h', PcAt h' l (ps ++ [(y, t)]) → (∀ b o, b ≠ l → s.heap.get? b = some o → h'.get? b = some o) → h'.objs.size = s.heap.objs.size → Q () { s with heap := h' }) :
    wpAny (model prog w) A (updateSeq l (·.push (.str y t))) Q E s := by
  obtain ⟨o, n, a, b, c⟩ := hl
  refine wpAny_updateSeq a c (h _ ?_ (fun b' o' hb e => (Heap.get?_update_ne _ _ _ _ hb).trans e) ?_) (by simp [strValues]; omega) (by simp [strValues]; omega)
  · obtain ⟨oc, od, dt, sl⟩ := o
    dsimp only at b c
    subst b c
    unfold PcAt
    rw [← strValues_push]
    exact ⟨_, _, Heap.get?_update_self _ a rfl, rfl, rfl⟩
  · exact Heap.size_update ..
theorem reSlice_ok {Q : Value → Shared → Prop} {b e : Nat} (hx : x.cps.size ≤ sizeLine) (h : Q (.str ⟨x.cps.extract b e⟩ s.toks) { s with toks := s.toks + 1 }) : wpAny (model prog w) A (reSlice x.cps 0 b e) Q E s := by
  show wpAny _ _ (mkStr ⟨x.cps.extract b e⟩) _ _ _
  refine wpAny_mkStr h ?_
  show (x.cps.extract b e).size ≤ sizeLine
  rw [Array.size_extract]; omega
abbrev loopArgs (P : Addr) (x : Str) (tx : Tok) (r : Str) (tr : Tok) (n : Int) (a : Nat) (l : Addr) : Args :=
  ⟨[.ref P, .str x tx, .str r tr, rawInt 0, rawInt 0, rawInt n, rawInt a, rawInt a, .bool false, .ref l, .bool false], []⟩
theorem subTail {l : Addr} {n : Int} {ps : List (Str × Tok)} {R : Result → Shared → Prop} (hx : x.cps.size ≤ sizeLine) (hl : PcAt s.heap l ps) (hj : JoinOk ⟨#[]⟩ (ps.map (·.1)) = true)
    (hR : ∀ t tk', R (.ok (.ret (.str (Txt.join ⟨#[]⟩ (ps.map (·.1))) t))) { s with toks := tk' }) :
    wpAny (model prog w) A.in1 (do
      let joiner ← reSlice x.cps 0 0 0
      let text ← if ((← seqItems? (.ref l)).getD #[]).isEmpty then pure joiner else call (.builtin (if (0 : Nat) == 0 then "str.join" else "bytes.join")) [joiner, .ref l]
      if false then ret (← holding [text] do newTuple [text, ← mkInt n]) else ret text)
      (fun fin s' => match fin with
        | .done f => R (.ok f) s'
        | .again c' => c'.quiet = true ∧ codeAny (model prog w) A c' R s') (fun e s' => R (.error e) s') s := by
  refine wpAny_bind (reSlice_ok hx ?_)
  obtain ⟨o, m, e1, e2, e3⟩ := id hl
  refine wpAny_bind (wpAny_seqItems e1 e3 ?_)
  have hem : (⟨x.cps.extract 0 0⟩ : Str) = ⟨#[]⟩ := by simp
  rw [hem]
  cases ps with
  | nil =>
    show wpAny _ _ (pure (Value.str ⟨#[]⟩ s.toks) >>= fun text => ret text) _ _ _
    refine wpAny_bind (wpAny_pure (wpAny_pure ?_))
    exact hR _ _
  | cons p ps =>
    show wpAny _ _ (call (.builtin "str.join") [Value.str ⟨#[]⟩ s.toks, .ref l] >>= fun text => ret text) _ _ _
    refine wpAny_bind (SC.join (s := { s with toks := s.toks + 1 }) hl.isList rfl hj fun t k => wpAny_pure ?_)
    exact hR _ _
theorem subLoop {find : Nat → Option (Nat × Nat)} {B : Nat} {l : Addr} (hB : B < 2 ^ 60) (hx : x.cps.size ≤ sizeLine)
    (hfind : ∀ a, a ≤ x.cps.size → ∃ m', RunTo (Sre.forSearch code x.cps 0 a x.cps.size false) B m' ∧ Says m' (find a))
    (hprog : ∀ a b e, find a = some (b, e) → b < e ∧ e ≤ x.cps.size) :
    ∀ (f a : Nat) (n : Int) (ps : List (Str × Tok)) (texts : List Str) (s : Shared) (R : Result → Shared → Prop), subTexts find x r f a = some texts → a ≤ x.cps.size → PatAt s.heap P code → PcAt s.heap l ps → ps.length + 2 * f < sizeLine →
      JoinOk ⟨#[]⟩ (ps.map (·.1) ++ texts) = true →
      (∀ t h' tk', (∀ b o, b ≠ l → s.heap.get? b = some o → h'.get? b = some o) → s.heap.objs.size ≤ h'.objs.size → R (.ok (.ret (.str (Txt.join ⟨#[]⟩ (ps.map (·.1) ++ texts)) t))) { s with heap := h', toks := tk' }) →
      codeAny (model prog w) A (.builtin "re.Pattern.sub.loop" (loopArgs P x tx r tr n a l)) R s := by
  intro f
  induction f with
  | zero => intro a n ps texts s R h; cases h
  | succ f ih =>
    intro a n ps texts s R hsub ha hP hl hz hj hR
    refine codeAny_builtin entry_re_loop ?_
    rw [Around.under_plainId plain_re_loop]
    unfold «re.Pattern.sub.loop»
    dsimp only [rawInt]
    refine wpAny_bind (wholeTarget hP ?_)
    obtain ⟨m', hrun, hsay⟩ := hfind a ha
    dsimp only
    rw [if_pos (by rfl)]
    refine wpAny_bind (wpAny_of_eq (a := ()) rfl ?_)
    refine wpAny_bind ?_
    rw [if_neg (by simp)]
    rw [Int.toNat_natCast]
    unfold subTexts at hsub
    refine runEnd hrun hB hsay (fun hn => ?_) (fun b e hs hb he => ?_)
    · dsimp only
      rw [hn] at hsub
      obtain rfl := Option.some.inj hsub
      by_cases hab : a < x.cps.size
      · rw [if_pos hab] at hj hR ⊢
        refine wpAny_bind (reSlice_ok hx (wpAny_bind (updPush hl (by omega) fun h' hp hk hsz => ?_)))
        refine subTail hx hp (by simpa using hj) fun t tk' => ?_
        have := hR t h' tk' hk (Nat.le_of_eq hsz.symm)
        simpa using this
      · rw [if_neg hab] at hj hR ⊢
        refine subTail hx hl (by simpa using hj) fun t tk' => ?_
        have := hR t s.heap tk' (fun _ _ _ e => e) (Nat.le_refl _)
        simpa using this
    · dsimp only
      obtain ⟨hbe, hel⟩ := hprog _ _ _ hs
      rw [hs] at hsub
      dsimp only at hsub
      obtain ⟨rest, hrest, rfl⟩ := Option.map_eq_some_iff.mp hsub
      subst hb he
      have must : (m'.handed == m'.start) = false := by simp; omega
      have isL : ∀ {h : Heap} {qs : List (Str × Tok)}, PcAt h l qs → ∃ o, h.get? l = some o ∧ o.cls = .type "list" := fun z => let ⟨o, _, e1, e2, _⟩ := z; ⟨o, e1, e2⟩
      have goOn : ∀ (s1 : Shared) (qs : List (Str × Tok)), PatAt s1.heap P code → PcAt s1.heap l qs → qs.length ≤ ps.length + 1 → JoinOk ⟨#[]⟩ (qs.map (·.1) ++ r :: rest) = true →
          (∀ t h' tk', (∀ b o, b ≠ l → s1.heap.get? b = some o → h'.get? b = some o) → s1.heap.objs.size ≤ h'.objs.size → R (.ok (.ret (.str (Txt.join ⟨#[]⟩ (qs.map (·.1) ++ r :: rest)) t))) { s1 with heap := h', toks := tk' }) →
          wpAny (model prog w) A.in1 (do
            updateSeq l fun z => z.push (.str r tr)
            again (.builtin "re.Pattern.sub.loop" ⟨[.ref P, .str x tx, .str r tr, .int 0 0, .int 0 0, .int (n + 1) 0, .int (m'.handed : Nat) 0, .int (m'.handed : Nat) 0, .bool (m'.handed == m'.start), .ref l, .bool false], []⟩))
            (fun fin s' => match fin with
              | .done f => R (.ok f) s'
              | .again c' => c'.quiet = true ∧ codeAny (model prog w) A c' R s') (fun e s' => R (.error e) s') s1 := by
        intro s1 qs hP1 hl1 hq1 hj1 hR1
        refine wpAny_bind (updPush hl1 (by omega) fun h' hp hk hsz => wpAny_pure ?_)
        rw [must]
        refine ⟨plainId_quiet plain_re_loop _, ih m'.handed (n + 1) (qs ++ [(r, tr)]) rest _ R hrest hel (hP1.keepsBut (isL hl1) hk) hp (by simp; omega) (by simpa using hj1) fun t h'' tk' hk' hs' => ?_⟩
        have := hR1 t h'' tk' (fun b o hb e => hk' b o hb (hk b o hb e)) (Nat.le_trans (Nat.le_of_eq hsz.symm) hs')
        simpa using this
      by_cases hab : a < m'.start
      · rw [if_pos hab] at hj hR ⊢
        refine wpAny_bind (reSlice_ok hx (wpAny_bind (updPush hl (by omega) fun h' hp hk hsz => ?_)))
        refine goOn _ _ (hP.keepsBut (isL hl) hk) hp (by simp) (by simpa using hj) fun t h'' tk' hk' hs' => ?_
        have := hR t h'' tk' (fun b o hb e => hk' b o hb (hk b o hb e)) (Nat.le_trans (Nat.le_of_eq hsz.symm) hs')
        simpa using this
      · rw [if_neg hab] at hj hR ⊢
        refine goOn _ _ hP hl (by omega) (by simpa using hj) fun t h'' tk' hk' hs' => ?_
        have := hR t h'' tk' hk' hs'
        simpa using this
theorem subCall {find : Nat → Option (Nat × Nat)} {B f : Nat} {texts : List Str} {Q : Value → Shared → Prop} (hB : B < 2 ^ 60) (hx : x.cps.size ≤ sizeLine) (hP : PatAt s.heap P code) (hr : r.cps.contains 92 = false)
    (hfind : ∀ a, a ≤ x.cps.size → ∃ m', RunTo (Sre.forSearch code x.cps 0 a x.cps.size false) B m' ∧ Says m' (find a))
    (hprog : ∀ a b e, find a = some (b, e) → b < e ∧ e ≤ x.cps.size) (hsub : subTexts find x r f 0 = some texts) (hf : 2 * f < sizeLine) (hj : JoinOk ⟨#[]⟩ texts = true)
    (hQ : ∀ t h' tk', (∀ b o, s.heap.get? b = some o → h'.get? b = some o) → Q (.str (Txt.join ⟨#[]⟩ texts) t) { s with heap := h', toks := tk' }) :
    wpAny (model prog w) A (call (.builtin "re.Pattern.sub") [.ref P, .str r tr, .str x tx]) Q E s := by
  have hT : s.TypeIs (.ref P) "re.Pattern" := let ⟨o, _, _, _, _, a, b, _⟩ := hP; ⟨o, a, b⟩
  refine wpAny_call (codeAny_call_builtin slot_re_sub.plain entry_re_sub (slot_re_sub.check _ _ _ _ _ _ _ _ hT (args_re_sub _ _ _) ?_))
  unfold «re.Pattern.sub» reSubstitute
  dsimp only
  refine wpAny_bind (wpAny_of_eq (a := [some (.str r tr), some (.str x tx), none]) rfl ?_)
  dsimp only
  refine wpAny_bind (wpAny_pure ?_)
  refine wpAny_bind (wpAny_specialOf (typeIs_str _ _ _) str_no_call ?_)
  dsimp only [Option.isSome]
  rw [if_neg (by simp)]
  refine wpAny_bind (wpAny_of_eq (a := some r) rfl ?_)
  dsimp only
  refine wpAny_bind (wpAny_pure ?_)
  rw [if_neg (by simp), hr]
  rw [if_pos (by rfl)]
  refine wpAny_bind (wpAny_pure ?_)
  dsimp only
  refine wpAny_bind (wpAny_holding (wholeTarget hP ?_))
  rw [if_neg (by simp)]
  refine wpAny_bind (wpAny_newList ?_)
  refine wpAny_pure ⟨plainId_quiet plain_re_loop _, ?_⟩
  have hk : ∀ b o, s.heap.get? b = some o → (s.heap.push { cls := .type "list", data := .seq ([] : List Value).toArray }).get? b = some o := fun b o e => Heap.get?_push_of_some _ e
  refine subLoop hB hx hfind hprog f 0 0 [] texts _ _ hsub (Nat.zero_le _) (hP.keeps hk) ⟨_, _, Heap.get?_push_size _ rfl, rfl, rfl⟩ (by simpa using hf) (by simpa using hj) fun t h' tk' hk' hs' => ?_
  refine hQ t h' tk' fun b o e => hk' b o (Nat.ne_of_lt (Heap.lt_size e)) (hk b o e)
end
end Mine
end
section
namespace Mine
open PySem
def T (o z l : Int) : Str := Txt.mul (Str.ofString "# ") o ++ Txt.mul (Str.ofString ".") (1 + l) ++ (if z > 0 then Str.ofString "\r\n" else Str.ofString "\n") ++ Txt.mul (Str.ofString ".") (1 + z)
def f1 (x : Str) (a : Nat) : Option (Nat × Nat) := (find1 x.cps (x.cps.size - a) a).map fun q => (q, q + 1)
def f2 (x : Str) (a : Nat) : Option (Nat × Nat) := find2 x.cps (x.cps.size - a) a
theorem getD_drop (text : Array Nat) (p : Nat) : text.getD p 0 = (text.toList.drop p).headD 0 := by
  rw [Array.getD_eq_getD_getElem?, ← Array.getElem?_toList, List.headD_eq_head?_getD, List.head?_drop]
def nlL : List Nat → Nat → Option Nat
  | [], _ => none
  | c :: r, p => if (c == 10) = true then some p else if (c == 13) = true then some p else nlL r (p + 1)
theorem nl_eq (text : Array Nat) : ∀ d p, p + d = text.size → nl text d p = nlL (text.toList.drop p) p
  | 0, p, h => by rw [List.drop_eq_nil_of_le (by simp; omega)]; rfl
  | d + 1, p, h => by
    have hp : p < text.toList.length := by simp; omega
    rw [List.drop_eq_getElem_cons hp]
    have e : text.getD p 0 = text.toList[p] := by rw [getD_drop, List.drop_eq_getElem_cons hp]; rfl
    unfold nl nlL
    rw [e, nl_eq text d (p + 1) (by omega)]
def find1L : Bool → List Nat → Nat → Option Nat
  | _, [], _ => none
  | b, c :: r, p => if b = true ∧ (c == 46) = true then some p else find1L (c == 10) r (p + 1)
theorem find1_eq (text : Array Nat) : ∀ d p, p + d = text.size → find1 text d p = find1L (p == 0 || text.getD (p - 1) 0 == 10) (text.toList.drop p) p
  | 0, p, h => by rw [List.drop_eq_nil_of_le (by simp; omega)]; rfl
  | d + 1, p, h => by
    have hp : p < text.toList.length := by simp; omega
    rw [List.drop_eq_getElem_cons hp]
    have e : text.getD p 0 = text.toList[p] := by rw [getD_drop, List.drop_eq_getElem_cons hp]; rfl
    unfold find1 find1L
    rw [find1_eq text d (p + 1) (by omega)]
    have e2 : (p + 1 == 0 || text.getD (p + 1 - 1) 0 == 10) = (text.toList[p] == 10) := by rw [Nat.add_sub_cancel, e]; simp
    rw [e2, e]
def fL1 (xs : List Nat) (a : Nat) : Option (Nat × Nat) := (find1L (a == 0 || (xs.drop (a - 1)).headD 0 == 10) (xs.drop a) a).map fun q => (q, q + 1)
def fL2 (xs : List Nat) (a : Nat) : Option (Nat × Nat) := (nlL (xs.drop a) a).map fun q => (q, if ((xs.drop q).headD 0 == 10) = true then q + 1 else q + 2)
theorem f1_eq (x : Str) {a : Nat} (h : a ≤ x.cps.size) : f1 x a = fL1 x.cps.toList a := by
  unfold f1 fL1; rw [find1_eq _ _ _ (by omega), getD_drop]
theorem f2_eq (x : Str) {a : Nat} (h : a ≤ x.cps.size) : f2 x a = fL2 x.cps.toList a := by
  unfold f2 fL2 find2
  rw [nl_eq _ _ _ (by omega)]
  congr 1
  funext q
  rw [getD_drop]
def subL (find : Nat → Option (Nat × Nat)) (xs r : List Nat) : Nat → Nat → Option (List Nat)
  | 0, _ => none
  | f + 1, a => match find a with
    | none => some (xs.drop a)
    | some (b, e) => if a ≤ b ∧ b < e ∧ e ≤ xs.length then (subL find xs r f e).map fun rest => (xs.drop a).take (b - a) ++ r ++ rest else none
theorem subL_spec {find find' : Nat → Option (Nat × Nat)} {x r : Str} (hf : ∀ a, a ≤ x.cps.size → find a = find' a) : ∀ (f a : Nat) (out : List Nat), a ≤ x.cps.size → subL find' x.cps.toList r.cps.toList f a = some out →
    ∃ texts, subTexts find x r f a = some texts ∧ (texts.map fun t => t.cps.toList).flatten = out
  | 0, _, _, _, h => by cases h
  | f + 1, a, out, ha, h => by
    unfold subL at h
    unfold subTexts
    rw [hf a ha]
    cases hq : find' a with
    | none =>
      rw [hq] at h
      dsimp only at h ⊢
      refine ⟨_, rfl, ?_⟩
      rw [← Option.some.inj h]
      by_cases hl : a < x.cps.size
      · rw [if_pos hl]
        simp only [List.map_cons, List.map_nil, List.flatten_cons, List.flatten_nil, List.append_nil, Array.toList_extract]
        simp [List.extract_eq_take_drop]
        rw [List.take_of_length_le (by simp)]
      · rw [if_neg hl, List.drop_eq_nil_of_le (by simp; omega)]; rfl
    | some p =>
      obtain ⟨b, e⟩ := p
      rw [hq] at h
      dsimp only at h ⊢
      by_cases hc : a ≤ b ∧ b < e ∧ e ≤ x.cps.toList.length
      · rw [if_pos hc] at h
        obtain ⟨rest, hr, rfl⟩ := Option.map_eq_some_iff.mp h
        obtain ⟨texts, h1, h2⟩ := subL_spec hf f e rest (by have := hc.2.2; simp at this; exact this) hr
        rw [h1]
        refine ⟨_, rfl, ?_⟩
        rw [List.map_append, List.flatten_append, List.map_cons, List.flatten_cons, h2, List.append_assoc]
        congr 1
        by_cases hab : a < b
        · rw [if_pos hab]; simp [Array.toList_extract, List.extract_eq_take_drop]
        · rw [if_neg hab, show b - a = 0 from by omega]; simp
      · rw [if_neg hc] at h; cases h
theorem join_flat : ∀ texts : List Str, (Txt.join ⟨#[]⟩ texts).cps.toList = (texts.map fun t => t.cps.toList).flatten := by
  have go : ∀ (l : List Str) (acc : Array Nat), (l.foldl (fun acc (p : Str) => acc ++ (#[] : Array Nat) ++ p.cps) acc).toList = acc.toList ++ (l.map fun t => t.cps.toList).flatten := by
    intro l
    induction l with
    | nil => intro acc; simp
    | cons t l ih => intro acc; rw [List.foldl_cons, ih]; simp
  intro texts
  cases texts with
  | nil => rfl
  | cons t l =>
    show ((l.foldl (fun acc (p : Str) => acc ++ (#[] : Array Nat) ++ p.cps) t.cps)).toList = _
    rw [go]; rfl
/-- the kernel works a list out once -/
def force {α : Type} : List Nat → (List Nat → α) → α
  | [], k => k []
  | a :: r, k => force r fun l => k (a :: l)
theorem force_eq {α : Type} : ∀ (l : List Nat) (k : List Nat → α), force l k = k l
  | [], _ => rfl
  | _ :: r, _ => force_eq r _
def hOkL : List Nat → Bool
  | [] => true
  | c :: r => (c != 13 || (r.headD 0 == 10)) && hOkL r
def quoF (xs ys : List Nat) : Bool := force xs fun xs => hOkL xs && decide (xs.length ≤ 500) && match subL (fL2 xs) xs [13, 10] 4 0 with
  | some ws => force ws fun ws => decide (ws.length ≤ 500) && (match subL (fL1 ws) ws [46, 46] 4 0 with
    | some vs => vs == ys
    | none => false)
  | none => false
def rep (x : List Nat) : Nat → List Nat
  | 0 => []
  | n + 1 => x ++ rep x n
def TL (o z l : Nat) : List Nat := rep [35, 32] o ++ (rep [46] (1 + l) ++ ((if z > 0 then [13, 10] else [10]) ++ rep [46] (1 + z)))
def quoAll : Bool := (List.range 11).all fun o => (List.range (11 - o)).all fun z => (List.range (z + 1)).all fun l => quoF (TL o z l) (TL o (z + 1) (if o = 0 then l + 1 else l))
set_option maxRecDepth 100000 in
theorem quoAll_true : quoAll = true := by decide +kernel
theorem mul_list (x : Str) (n : Nat) : (Txt.mul x n).cps.toList = rep x.cps.toList n := by
  have go : ∀ (k : Nat) (acc : Array Nat), ((List.replicate k x.cps).foldl (· ++ ·) acc).toList = acc.toList ++ rep x.cps.toList k := by
    intro k
    induction k with
    | zero => intro acc; simp [rep]
    | succ k ih => intro acc; rw [List.replicate_succ, List.foldl_cons, ih]; simp [rep]
  unfold Txt.mul
  cases n with
  | zero => rfl
  | succ n =>
    rw [if_neg (by omega)]
    by_cases h : ((((n + 1 : Nat) : Int) == 1) || x.length == 0) = true
    · rw [if_pos h]
      rw [Bool.or_eq_true] at h
      rcases h with h | h
      · have : n = 0 := by have := beq_iff_eq.mp h; omega
        subst this; simp [rep]
      · have h0 : x.cps.toList = [] := by
          have : x.cps.size = 0 := beq_iff_eq.mp h
          exact List.eq_nil_of_length_eq_zero (by simpa using this)
        have : ∀ k, rep ([] : List Nat) k = [] := by intro k; induction k with
          | zero => rfl
          | succ k ih => simp [rep, ih]
        rw [h0, this]
    · rw [if_neg h]
      show ((List.replicate (n + 1) x.cps).foldl (· ++ ·) #[]).toList = _
      rw [go]; simp
theorem T_list (o z l : Nat) : (T o z l).cps.toList = TL o z l := by
  unfold T TL
  have e : ∀ a b : Str, (a ++ b).cps.toList = a.cps.toList ++ b.cps.toList := fun a b => by rw [Str.cps_append]; simp
  rw [e, e, e, mul_list, show (1 + (l : Int)) = ((1 + l : Nat) : Int) from by omega, show (1 + (z : Int)) = ((1 + z : Nat) : Int) from by omega, mul_list, mul_list]
  rw [show (Str.ofString "# ").cps.toList = [35, 32] from by decide +kernel, show (Str.ofString ".").cps.toList = [46] from by decide +kernel]
  by_cases hz : z > 0
  · rw [if_pos hz, if_pos (by omega), show (Str.ofString "\r\n").cps.toList = [13, 10] from by decide +kernel]; simp
  · rw [if_neg hz, if_neg (by omega), show (Str.ofString "\n").cps.toList = [10] from by decide +kernel]; simp
theorem find1_le {text : Array Nat} : ∀ {d p q : Nat}, find1 text d p = some q → p ≤ q ∧ q < p + d
  | 0, _, _, h => by cases h
  | d + 1, p, q, h => by
    unfold find1 at h
    split at h
    · cases h; omega
    · have := find1_le h; omega
end Mine
end
section
open PySem PySem.W PyProof.Rows
namespace Mine
set_option maxRecDepth 100000 in
set_option maxHeartbeats 8000000 in
open_top hd for PySem.Challenge.rw_pe0122_01
end Mine
end
section
open PySem PySem.W PyProof.Rows
namespace Mine
theorem hOkL_of : ∀ {xs : List Nat}, hOkL xs = true → ∀ q, q < xs.length → (xs.drop q).headD 0 = 13 → q + 1 < xs.length ∧ (xs.drop (q + 1)).headD 0 = 10
  | [], _, q, h, _ => absurd h (Nat.not_lt_zero _)
  | c :: r, h, 0, _, e => by
    unfold hOkL at h
    rw [Bool.and_eq_true, Bool.or_eq_true] at h
    have e' : c = 13 := e
    have h1 : (r.headD 0 == 10) = true := by
      rcases h.1 with q | q
      · rw [e'] at q; exact absurd q (by decide)
      · exact q
    have h2 : r.headD 0 = 10 := beq_iff_eq.mp h1
    refine ⟨?_, by simpa using h2⟩
    cases r with
    | nil => cases h2
    | cons _ _ => simp
  | c :: r, h, q + 1, hq, e => by
    unfold hOkL at h
    rw [Bool.and_eq_true] at h
    have := hOkL_of h.2 q (by simpa using hq) (by simpa using e)
    exact ⟨by simpa using this.1, by simpa using this.2⟩
theorem joinOk_of {texts : List Str} (h : ((texts.map fun t => t.cps.toList).flatten).length ≤ 1000) : JoinOk ⟨#[]⟩ texts = true := by
  have go : ∀ (l : List Str) (n : Nat), l.foldl (fun a (t : Str) => a + t.length + (⟨#[]⟩ : Str).length) n = n + ((l.map fun t => t.cps.toList).flatten).length := by
    intro l
    induction l with
    | nil => intro n; simp
    | cons t l ih =>
      intro n
      rw [List.foldl_cons, ih, List.map_cons, List.flatten_cons, List.length_append]
      have q : t.cps.toList.length = t.cps.size := Array.length_toList
      show n + t.cps.size + 0 + _ = _
      omega
  unfold JoinOk
  have e : texts.toArray.foldl (fun a (t : Str) => a + t.length + (⟨#[]⟩ : Str).length) 0 = ((texts.map fun t => t.cps.toList).flatten).length := by
    rw [List.foldl_toArray, go]; omega
  rw [e]
  show (!decide (((texts.map fun t => t.cps.toList).flatten).length > 16777216)) = true
  rw [Bool.not_eq_true', decide_eq_false_iff_not]; omega
section
variable {prog : Program} {w : World} {A : Around} {E : Value → Shared → Prop} {s : Shared} {P : Addr} {x : Str} {tx tr : Tok} {Q : Value → Shared → Prop} {ws : List Nat}
theorem sub2Call (hP : PatAt s.heap P c2) (hx : x.cps.size ≤ 500) (hok : hOkL x.cps.toList = true) (hs : subL (fL2 x.cps.toList) x.cps.toList [13, 10] 4 0 = some ws) (hw : ws.length ≤ 500)
    (hQ : ∀ t h' tk', (∀ b o, s.heap.get? b = some o → h'.get? b = some o) → Q (.str ⟨⟨ws⟩⟩ t) { s with heap := h', toks := tk' }) :
    wpAny (model prog w) A (call (.builtin "re.Pattern.sub") [.ref P, .str (Str.ofString "\r\n") tr, .str x tx]) Q E s := by
  have hr : (Str.ofString "\r\n").cps.toList = [13, 10] := by decide +kernel
  rw [← hr] at hs
  obtain ⟨texts, h1, h2⟩ := subL_spec (fun a ha => f2_eq x ha) 4 0 ws (Nat.zero_le _) hs
  have H := hOkL_of hok
  have hf := fun a (ha : a ≤ x.cps.size) => two_search x.cps a ha (fun q hq e => by
    rw [getD_drop] at e ⊢
    have := H q (by simpa using hq) e
    exact ⟨by simpa using this.1, this.2⟩)
  refine subCall (B := 6 * x.cps.size + 12) (f := 4) (by omega) (by rw [sizeLine_eq]; omega) hP (by decide +kernel) hf (fun a b e he => ?_) h1 (by rw [sizeLine_eq]; omega) (joinOk_of (by rw [h2]; omega)) fun t h' tk' hk => ?_
  · unfold f2 find2 at he
    obtain ⟨q, hq, e2⟩ := Option.map_eq_some_iff.mp he
    obtain ⟨a1, a2, a3⟩ := nl_lt hq
    have hq' : q < x.cps.size := by
      by_cases ha : a ≤ x.cps.size
      · omega
      · omega
    rcases a3 with a3 | a3
    · rw [if_pos (by rw [a3]; rfl)] at e2; cases e2; omega
    · have h13 := (H q (by simpa using hq') (by rw [← getD_drop]; exact a3)).1
      rw [Array.length_toList] at h13
      rw [if_neg (by rw [a3]; decide)] at e2; cases e2
      omega
  · have e : Txt.join ⟨#[]⟩ texts = (⟨⟨ws⟩⟩ : Str) := Str.ext' (Array.toList_inj.mp (by rw [join_flat, h2]))
    rw [e]
    exact hQ t h' tk' hk
theorem sub1Call (hP : PatAt s.heap P c1) (hx : x.cps.size ≤ 500) (hs : subL (fL1 x.cps.toList) x.cps.toList [46, 46] 4 0 = some ws) (hw : ws.length ≤ 500)
    (hQ : ∀ t h' tk', (∀ b o, s.heap.get? b = some o → h'.get? b = some o) → Q (.str ⟨⟨ws⟩⟩ t) { s with heap := h', toks := tk' }) :
    wpAny (model prog w) A (call (.builtin "re.Pattern.sub") [.ref P, .str (Str.ofString "..") tr, .str x tx]) Q E s := by
  have hr : (Str.ofString "..").cps.toList = [46, 46] := by decide +kernel
  rw [← hr] at hs
  obtain ⟨texts, h1, h2⟩ := subL_spec (fun a ha => f1_eq x ha) 4 0 ws (Nat.zero_le _) hs
  have hf := fun a (ha : a ≤ x.cps.size) => one_search x.cps a ha
  refine subCall (B := 6 * x.cps.size + 12) (f := 4) (by omega) (by rw [sizeLine_eq]; omega) hP (by decide +kernel) hf (fun a b e he => ?_) h1 (by rw [sizeLine_eq]; omega) (joinOk_of (by rw [h2]; omega)) fun t h' tk' hk => ?_
  · unfold f1 at he
    obtain ⟨q, hq, e2⟩ := Option.map_eq_some_iff.mp he
    have := find1_le hq
    cases e2
    omega
  · have e : Txt.join ⟨#[]⟩ texts = (⟨⟨ws⟩⟩ : Str) := Str.ext' (Array.toList_inj.mp (by rw [join_flat, h2]))
    rw [e]
    exact hQ t h' tk' hk
end
theorem pat1 {p : Params} {h : Heap} (X : (hd.heap_39 p).In h) : PatAt h 85 c1 := ⟨_, _, 84, _, 0, X 85 _ rfl, rfl, rfl, rfl, rfl, rfl, rfl, X 84 _ rfl, by unfold c1; simp, rfl⟩
theorem pat2 {p : Params} {h : Heap} (X : (hd.heap_39 p).In h) : PatAt h 90 c2 := ⟨_, _, 89, _, 0, X 90 _ rfl, rfl, rfl, rfl, rfl, rfl, rfl, X 89 _ rfl, by unfold c2; simp, rfl⟩
end Mine
end
section
open PySem PySem.W PyProof.Rows
namespace Mine
theorem quo_facts {o z l : Nat} (h : o + z ≤ 10) (hl : l ≤ z) : ∃ ws, hOkL (T o z l).cps.toList = true ∧ (T o z l).cps.size ≤ 500 ∧ subL (fL2 (T o z l).cps.toList) (T o z l).cps.toList [13, 10] 4 0 = some ws ∧ ws.length ≤ 500 ∧
    subL (fL1 ws) ws [46, 46] 4 0 = some (T o ((z + 1 : Nat) : Int) ((if o = 0 then l + 1 else l : Nat) : Int)).cps.toList := by
  have q := quoAll_true
  unfold quoAll at q
  have q := List.all_eq_true.mp (List.all_eq_true.mp (List.all_eq_true.mp q o (List.mem_range.mpr (by omega))) z (List.mem_range.mpr (by omega))) l (List.mem_range.mpr (by omega))
  unfold quoF at q
  rw [force_eq, Bool.and_eq_true, Bool.and_eq_true] at q
  obtain ⟨⟨q1, q2⟩, q3⟩ := q
  rw [T_list, T_list]
  cases hs : subL (fL2 (TL o z l)) (TL o z l) [13, 10] 4 0 with
  | none => rw [hs] at q3; cases q3
  | some ws =>
    rw [hs] at q3
    dsimp only at q3
    rw [force_eq, Bool.and_eq_true] at q3
    refine ⟨ws, q1, ?_, rfl, of_decide_eq_true q3.1, ?_⟩
    · have := of_decide_eq_true q2
      rw [← T_list, Array.length_toList] at this
      exact this
    · have q4 := q3.2
      revert q4
      cases subL (fL1 ws) ws [46, 46] 4 0 with
      | none => intro e; cases e
      | some vs => intro e; rw [beq_iff_eq.mp e]
theorem T_size {o z l : Nat} (h : o + z ≤ 20) (hl : l ≤ 20) : (T o z l).cps.size ≤ 500 := by
  rw [← Array.length_toList, T_list]
  have e : ∀ (x : List Nat) (n : Nat), (rep x n).length = n * x.length := by
    intro x n
    induction n with
    | zero => simp [rep]
    | succ n ih => rw [rep, List.length_append, ih, Nat.succ_mul]; omega
  unfold TL
  simp only [List.length_append, e, List.length_cons, List.length_nil]
  split <;> simp <;> omega
section
variable {prog : Program} {w : World} {A : Around} {E : Value → Shared → Prop} {s : Shared} {x : Str} {tx tr : Tok} {ws : List Nat} {h₀ : Heap} {L : Addr} {m : Str → Option Value} {news : List (Addr × Obj)} {p : Params}
theorem getMethod_re1 {pl : Sem Bool} {Q : Value × List Value → Shared → Prop} (F : Fr h₀ L s.heap m) (X : (hd.heap_39 p).In h₀) (h : Q (.builtin "re.Pattern.sub", [.ref 85]) s) : wpAny (model prog w) A (getMethod (.ref 85) (Str.ofString "sub") pl) Q E s := by
  obtain ⟨o, vs, C, oc, n, a, b, c, _⟩ := (pat1 X).keeps F.keep
  exact getMethod_builtin ⟨o, a, b⟩ plainAttrs_re slot_re_sub type_re_sub (fun q e => by cases e; exact ⟨o, a, c⟩) h
theorem getMethod_re2 {pl : Sem Bool} {Q : Value × List Value → Shared → Prop} (F : Fr h₀ L s.heap m) (X : (hd.heap_39 p).In h₀) (h : Q (.builtin "re.Pattern.sub", [.ref 90]) s) : wpAny (model prog w) A (getMethod (.ref 90) (Str.ofString "sub") pl) Q E s := by
  obtain ⟨o, vs, C, oc, n, a, b, c, _⟩ := (pat2 X).keeps F.keep
  exact getMethod_builtin ⟨o, a, b⟩ plainAttrs_re slot_re_sub type_re_sub (fun q e => by cases e; exact ⟨o, a, c⟩) h
theorem sub2K {Q : Value → Shared → Prop} (F : Fr h₀ L s.heap m) (N : News h₀ L s.heap news) (X : (hd.heap_39 p).In h₀) (hok : hOkL x.cps.toList = true) (hx : x.cps.size ≤ 500) (hs : subL (fL2 x.cps.toList) x.cps.toList [13, 10] 4 0 = some ws) (hw : ws.length ≤ 500)
    (h : ∀ t h' tk', Fr h₀ L h' m → News h₀ L h' news → Q (.str ⟨⟨ws⟩⟩ t) { s with heap := h', toks := tk' }) :
    wpAny (model prog w) A (call (.builtin "re.Pattern.sub") [.ref 90, .str (Str.ofString "\r\n") tr, .str x tx]) Q E s :=
  sub2Call ((pat2 X).keeps F.keep) hx hok hs hw fun t h' tk' hk => h t h' tk' (F.keeps hk) (N.grown hk)
theorem sub1K {Q : Value → Shared → Prop} {y : Str} (F : Fr h₀ L s.heap m) (N : News h₀ L s.heap news) (X : (hd.heap_39 p).In h₀) (hw : ws.length ≤ 500) (hs : subL (fL1 ws) ws [46, 46] 4 0 = some y.cps.toList) (hy : y.cps.size ≤ 500)
    (h : ∀ t h' tk', Fr h₀ L h' m → News h₀ L h' news → Q (.str y t) { s with heap := h', toks := tk' }) :
    wpAny (model prog w) A (call (.builtin "re.Pattern.sub") [.ref 85, .str (Str.ofString "..") tr, .str ⟨⟨ws⟩⟩ tx]) Q E s :=
  sub1Call (x := ⟨⟨ws⟩⟩) ((pat1 X).keeps F.keep) (by simpa using hw) hs (by simpa using hy) fun t h' tk' hk => h t h' tk' (F.keeps hk) (N.grown hk)
end
local macro_rules | `(tactic| walk_at "getMethod ref") => `(tactic| (k_here; first | refine getMethod_re1 (by k_asm) (by k_asm) ?_ | refine getMethod_re2 (by k_asm) (by k_asm) ?_))
local macro_rules | `(tactic| walk_at "call builtin:re.Pattern.sub") => `(tactic| (k_here; first
  | (refine' sub2K ?k1 ?k2 ?k3 ?a ?b ?c ?d ?_; (case k1 => k_asm); (case k2 => k_asm); (case k3 => k_asm); (case a => assumption); (case c => assumption); (case b => assumption); (case d => assumption); intro t' h' tk' F' N'; (try k_sweep))
  | (refine' sub1K ?k1 ?k2 ?k3 ?a ?b ?c ?_; (case k1 => k_asm); (case k2 => k_asm); (case k3 => k_asm); (case b => assumption); (case a => assumption); (case c => assumption); intro t' h' tk' F' N'; (try k_sweep))))
set_option maxRecDepth 100000 in
set_option maxHeartbeats 8000000 in
theorem quote_c (w : World) (p : Program) (loose : List Str) (mean : ExcName → Option Value) (mg mb : Str → Option Value) (news : List (Addr × Obj)) (o z l : Nat) (hoz : o + z ≤ 10) (hlz : l ≤ z) (tx : Tok) :
  CbClaim Challenge.rw_pe0122_01.row.prog w (hd.heap_39 w.params) p loose mean mg mb 97 news [] True [.str (T o z l) tx] (fun t => .str (T o ((z + 1 : Nat) : Int) ((if o = 0 then l + 1 else l : Nat) : Int)) t) := by
  w_on
  w_strict (
    k_fill
    dsimp only [CbClaim, CbLists, CbRet]
    intros
    rename_i hret
    obtain ⟨ws, q1, q2, q3, q4, q5⟩ := quo_facts hoz hlz
    have q6 : (T o ((z + 1 : Nat) : Int) ((if o = 0 then l + 1 else l : Nat) : Int)).cps.size ≤ 500 := T_size (by omega) (by split <;> omega)
    refine wpAny_call ?_
    k_dflt cell_enter
    k_steps
    all_goals exact hret _ _ _ (by k_asm) (by k_asm))
theorem TL_last (o z l : Nat) : ∃ r, TL o z l = r ++ [46] := by
  have e : ∀ n : Nat, rep [46] (1 + n) = rep [46] n ++ [46] := by
    intro n
    induction n with
    | zero => rfl
    | succ n ih => rw [show 1 + (n + 1) = (1 + n) + 1 from by omega]; show [46] ++ rep [46] (1 + n) = _; rw [ih]; simp [rep]
  unfold TL
  rw [e z]
  exact ⟨rep [35, 32] o ++ (rep [46] (1 + l) ++ ((if z > 0 then [13, 10] else [10]) ++ rep [46] z)), by simp⟩
theorem T_rstrip (o z l : Nat) : Txt.rstrip (T o z l) = T o z l := by
  obtain ⟨r, hr⟩ := TL_last o z l
  rw [← T_list] at hr
  have hs : stripSame Unicode.isSpace false true (T o z l) = true := by
    unfold stripSame stripLo stripHi
    simp only [Bool.false_eq_true, if_false, if_true, List.drop_zero]
    rw [hr, List.reverse_append]
    rw [show ([46] : List Nat).reverse ++ r.reverse = 46 :: r.reverse from rfl, List.takeWhile_cons_of_neg (by decide +kernel)]
    simp
  unfold Txt.rstrip Txt.stripBy
  rw [if_pos hs]
theorem T_more (o z l : Nat) : Str.ofString "# " ++ T o z l = T ((o + 1 : Nat) : Int) z l := by
  refine Str.ext' (Array.toList_inj.mp ?_)
  rw [T_list, Str.cps_append, Array.toList_append, T_list, show (Str.ofString "# ").cps.toList = [35, 32] from by decide +kernel]
  simp [TL, rep]
set_option maxRecDepth 100000 in
set_option maxHeartbeats 8000000 in
theorem comment_c (w : World) (p : Program) (loose : List Str) (mean : ExcName → Option Value) (mg mb : Str → Option Value) (news : List (Addr × Obj)) (o z l : Nat) (hoz : o + z ≤ 10) (hlz : l ≤ z) (tx : Tok) :
  CbClaim Challenge.rw_pe0122_01.row.prog w (hd.heap_39 w.params) p loose mean mg mb 80 news [] True [.str (T o z l) tx] (fun t => .str (T ((o + 1 : Nat) : Int) z l) t) := by
  w_on
  w_strict (
    k_fill
    dsimp only [CbClaim, CbLists, CbRet]
    intros
    rename_i hret
    have q6 : (T o z l).length ≤ 500 := T_size (by omega) (by omega)
    have q7 := T_rstrip o z l
    have q8 : (T o z l).length ≠ 0 := by
      obtain ⟨r, hr⟩ := TL_last o z l
      rw [← T_list] at hr
      show (T o z l).cps.size ≠ 0
      rw [← Array.length_toList, hr]; simp
    refine wpAny_call ?_
    k_dflt cell_enter
    k_steps
    all_goals first
      | (rw [q7, T_more]; exact hret _ _ _ (by k_asm) (by k_asm))
      | (exfalso; rename ((Txt.rstrip (T (o : Int) z l)).length : Int) = 0 => hno; rw [q7] at hno; omega))
end Mine
end
section
namespace Mine
open PySem
/-- the digits of x, k of them, n bits each, the last one with all that is left -/
def dN (n : Nat) : Nat → Nat → List Nat
  | 0, _ => []
  | 1, x => [x]
  | k + 2, x => (x % 2 ^ n) :: dN n (k + 1) (x / 2 ^ n)
def dI (n : Nat) : Nat → Int → List Int
  | 0, _ => []
  | 1, x => [x]
  | k + 2, x => (x % 2 ^ n) :: dI n (k + 1) (x / 2 ^ n)
theorem dI_cast (n : Nat) : ∀ (k m : Nat), dI n k (m : Int) = (dN n k m).map fun (v : Nat) => (v : Int)
  | 0, _ => rfl
  | 1, _ => rfl
  | k + 2, m => by
    show ((m : Int) % 2 ^ n) :: dI n (k + 1) ((m : Int) / 2 ^ n) = ((m % 2 ^ n : Nat) : Int) :: (dN n (k + 1) (m / 2 ^ n)).map fun (v : Nat) => (v : Int)
    rw [← dI_cast n (k + 1)]
    push_cast
    rfl
theorem dN_length (n : Nat) : ∀ (k m : Nat), (dN n k m).length = k
  | 0, _ => rfl
  | 1, _ => rfl
  | k + 2, m => by show (dN n (k + 1) (m / 2 ^ n)).length + 1 = _; rw [dN_length]
theorem dI_length (n : Nat) : ∀ (k : Nat) (m : Int), (dI n k m).length = k
  | 0, _ => rfl
  | 1, _ => rfl
  | k + 2, m => by show (dI n (k + 1) (m / 2 ^ n)).length + 1 = _; rw [dI_length]
theorem dN_split (n k : Nat) (hk : 1 ≤ k) : ∀ (j x : Nat), 1 ≤ j → dN n (j + k) x = dN n j (x % 2 ^ (n * j)) ++ dN n k (x / 2 ^ (n * j))
  | 0, _, h => absurd h (by decide)
  | 1, x, _ => by
    obtain ⟨k, rfl⟩ := Nat.exists_eq_add_of_le' hk
    rw [show 1 + (k + 1) = k + 2 from by omega, Nat.mul_one]
    rfl
  | j + 2, x, _ => by
    have ih := dN_split n k hk (j + 1) (x / 2 ^ n) (by omega)
    rw [show j + 2 + k = (j + k) + 2 from by omega]
    show (x % 2 ^ n) :: dN n (j + k + 1) (x / 2 ^ n) = _
    rw [show j + k + 1 = j + 1 + k from by omega, ih]
    have e1 : 2 ^ (n * (j + 2)) = 2 ^ n * 2 ^ (n * (j + 1)) := by rw [← Nat.pow_add]; congr 1; rw [Nat.mul_add n (j + 1) 1 |> fun h => (show n * (j + 2) = n * (j + 1) + n * 1 from h)]; omega
    show _ = ((x % 2 ^ (n * (j + 2))) % 2 ^ n) :: dN n (j + 1) (x % 2 ^ (n * (j + 2)) / 2 ^ n) ++ _
    rw [e1, Nat.mod_mul_right_div_self, Nat.mod_mul_right_mod, ← Nat.div_div_eq_div_mul]
    rfl
theorem dI_split (n k j : Nat) (x : Int) (hk : 1 ≤ k) (hj : 1 ≤ j) (hx : 0 ≤ x) : dI n (j + k) x = dI n j (x % 2 ^ (n * j)) ++ dI n k (x / 2 ^ (n * j)) := by
  obtain ⟨m, rfl⟩ := Int.eq_ofNat_of_zero_le hx
  have e1 : ((m : Int) % 2 ^ (n * j)) = ((m % 2 ^ (n * j) : Nat) : Int) := by push_cast; rfl
  have e2 : ((m : Int) / 2 ^ (n * j)) = ((m / 2 ^ (n * j) : Nat) : Int) := by push_cast; rfl
  rw [e1, e2, dI_cast, dI_cast, dI_cast, dN_split n k hk j m hj, List.map_append]
/-- the list with its items from lo to hi put anew -/
def put (ns ds : List Int) (lo : Nat) : List Int := ns.take lo ++ ds ++ ns.drop (lo + ds.length)
theorem put_length (ns ds : List Int) (lo : Nat) (h : lo + ds.length ≤ ns.length) : (put ns ds lo).length = ns.length := by
  unfold put; simp; omega
theorem put_one (ns : List Int) (x : Int) (lo : Nat) (h : lo < ns.length) : put ns [x] lo = ns.set lo x := by
  unfold put
  rw [List.set_eq_take_append_cons_drop, if_pos h]
  simp
theorem put_put (ns d1 d2 : List Int) (lo : Nat) (h : lo + d1.length + d2.length ≤ ns.length) : put (put ns d1 lo) d2 (lo + d1.length) = put ns (d1 ++ d2) lo := by
  unfold put
  have h1 : (ns.take lo ++ d1).length = lo + d1.length := by simp; omega
  rw [List.take_append_of_le_length (by omega), List.take_of_length_le (by omega)]
  rw [List.drop_append, List.drop_eq_nil_of_le (by omega), h1, List.nil_append, List.drop_drop]
  simp only [List.length_append, List.append_assoc]
  rw [show lo + d1.length + (lo + d1.length + d2.length - (lo + d1.length)) = lo + (d1.length + d2.length) from by omega]
theorem put_all (ns ds : List Int) (h : ds.length = ns.length) : put ns ds 0 = ds := by
  unfold put; simp [h]
theorem low_and (x k : Nat) : x &&& (x / 2 ^ k * 2 ^ k) = x / 2 ^ k * 2 ^ k := by
  rw [← Nat.shiftRight_eq_div_pow, ← Nat.shiftLeft_eq]
  apply Nat.eq_of_testBit_eq
  intro i
  rw [Nat.testBit_and, Nat.testBit_shiftLeft, Nat.testBit_shiftRight]
  by_cases h : k ≤ i
  · rw [show k + (i - k) = i from by omega]; simp [h]
  · simp [h]
theorem low_or (x k : Nat) : x ||| (x / 2 ^ k * 2 ^ k) = x := by
  rw [← Nat.shiftRight_eq_div_pow, ← Nat.shiftLeft_eq]
  apply Nat.eq_of_testBit_eq
  intro i
  rw [Nat.testBit_or, Nat.testBit_shiftLeft, Nat.testBit_shiftRight]
  by_cases h : k ≤ i
  · rw [show k + (i - k) = i from by omega]; simp
  · simp [h]
theorem bitXor_low (x : Int) (hx : 0 ≤ x) (k : Nat) : Builtin.bitXor x (x / 2 ^ k * 2 ^ k) = x % 2 ^ k := by
  obtain ⟨m, rfl⟩ := Int.eq_ofNat_of_zero_le hx
  have e : ((m : Int) / 2 ^ k * 2 ^ k) = ((m / 2 ^ k * 2 ^ k : Nat) : Int) := by push_cast; rfl
  rw [e]
  have h1 : Builtin.bitOr (m : Int) ((m / 2 ^ k * 2 ^ k : Nat) : Int) = ((m ||| (m / 2 ^ k * 2 ^ k) : Nat) : Int) := by
    have bb : ∀ z : Int, Builtin.bitNot (Builtin.bitNot z) = z := by intro z; unfold Builtin.bitNot; omega
    unfold Builtin.bitOr Builtin.bitAnd
    rw [decide_eq_false (by unfold Builtin.bitNot; omega), decide_eq_false (by unfold Builtin.bitNot; omega)]
    dsimp only
    rw [bb, bb, bb]
    rfl
  have h2 : Builtin.bitAnd (m : Int) ((m / 2 ^ k * 2 ^ k : Nat) : Int) = ((m &&& (m / 2 ^ k * 2 ^ k) : Nat) : Int) := rfl
  unfold Builtin.bitXor
  rw [h1, h2, low_and, low_or, ← e]
  have := Int.emod_add_mul_ediv (m : Int) (2 ^ k)
  rw [Int.mul_comm] at this
  omega
end Mine
end
section
open PySem PySem.W PyProof.Rows
namespace Mine
def TabOK (tabs : List (Addr × Obj)) (P : Addr) (ln co : Nat) (qual : Str) : Prop :=
  (P, tabObj #[]) ∈ tabs ∨ ∃ c oc vs t, (P, tabObj #[rawInt ln, rawInt co, .ref c]) ∈ tabs ∧ (c, oc) ∈ tabs ∧ oc.data = .fields vs ∧ vs[1]? = some (.str qual t)
abbrev q1 : Str := Str.ofString "_int2digits.<locals>.inner"
abbrev q2 : Str := Str.ofString "_digits2int.<locals>.inner"
structure Tabs (tabs : List (Addr × Obj)) : Prop where
  flds : ∀ p ∈ tabs, ∃ vs, p.2.data = .fields vs
  one : TabOK tabs 47 33 4 q1
  two : TabOK tabs 54 48 4 q2
/-- none of these is a table's or a code's -/
def Dis (news tabs : List (Addr × Obj)) : Prop := ∀ p ∈ news, ∀ q ∈ tabs, q.1 ≠ p.1
theorem Dis.nil {tabs : List (Addr × Obj)} : Dis [] tabs := fun _ h => nomatch h
theorem Dis.cons {p : Addr × Obj} {r tabs : List (Addr × Obj)} (h : ∀ q ∈ tabs, q.1 ≠ p.1) (hr : Dis r tabs) : Dis (p :: r) tabs := fun z hz => by
  rcases List.mem_cons.mp hz with rfl | hz
  · exact h
  · exact hr z hz
theorem Dis.head {p : Addr × Obj} {r tabs : List (Addr × Obj)} (h : Dis (p :: r) tabs) : ∀ q ∈ tabs, q.1 ≠ p.1 := h p (.head _)
theorem Dis.tail {p : Addr × Obj} {r tabs : List (Addr × Obj)} (h : Dis (p :: r) tabs) : Dis r tabs := fun z hz => h z (.tail _ hz)
theorem Dis.sub {a b tabs : List (Addr × Obj)} (h : Dis a tabs) (hs : ∀ p ∈ b, p ∈ a) : Dis b tabs := fun z hz => h z (hs z hz)
theorem Dis.of_lt {p : Addr × Obj} {tabs : List (Addr × Obj)} {b : Addr} (h : ∀ q ∈ tabs, q.1 < b) (hp : @LE.le Nat _ b p.1) : ∀ q ∈ tabs, q.1 ≠ p.1 := fun q hq => Nat.ne_of_lt (Nat.lt_of_lt_of_le (h q hq) hp)
/-- one table's other entries when the other one is written -/
theorem tabOK_keep {h₀ h : Heap} {L : Addr} {led tabs : List (Addr × Obj)} {P P' ln co : Nat} {qual : Str} {extra : List (Addr × Obj)} (N : News h₀ L h (led ++ tabs)) (hP : (P, tabObj #[]) ∈ tabs) (hne : P' ≠ P) (h : TabOK tabs P' ln co qual) :
    TabOK (extra ++ tabs.filter fun p => p.1 ≠ P) P' ln co qual := by
  have keep : ∀ q ∈ tabs, q.1 ≠ P → q ∈ extra ++ tabs.filter fun p => p.1 ≠ P := fun q hq hn => List.mem_append_right _ (List.mem_filter.mpr ⟨hq, by simpa using hn⟩)
  rcases h with h | ⟨c, oc, vs, t, h1, h2, h3, h4⟩
  · exact .inl (keep _ h hne)
  · refine .inr ⟨c, oc, vs, t, keep _ h1 hne, keep _ h2 fun e => ?_, h3, h4⟩
    have a := (N _ (List.mem_append_right _ hP)).1
    have b := (N _ (List.mem_append_right _ h2)).1
    rw [show (c, oc).1 = P from e] at b
    dsimp only at a
    rw [a] at b
    cases b
    cases h3
    cases h4
theorem codeAmong_nil (pos : Pos) : codeAmong pos (#[] : Array Value).toList = none := rfl
section
variable {prog : Program} {w : World} {A : Around} {E : Value → Shared → Prop} {s : Shared} {h₀ : Heap} {L a c P : Addr} {m mg mb : Str → Option Value} {cn : Str} {cs : Scope} {ccd : Value} {cl : List (Str × Addr)} {led tabs : List (Addr × Obj)}
  {p : Program} {loose : List Str} {mean : ExcName → Option Value} {name qual : Str} {params : Arguments} {body : List Stmt} {scope : Scope} {pos : Pos} {clos : List (Str × Addr)} {ln co : Nat}
theorem def_step {Q : Flow → Shared → Prop} (F : Fr h₀ L s.heap m) (N : News h₀ L s.heap (led ++ tabs)) (T : Top p loose mean mg mb h₀) (C : CodeHd h₀ c P) (hcd : ccd = .ref c) (hn : Dis led tabs) (ht : Tabs tabs)
    (hP : TabOK tabs P ln co qual) (hl : (pos.line : Int) = ln ∧ (pos.col : Int) = co) (hfound : ∀ c', codeAmong pos (#[rawInt ln, rawInt co, .ref c'] : Array Value).toList = some (.ref c')) (htri : ∀ c' : Addr, TriplesOk (#[rawInt ln, rawInt co, .ref c'] : Array Value).toList)
    (hPs : (P = 47 ∧ ln = 33 ∧ co = 4 ∧ qual = q1) ∨ (P = 54 ∧ ln = 48 ∧ co = 4 ∧ qual = q2))
    (hcl : closureFor scope (envX cn cs L a ccd cl) = pure clos) (hq : qualnameIn (envX cn cs L a ccd cl) name name = qual) (hd0 : params.defaults = []) (hk0 : params.kw_defaults = []) (ha : annTrees params none (envX cn cs L a ccd cl) = [])
    (h : ∀ f c' oc vs t ctv doc pm h' tk tabs', Fr h₀ L h' m → News h₀ L h' ((f, fnMade name qual params body scope clos doc pm c' ctv) :: (led ++ tabs')) → Tabs tabs' → (c', oc) ∈ tabs' → oc.data = .fields vs → vs[1]? = some (.str qual t) →
      (∀ q ∈ led, q.1 < f) → Dis led tabs' → wpAny (model prog w) A (storeName (envX cn cs L a ccd cl) name (.ref f)) (fun _ s'' => Q .next s'') E { s with heap := h', toks := tk }) :
    wpAny (model prog w) A (exec (.FunctionDef name params body [] none [] scope none name pos) (envX cn cs L a ccd cl)) Q E s := by
  refine nestDef_K hd0 hk0 ha ?_
  rw [hq]
  rcases hP with hP | ⟨c', oc, vs, t, h1, h2, h3, h4⟩
  · let news₀ := led ++ tabs.filter fun q => q.1 ≠ P
    have N₀ : News h₀ L s.heap ((P, tabObj #[]) :: news₀) := fun q hq => by
      rcases List.mem_cons.mp hq with rfl | hq
      · exact N _ (List.mem_append_right _ hP)
      · rcases List.mem_append.mp hq with hq | hq
        · exact N _ (List.mem_append_left _ hq)
        · exact N _ (List.mem_append_right _ (List.mem_filter.mp hq).1)
    have U : UpdF P (tabObj #[]) ((P, tabObj #[]) :: news₀) (fun o' => (P, o') :: news₀) := UpdF.head fun q hq => by
      rcases List.mem_append.mp hq with hq | hq
      · exact (hn q hq _ hP).symm
      · have := (List.mem_filter.mp hq).2
        simpa using this
    refine nest_K F N₀ T C hcd U (by trivial) (codeAmong_nil _) hcl fun f c' oc vs t ctv doc h' tk F' N' hd hv hlt hcf => ?_
    have el : rawInt (pos.line : Int) = rawInt ln := by rw [hl.1]
    have ec : rawInt (pos.col : Int) = rawInt co := by rw [hl.2]
    have etab : (#[] ++ #[rawInt pos.line, rawInt pos.col, .ref c'] : Array Value) = #[rawInt ln, rawInt co, .ref c'] := by rw [el, ec]; rfl
    rw [etab] at N'
    let ext : List (Addr × Obj) := [(c', oc), (P, tabObj #[rawInt ln, rawInt co, .ref c'])]
    suffices hh : News h₀ L h' ((f, fnMade name qual params body scope clos doc ((mg "__name__").getD .none) c' ctv) :: (led ++ (ext ++ tabs.filter fun q => q.1 ≠ P))) ∧ Tabs (ext ++ tabs.filter fun q => q.1 ≠ P) from
      h f c' oc vs t ctv doc ((mg "__name__").getD .none) h' tk (ext ++ tabs.filter fun q => q.1 ≠ P) F' hh.1 hh.2 (List.mem_append_left _ (.head _)) hd hv (fun q hq => Nat.lt_trans (hlt q (.tail _ (List.mem_append_left _ hq))) hcf)
        (fun q hq r hr => by
          rcases List.mem_append.mp hr with hr | hr
          · rcases List.mem_cons.mp hr with rfl | hr
            · exact Nat.ne_of_gt (hlt q (.tail _ (List.mem_append_left _ hq)))
            · rcases List.mem_cons.mp hr with rfl | hr
              · exact (show P ≠ q.1 from hn q hq (P, tabObj #[]) hP)
              · cases hr
          · exact hn q hq r (List.mem_filter.mp hr).1)
    refine ⟨fun q hq => ?_, ⟨?_, ?_, ?_⟩⟩
    · refine N' q ?_
      rcases List.mem_cons.mp hq with rfl | hq
      · exact .head _
      · rcases List.mem_append.mp hq with hq | hq
        · exact .tail _ (.tail _ (.tail _ (List.mem_append_left _ hq)))
        · rcases List.mem_append.mp hq with hq | hq
          · rcases List.mem_cons.mp hq with rfl | hq
            · exact .tail _ (.head _)
            · rcases List.mem_cons.mp hq with rfl | hq
              · exact .tail _ (.tail _ (.head _))
              · cases hq
          · exact .tail _ (.tail _ (.tail _ (List.mem_append_right _ hq)))
    · intro q hq
      rcases List.mem_append.mp hq with hq | hq
      · rcases List.mem_cons.mp hq with rfl | hq
        · exact ⟨_, hd⟩
        · rcases List.mem_cons.mp hq with rfl | hq
          · exact ⟨_, rfl⟩
          · cases hq
      · exact ht.flds q (List.mem_filter.mp hq).1
    · rcases hPs with ⟨rfl, rfl, rfl, rfl⟩ | ⟨rfl, rfl, rfl, rfl⟩
      · exact .inr ⟨c', oc, vs, t, List.mem_append_left _ (.tail _ (.head _)), List.mem_append_left _ (.head _), hd, hv⟩
      · exact tabOK_keep N hP (by decide) ht.one
    · rcases hPs with ⟨rfl, rfl, rfl, rfl⟩ | ⟨rfl, rfl, rfl, rfl⟩
      · exact tabOK_keep N hP (by decide) ht.two
      · exact .inr ⟨c', oc, vs, t, List.mem_append_left _ (.tail _ (.head _)), List.mem_append_left _ (.head _), hd, hv⟩
  · refine nestHit_K F N T C hcd (List.mem_append_right _ h1) (htri c') (hfound c') hcl fun f ctv doc h' tk F' N' hlt => ?_
    exact h f c' oc vs t ctv doc _ h' tk tabs F' N' ht h2 h3 h4 (fun q hq => hlt q (List.mem_append_left _ hq)) hn
end
end Mine
end
section
open PySem PySem.W PyProof.Rows
namespace Mine
/-- a bound, hidden from the closers -/
structure Sm (x : Int) : Prop where
  lt : x < 2 ^ 200
theorem Sm.of_small {x : Int} (h : x < 1000000000) : Sm x := ⟨Int.lt_trans h (by decide)⟩
theorem Sm.le {x y : Int} (h : Sm x) (hy : y ≤ x) : Sm y := ⟨Int.lt_of_le_of_lt hy h.lt⟩
theorem bits_le {x : Int} (h0 : 0 ≤ x) {k : Nat} (h : x < 2 ^ k) : Builtin.Int.intBits x ≤ k := by
  obtain ⟨m, rfl⟩ := Int.eq_ofNat_of_zero_le h0
  unfold Builtin.Int.intBits
  by_cases hm : m = 0
  · subst hm; simp
  · rw [if_neg (by simp; omega), Int.natAbs_natCast]
    have : m < 2 ^ k := by exact_mod_cast h
    have := (Nat.log2_lt hm).mpr this
    omega
theorem Sm.bits {x : Int} (h : Sm x) (h0 : 0 ≤ x) : Builtin.Int.intBits x ≤ 200 := bits_le h0 h.lt
theorem pow_pos' (k : Nat) : (0 : Int) < 2 ^ k := Int.pow_pos (by decide)
theorem fdiv_pow (a : Int) (k : Nat) : a.fdiv (2 ^ k) = a / 2 ^ k := Int.fdiv_eq_ediv_of_nonneg _ (Int.le_of_lt (pow_pos' k))
section
variable {prog : Program} {w : World} {A : Around} {E : Value → Shared → Prop} {s : Shared} {a b : Int} {t u : Tok} {Q : Value → Shared → Prop}
theorem rsh1 (h : ∀ v : Int, v = a / 2 → Q (.int v s.toks) { s with toks := s.toks + 1 }) : wpAny (model prog w) A (binaryOp .RShift (.int a t) (.int 1 u)) Q E s :=
  PyProof.Rows.rshift_int (by decide) (by
    have := h (a / 2) rfl
    rw [show (1 : Int).toNat = 1 from rfl, fdiv_pow]
    exact this)
theorem mulI (ha : 0 ≤ a) (hb : 0 ≤ b) (hs : b < 2 ^ 40) (h : ∀ v : Int, v = a * b → 0 ≤ v → Q (.int v s.toks) { s with toks := s.toks + 1 }) : wpAny (model prog w) A (binaryOp .Mult (.int a t) (.int b u)) Q E s :=
  PyProof.Rows.mul_int (h _ rfl (Int.mul_nonneg ha hb)) (IntMulOk.of_right (Nat.le_trans (bits_le hb hs) (by decide)))
theorem rshI (h0 : 0 ≤ b) (ha : 0 ≤ a) (h : ∀ v : Int, v = a / 2 ^ b.toNat → 0 ≤ v → v ≤ a → Q (.int v s.toks) { s with toks := s.toks + 1 }) : wpAny (model prog w) A (binaryOp .RShift (.int a t) (.int b u)) Q E s :=
  PyProof.Rows.rshift_int h0 (by rw [fdiv_pow]; exact h _ rfl (Int.ediv_nonneg ha (Int.le_of_lt (pow_pos' _))) (Int.ediv_le_self _ ha))
theorem lshI (h0 : 0 ≤ b) (ha : 0 ≤ a) (hs : Sm a) (hb : b < 2 ^ 20) (h : ∀ v : Int, v = a * 2 ^ b.toNat → 0 ≤ v → Q (.int v s.toks) { s with toks := s.toks + 1 }) : wpAny (model prog w) A (binaryOp .LShift (.int a t) (.int b u)) Q E s :=
  PyProof.Rows.lshift_int h0 (by have := hs.bits ha; omega) (h _ rfl (Int.mul_nonneg ha (Int.le_of_lt (pow_pos' _))))
theorem xorI {k : Nat} (hb : b = a / 2 ^ k * 2 ^ k) (ha : 0 ≤ a) (h : ∀ v : Int, v = a % 2 ^ k → 0 ≤ v → v ≤ a → Q (.int v s.toks) { s with toks := s.toks + 1 }) : wpAny (model prog w) A (binaryOp .BitXor (.int a t) (.int b u)) Q E s :=
  PyProof.Rows.xor_int (by rw [hb, bitXor_low a ha]; exact h _ rfl (Int.emod_nonneg _ (Int.ne_of_gt (pow_pos' k))) (by
    have h1 := Int.mul_ediv_add_emod a (2 ^ k)
    have h2 := Int.mul_nonneg (Int.le_of_lt (pow_pos' k)) (Int.ediv_nonneg ha (Int.le_of_lt (pow_pos' k)))
    omega))
theorem fdivI (hb : 1 ≤ b) (hs : b < 1000000) (ha : 0 ≤ a) (h : ∀ v : Int, v = a / b → 0 ≤ v → v ≤ a → Q (.int v s.toks) { s with toks := s.toks + 1 }) : wpAny (model prog w) A (binaryOp .FloorDiv (.int a t) (.int b u)) Q E s :=
  PyProof.Rows.floordiv_int (by omega) (by rw [Int.fdiv_eq_ediv_of_nonneg _ (by omega)]; exact h _ rfl (Int.ediv_nonneg ha (by omega)) (Int.ediv_le_self _ ha)) (.inl (PyProof.noPylong_small (by omega)))
end
end Mine
end
section
open PySem PySem.W PyProof.Rows
namespace Mine
/-- a def's parts, at its place in a def of the text -/
noncomputable def innerOf (f : Addr) (i : Nat) (P : Params) : Option (Arguments × List Stmt × Scope) :=
  match (hd.heap_39 P).lookup f with
  | some ⟨_, _, .func fd, _⟩ => (match fd.body with
     | .stmts b => (match b[i]? with | some (.FunctionDef _ a bd _ _ _ sc _ _ _) => some (a, bd, sc) | _ => none)
     | _ => none)
  | _ => none
def Inn (w : World) (p : Program) (loose : List Str) (mean : ExcName → Option Value) (mg mb : Str → Option Value) (f l : Addr) (n : Nat) (rest : List (Addr × Obj)) (k : Nat) : Prop :=
  ∀ (dp un : Nat) (gd : Option (List Code)) (cn : Str) (cs : Scope) (a : Addr) (ccd : Value) (cl : List (Str × Addr)) (outer : List Env) (A₀ : Around) (base h₀ : Heap) (L : Addr) (m : Str → Option Value) (s : Shared) (Q E : Value → Shared → Prop)
    (x lo hi : Int) (tx tl th : Tok) (vs : List Value) (ns : List Int) (kk : Nat),
    Below A₀ base outer h₀ → Fr h₀ L s.heap m → (hd.heap_39 w.params).In h₀ → News h₀ L s.heap ((l, listOf vs.toArray kk) :: rest) → Top p loose mean mg mb h₀ → cs.kind = .function →
    IntsAre vs ns → 0 ≤ lo → lo < hi → hi ≤ ns.length → ns.length ≤ 256 → hi - lo = k → 0 ≤ x → Sm x → dp + k < recursionLimit → un + 8 * k < cLine →
    (∀ vs' kk' h' tk', IntsAre vs' (put ns (dI n k x) lo.toNat) → Fr h₀ L h' m → News h₀ L h' ((l, listOf vs'.toArray kk') :: rest) → Q .none { s with heap := h', toks := tk' }) →
    wpAny (model Challenge.rw_pe0122_01.row.prog w) (ktrTop dp un gd cn cs L a ccd cl outer) (call (.ref f) [.int x tx, .int lo tl, .int hi th]) Q E s
theorem sh_fits {v a b : Int} (e : v = a * b) (ha : 0 ≤ a ∧ a ≤ 256) (hb : 0 ≤ b ∧ b ≤ 1000) : v < 2 ^ 20 := by
  have h1 : a * b ≤ 256 * b := Int.mul_le_mul_of_nonneg_right ha.2 hb.1
  omega
theorem fin1 {ns : List Int} {vs' : List Value} {x lo hi : Int} {k n : Nat} (hI : IntsAre vs' (ns.set lo.toNat x)) (h0 : 0 ≤ lo) (h2 : hi ≤ ns.length) (hk : hi - lo = k) (he : lo + 1 = hi) : IntsAre vs' (put ns (dI n k x) lo.toNat) := by
  have : k = 1 := by omega
  subst this
  show IntsAre vs' (put ns [x] lo.toNat)
  rw [put_one _ _ _ (by omega)]
  exact hI
theorem fin2 {ns ns1 ns2 : List Int} {vs2 : List Value} {x lo hi mid sh up low : Int} {k n : Nat} (hI : IntsAre vs2 ns2) (e2 : ns2 = put ns1 (dI n (hi - mid).toNat up) mid.toNat) (e1 : ns1 = put ns (dI n (mid - lo).toNat low) lo.toNat)
    (elow : low = x % 2 ^ (((lo + hi) / 2 - lo) * (n : Int)).toNat) (eup : up = x / 2 ^ sh.toNat) (esh : sh = (mid - lo) * (n : Int)) (em : mid = (lo + hi) / 2) (hx : 0 ≤ x) (h0 : 0 ≤ lo) (h1 : lo < hi) (h2 : hi ≤ ns.length) (hk : hi - lo = k) (hne : lo + 1 ≠ hi) :
    IntsAre vs2 (put ns (dI n k x) lo.toNat) := by
  rw [← em, ← esh] at elow
  have hs : sh.toNat = n * (mid - lo).toNat := by
    rw [esh]
    obtain ⟨j, hj⟩ := Int.eq_ofNat_of_zero_le (show 0 ≤ mid - lo by omega)
    rw [hj, Nat.mul_comm]
    rfl
  have hsplit := dI_split n (hi - mid).toNat (mid - lo).toNat x (by omega) (by omega) hx
  rw [← hs, ← elow, ← eup, show (mid - lo).toNat + (hi - mid).toNat = k from by omega] at hsplit
  rw [hsplit, ← put_put _ _ _ _ (by rw [dI_length, dI_length]; omega), dI_length, ← e1, show lo.toNat + (mid - lo).toNat = mid.toNat from by omega, ← e2]
  exact hI
theorem inn_use {w : World} {p : Program} {loose : List Str} {mean : ExcName → Option Value} {mg mb : Str → Option Value} {f l : Addr} {n : Nat} {rest : List (Addr × Obj)} {k : Nat} (IH : ∀ k' < k, Inn w p loose mean mg mb f l n rest k')
    {dp un : Nat} {gd : Option (List Code)} {cn : Str} {cs : Scope} {a : Addr} {ccd : Value} {cl : List (Str × Addr)} {outer : List Env} {A₀ : Around} {base h₀ : Heap} {L : Addr} {m : Str → Option Value} {s : Shared} {Q E : Value → Shared → Prop}
    {x lo hi : Int} {tx tl th : Tok} {vs : List Value} {ns : List Int} {kk : Nat}
    (B : Below A₀ base outer h₀) (F : Fr h₀ L s.heap m) (X : (hd.heap_39 w.params).In h₀) (N : News h₀ L s.heap ((l, listOf vs.toArray kk) :: rest)) (T : Top p loose mean mg mb h₀) (hk : cs.kind = .function)
    (hI : IntsAre vs ns) (h0 : 0 ≤ lo) (h1 : lo < hi) (h2 : hi ≤ ns.length) (h3 : ns.length ≤ 256) (h4 : hi - lo < k) (hx : 0 ≤ x) (hs : Sm x) (hd : dp + (hi - lo).toNat < recursionLimit) (hu : un + 8 * (hi - lo).toNat < cLine)
    (ret : ∀ (vs' : List Value) (ns' : List Int) (kk' : Nat) (h' : Heap) (tk' : Nat), ns' = put ns (dI n (hi - lo).toNat x) lo.toNat → ns'.length = ns.length → IntsAre vs' ns' → Fr h₀ L h' m → News h₀ L h' ((l, listOf vs'.toArray kk') :: rest) → Q .none { s with heap := h', toks := tk' }) :
    wpAny (model Challenge.rw_pe0122_01.row.prog w) (ktrTop dp un gd cn cs L a ccd cl outer) (call (.ref f) [.int x tx, .int lo tl, .int hi th]) Q E s :=
  IH (hi - lo).toNat (by omega) dp un gd cn cs a ccd cl outer A₀ base h₀ L m s Q E x lo hi tx tl th vs ns kk B F X N T hk hI h0 h1 h2 h3 (by omega) hx hs hd hu
    fun vs' kk' h' tk' hI' F' N' => ret vs' _ kk' h' tk' rfl (put_length _ _ _ (by rw [dI_length]; omega)) hI' F' N'
local macro_rules | `(tactic| walk_at "call ref") => `(tactic| (k_here; k_dflt (refine' inn_use ?IH ?B ?F ?X ?N ?T ?hk ?hI ?h0 ?h1 ?h2 ?h3 ?h4 ?hx ?hs ?hd ?hu ?_; (case IH => assumption); (case B => k_asm); (case F => k_asm); (case X => k_asm); (case N => k_asm); (case T => k_asm); (case hk => first | exact rfl | assumption); (case hI => assumption); (case h0 => omega); (case h1 => omega); (case h2 => omega); (case h3 => omega); (case h4 => omega); (case hx => omega); (case hs => first | assumption | exact Sm.le (by assumption) (by assumption)); (case hd => (dsimp only; omega)); (case hu => (dsimp only; omega)); intro vs' ns' kk' h' tk' e' l' hI' F' N'; (try k_sweep))))
local macro_rules | `(tactic| walk_at "binaryOp RShift int int") => `(tactic| (first | (refine rsh1 ?_; intro v' e') | (refine rshI (by omega) (by omega) ?_; intro v' e' p' q')))
local macro_rules | `(tactic| walk_at "binaryOp Mult int int") => `(tactic| (refine mulI (by omega) (by omega) (by omega) ?_; intro v' e' p'))
local macro_rules | `(tactic| walk_at "binaryOp LShift int int") => `(tactic| (refine' lshI ?a ?b ?c ?d ?_; (case a => omega); (case b => omega); (case c => first | assumption | exact Sm.le (by assumption) (by assumption)); (case d => exact sh_fits (by assumption) (by omega) (by omega)); intro v' e' p'))
local macro_rules | `(tactic| walk_at "binaryOp BitXor int int") => `(tactic| (refine xorI (by subst_vars; rfl) (by omega) ?_; intro v' e' p' q'))
local macro_rules | `(tactic| walk_at "eval Name") => `(tactic| (k_here; kn_here; k_dflt (refine' nameX_F ?N ?c ?m ?d ?_ ?a ?b; (case a => rfl); (case b => rfl); (case N => k_asm); (case c => rfl); (case m => k_mem); (case d => assumption); k_whole)))
local macro_rules | `(tactic| k_all) => `(tactic| assumption)
local macro_rules | `(tactic| k_mem) => `(tactic| first | with_reducible exact List.Mem.head _ | (refine List.Mem.tail _ ?_; assumption))
set_option maxRecDepth 100000 in
set_option maxHeartbeats 1000000 in
theorem inner_c (w : World) (p : Program) (loose : List Str) (mean : ExcName → Option Value) (mg mb : Str → Option Value) {params : Arguments} {body : List Stmt} {scope : Scope} (hA : innerOf 52 1 w.params = some (params, body, scope))
    {f c' l ca ci cn' : Addr} {oc oca oci ocn : Obj} {vsc : Array Value} {tq tn : Tok} {doc pm ctv : Value} {n : Nat} {rest : List (Addr × Obj)}
    (hf : (f, fnMade (Str.ofString "inner") q1 params body scope [(Str.ofString "n", cn'), (Str.ofString "inner", ci), (Str.ofString "a_digits", ca)] doc pm c' ctv) ∈ rest)
    (hc : (c', oc) ∈ rest) (hcd : oc.data = .fields vsc) (hcq : vsc[1]? = some (.str q1 tq)) (hca : (ca, oca) ∈ rest) (hcad : oca.data = .cell (some (.ref l))) (hci : (ci, oci) ∈ rest) (hcid : oci.data = .cell (some (.ref f)))
    (hcn : (cn', ocn) ∈ rest) (hcnd : ocn.data = .cell (some (.int n tn))) (hne : ∀ p ∈ rest, p.1 ≠ l) (hn : 1 ≤ n) (hn2 : n ≤ 1000) : ∀ k, Inn w p loose mean mg mb f l n rest k := by
  cases hA
  intro k
  induction k using Nat.strongRecOn with
  | _ k ih =>
  w_on
  w_strict (
    unfold Inn
    k_fill
    intros
    rename_i hret
    refine wpAny_call ?_
    k_dflt (refine' code_nest ?k1 ?k2 ?k3 ?k4 ?k5 ?kA ?kF ?kK ?k6 ?k7 ?k8 ?k9 ?kB ?_ ?c2 ?c3 ?c4 ?c5; (case kA => exact rfl); (case kF => exact rfl); (case kK => assumption); (case k1 => k_asm); (case k2 => k_asm); (case k3 => k_asm); (case k4 => k_asm); (case k5 => k_asm); (case k6 => exact .tail _ hf); (case k7 => exact codeRec_news (by k_asm) (.tail _ hc) (by assumption) (by assumption)); (case k8 => (dsimp only; omega)); (case k9 => exact BindsTo.of_eq rfl); (case c5 => decide); (case kB => exact locs rfl); (case c2 => exact rfl); (case c3 => exact rfl); (case c4 => exact rfl); k_whole; intro g' L' h' FG' F' N' B' X' T'; (try dsimp only); (try k_lift B'); (try k_fold))
    have CH := codeHd_of_K (c := 51) (P := 47) X' (by kernel_rfl)
    k_steps
    · exact hret _ _ _ _ (fin1 (by assumption) (by assumption) (by assumption) (by assumption) (by assumption)) (by k_asm) (by k_asm)
    · exact hret _ _ _ _ (fin2 (by assumption) (by assumption) (by assumption) (by assumption) (by assumption) (by assumption) (by assumption) (by assumption) (by assumption) (by assumption) (by assumption) (by assumption) (by assumption)) (by k_asm) (by k_asm))
end Mine
end
section
open PySem PySem.W PyProof.Rows
namespace Mine
def Calls (w : World) (p : Program) (loose : List Str) (mean : ExcName → Option Value) (mg mb : Str → Option Value) (f : Addr) (vs : List Value) (led : List (Addr × Obj)) (rm : Nat) (Post : Value → List (Addr × Obj) → Prop) : Prop :=
  ∀ (dp un : Nat) (gd : Option (List Code)) (cn : Str) (cs : Scope) (a : Addr) (ccd : Value) (cl : List (Str × Addr)) (outer : List Env) (A₀ : Around) (base h₀ : Heap) (L : Addr) (m : Str → Option Value) (s : Shared) (Q E : Value → Shared → Prop),
    Below A₀ base outer h₀ → Fr h₀ L s.heap m → (hd.heap_39 w.params).In h₀ → News h₀ L s.heap led → Top p loose mean mg mb h₀ → cs.kind = .function → dp + rm < recursionLimit → un + 8 * rm < cLine →
    (∀ r led' h' tk', Post r led' → Fr h₀ L h' m → News h₀ L h' led' → Q r { s with heap := h', toks := tk' }) →
    wpAny (model Challenge.rw_pe0122_01.row.prog w) (ktrTop dp un gd cn cs L a ccd cl outer) (call (.ref f) vs) Q E s
/-- how many digits -/
def cnt (n : Nat) (a : Int) : Nat := (((Builtin.Int.intBits a : Int) + n - 1) / n).toNat
def digs (n : Nat) (a : Int) : List Int := if a = 0 then [] else dI n (cnt n a) a
theorem flat_one (k : Nat) (v : Value) : (List.replicate k [v]).flatten = List.replicate k v := by
  induction k with
  | zero => rfl
  | succ k ih => rw [List.replicate_succ, List.flatten_cons, ih]; rfl
section
variable {prog : Program} {w : World} {A : Around} {E : Value → Shared → Prop} {s : Shared} {h₀ : Heap} {L : Addr} {m : Str → Option Value} {news : List (Addr × Obj)} {l : Addr} {v : Value} {x : Int} {u : Tok} {Q : Value → Shared → Prop} {kk : Nat}
theorem mulOne (F : Fr h₀ L s.heap m) (N : News h₀ L s.heap news) (hm : (l, listOf #[v] kk) ∈ news) (h0 : 0 ≤ x) (h1 : x ≤ 256)
    (h : ∀ D h', Fr h₀ L h' m → News h₀ L h' ((D, listOf (List.replicate x.toNat v).toArray 0) :: news) → (∀ p ∈ news, p.1 < D) → Q (.ref D) { s with heap := h' }) : wpAny (model prog w) A (binaryOp .Mult (.ref l) (.int x u)) Q E s :=
  KMa.mul (vs := [v]) F N (PySem.IsL.isList (n := kk) (N _ hm).1) (by omega) (by omega) (by simp; omega) (flat_one _ _) h
end
theorem News.tail {h₀ h : Heap} {L : Addr} {p : Addr × Obj} {r : List (Addr × Obj)} (N : News h₀ L h (p :: r)) : News h₀ L h r := fun q hq => N q (.tail _ hq)
theorem ints_rep (k : Nat) (x : Int) (t : Tok) : IntsAre (List.replicate k (.int x t)) (List.replicate k x) := by
  induction k with
  | zero => exact .nil
  | succ k ih => exact .cons x t ih
theorem cnt_le {n : Nat} {a : Int} (hn : 1 ≤ n) (h0 : 0 ≤ a) (hs : Sm a) : ((Builtin.Int.intBits a : Int) + n - 1) / n ≤ 200 := by
  have := hs.bits h0
  have h : ((Builtin.Int.intBits a : Int) + n - 1) / n < 201 := by
    apply Int.ediv_lt_of_lt_mul (by omega)
    have : (201 : Int) * 1 ≤ 201 * n := by omega
    omega
  omega
theorem all_ne {l : List (Addr × Obj)} {b d : Addr} (h : ∀ p ∈ l, p.1 < b) (hd : @LT.lt Nat _ b d) : ∀ p ∈ l, p.1 ≠ d := fun p hp e => by
  have := h p hp
  rw [e] at this
  exact Nat.lt_irrefl _ (Nat.lt_trans this hd)
theorem notF_cell {o : Obj} {v : Option Value} (h : o.data = .cell v) : ∀ vs, o.data ≠ .fields vs := fun vs e => by rw [h] at e; cases e
def Stop (P : Prop) : Prop := P
theorem Stop.mk {P : Prop} (h : Stop P) : P := h
theorem News.swap {h₀ h : Heap} {L : Addr} {p q : Addr × Obj} {r : List (Addr × Obj)} (N : News h₀ L h (p :: q :: r)) : News h₀ L h (q :: p :: r) := fun z hz => N z (by
  rcases List.mem_cons.mp hz with rfl | hz
  · exact .tail _ (.head _)
  · rcases List.mem_cons.mp hz with rfl | hz
    · exact .head _
    · exact .tail _ (.tail _ hz))
theorem inner_first {w : World} {p : Program} {loose : List Str} {mean : ExcName → Option Value} {mg mb : Str → Option Value} {f l : Addr} {n : Nat} {rest : List (Addr × Obj)} (IN : ∀ k, Inn w p loose mean mg mb f l n rest k)
    {dp un : Nat} {gd : Option (List Code)} {cn : Str} {cs : Scope} {a : Addr} {ccd : Value} {cl : List (Str × Addr)} {outer : List Env} {A₀ : Around} {base h₀ : Heap} {L : Addr} {m : Str → Option Value} {s : Shared} {Q E : Value → Shared → Prop}
    {x hi : Int} {tx tl th : Tok} {vs : List Value} {ns : List Int} {kk : Nat}
    (B : Below A₀ base outer h₀) (F : Fr h₀ L s.heap m) (X : (hd.heap_39 w.params).In h₀) (N : News h₀ L s.heap ((l, listOf vs.toArray kk) :: rest)) (T : Top p loose mean mg mb h₀) (hk : cs.kind = .function)
    (hI : IntsAre vs ns) (h1 : hi = ns.length) (h2 : 0 < ns.length) (h3 : ns.length ≤ 256) (hx : 0 ≤ x) (hs : Sm x) (hd : dp + 256 < recursionLimit) (hu : un + 8 * 256 < cLine)
    (ret : ∀ (vs' : List Value) (kk' : Nat) (h' : Heap) (tk' : Nat), IntsAre vs' (dI n ns.length x) → Fr h₀ L h' m → News h₀ L h' ((l, listOf vs'.toArray kk') :: rest) → Q .none { s with heap := h', toks := tk' }) :
    wpAny (model Challenge.rw_pe0122_01.row.prog w) (ktrTop dp un gd cn cs L a ccd cl outer) (call (.ref f) [.int x tx, .int 0 tl, .int hi th]) Q E s :=
  IN ns.length dp un gd cn cs a ccd cl outer A₀ base h₀ L m s Q E x 0 hi tx tl th vs ns kk B F X N T hk hI (by omega) (by omega) (by omega) h3 (by omega) hx hs (by omega) (by omega)
    fun vs' kk' h' tk' hI' F' N' => ret vs' kk' h' tk' (by rw [show (0 : Int).toNat = 0 from rfl, put_all _ _ (dI_length _ _ _)] at hI'; exact hI') F' N'
theorem all_ne2 {news tabs : List (Addr × Obj)} {b d : Addr} (h : ∀ p ∈ news, p.1 < b) (hd : @LT.lt Nat _ b d) (ht : ∀ q ∈ tabs, q.1 ≠ d) : ∀ p ∈ news ++ tabs, p.1 ≠ d := fun p hp => (List.mem_append.mp hp).elim (all_ne h hd p) (ht p)
local macro_rules | `(tactic| k_all) => `(tactic| exact all_ne (by assumption) (by omega))
local macro_rules | `(tactic| k_all) => `(tactic| exact all_ne2 (by assumption) (by omega) (by assumption))
theorem News.cut5 {h₀ h : Heap} {L : Addr} {a b1 b2 b3 b4 b5 : Addr × Obj} {r : List (Addr × Obj)} (N : News h₀ L h (a :: b1 :: b2 :: b3 :: b4 :: b5 :: r)) : News h₀ L h (a :: r) := fun z hz => N z (by
  rcases List.mem_cons.mp hz with rfl | hz
  · exact .head _
  · exact .tail _ (.tail _ (.tail _ (.tail _ (.tail _ (.tail _ hz))))))
theorem cnt_pos {n : Nat} {a : Int} (hn : 1 ≤ n) (ha : a ≠ 0) : 1 ≤ ((Builtin.Int.intBits a : Int) + n - 1) / n := by
  have hb : 1 ≤ Builtin.Int.intBits a := by unfold Builtin.Int.intBits; rw [if_neg (by simpa using ha)]; omega
  exact Int.le_ediv_of_mul_le (by omega) (by omega)
theorem fin_digs {n : Nat} {a v : Int} {vs : List Value} (e : v = ((Builtin.Int.intBits a : Int) + n - 1) / n) (ha : a ≠ 0) (hI : IntsAre vs (dI n (List.replicate v.toNat (0 : Int)).length a)) : IntsAre vs (digs n a) := by
  unfold digs cnt
  rw [if_neg ha, ← e]
  rw [List.length_replicate] at hI
  exact hI
theorem fin_zero {n : Nat} {a v : Int} {x : Value} (hn : 1 ≤ n) (e : v = ((Builtin.Int.intBits a : Int) + n - 1) / n) (ha : a = 0) : IntsAre (List.replicate v.toNat x) (digs n a) := by
  subst ha
  have h0 : v = 0 := by
    rw [e]
    show ((0 : Nat) + (n : Int) - 1) / n = 0
    exact Int.ediv_eq_zero_of_lt (by omega) (by omega)
  rw [h0]
  exact .nil
theorem lenI {prog : Program} {w : World} {A : Around} {E : Value → Shared → Prop} {s : Shared} {h₀ : Heap} {L l : Addr} {news : List (Addr × Obj)} {vs : List Value} {ns : List Int} {kk : Nat} {Q : Value → Shared → Prop} (N : News h₀ L s.heap news) (hm : (l, listOf vs.toArray kk) ∈ news) (hI : IntsAre vs ns) (hz : ns.length ≤ 100000)
    (h : ∀ v : Int, v = ns.length → Q (.int v (s.toks + 1)) { s with toks := s.toks + 1 + 1 }) : wpAny (model prog w) A (call (.builtin "len") [.ref l]) Q E s :=
  len_list (PySem.IsL.isList (n := kk) (N _ hm).1) (by rw [List.size_toArray, hI.length]; omega) (h _ (by rw [List.size_toArray, hI.length]))
local macro_rules | `(tactic| walk_at "call builtin:len") => `(tactic| (k_here; k_dflt (refine' lenI ?N ?m ?I ?z ?_; (case N => k_asm); (case m => k_mem); (case I => first | assumption | exact ints_rep _ _ _); (case z => ((try simp only [List.length_replicate]); omega)); k_whole); intro v' e'))
local macro_rules | `(tactic| walk_at "call ref") => `(tactic| refine Stop.mk ?_)
local macro_rules | `(tactic| walk_at "binaryOp FloorDiv int int") => `(tactic| (refine' fdivI ?a ?b ?c ?_; (case a => omega); (case b => omega); (case c => omega); intro v' e' p' q'))
local macro_rules | `(tactic| walk_at "binaryOp Mult ref int") => `(tactic| (k_here; k_dflt (refine' mulOne ?F ?N ?m ?a ?b ?_; (case F => k_asm); (case N => k_asm); (case m => k_mem); (case a => omega); (case b => omega); k_whole); intro D' h' F' N' l1; (try k_lt l1); (try k_sweep)))
set_option maxRecDepth 100000 in
set_option maxHeartbeats 1000000 in
theorem i2d_c (w : World) (p : Program) (loose : List Str) (mean : ExcName → Option Value) (mg mb : Str → Option Value) (news tabs : List (Addr × Obj)) (hT : Tabs tabs) (hF : Dis news tabs) (a : Int) (n : Nat) (ta tn : Tok) (hn : 1 ≤ n) (hn2 : n ≤ 1000) (h0 : 0 ≤ a) (hs : Sm a) :
    Calls w p loose mean mg mb 52 [.int a ta, .int n tn] (news ++ tabs) 300 (fun r led' => ∃ (l : Addr) (vs : List Value) (kk : Nat) (tabs' : List (Addr × Obj)), r = .ref l ∧ led' = (l, listOf vs.toArray kk) :: (news ++ tabs') ∧ Tabs tabs' ∧ IntsAre vs (digs n a) ∧ Dis ((l, listOf vs.toArray kk) :: news) tabs') := by
  w_on
  w_strict (
    unfold Calls
    k_fill
    intros
    rename_i hret
    have hbits := hs.bits h0
    have hcnt := cnt_le hn h0 hs
    refine wpAny_call ?_
    k_dflt (refine' code_defC ?k1 ?k2 ?k3 ?k4 ?k5 ?kA ?kF ?kK ?k6 ?k7 ?k8 ?k9 ?kB ?kD ?_ ?c2 ?c3 ?c4; (case kA => exact rfl); (case kF => exact rfl); (case kK => assumption); (case k1 => k_asm); (case k2 => k_asm); (case k3 => k_asm); (case k4 => k_asm); (case k5 => k_asm); (case k6 => k_is); (case k7 => k_is); (case k8 => (dsimp only; omega)); (case k9 => exact BindsTo.of_eq rfl); (case kB => exact rfl); (case kD => decide +kernel); (case c2 => exact rfl); (case c3 => exact rfl); (case c4 => exact rfl); k_whole; intro g' L' h' tk' cells' FG' F' N' Y' B' X' T' hlt; k_cells Y'; (try simp only [List.cons_append, List.nil_append] at N'); (try dsimp only); (try k_lift B'); (try k_fold))
    have CH := codeHd_of_K (c := 51) (P := 47) X' (by kernel_rfl)
    k_steps
    k_dflt (refine' def_step (led := [_, _, _, _, _] ++ news) (tabs := tabs) (P := 47) (ln := 33) (co := 4) (qual := q1) ?F ?N T' CH rfl ?nf hT hT.one ⟨rfl, rfl⟩ ?fo ?tr (.inl ⟨rfl, rfl, rfl, rfl⟩) rfl ?q rfl rfl rfl ?_; (case F => k_asm); (case N => k_asm); (case fo => (intro c9; simp [codeAmong, rawInt])); (case tr => (intro c9; simp [TriplesOk, rawInt])); (case q => kernel_rfl); (case nf => (refine Dis.cons ?_ (Dis.cons ?_ (Dis.cons ?_ (Dis.cons ?_ (Dis.cons ?_ hF)))) <;> exact Dis.of_lt (fun q hq => hlt q (List.mem_append_right _ hq)) (by (show @LE.le Nat _ _ _); omega))))
    intro f9 c9 oc9 vs9 t9 ctv9 doc9 pm9 h9 tk9 tabs9 F9 N9 hT9 hm9 hd9 hv9 hl9 hn9
    simp only [List.cons_append, List.nil_append] at N9
    simp only [List.cons_append, List.nil_append, List.forall_mem_cons] at hl9
    simp only [Dis, List.cons_append, List.nil_append, List.forall_mem_cons] at hn9
    obtain ⟨l91, l92, l93, l94, l95, l96⟩ := hl9
    replace l91 := ltN l91
    replace l92 := ltN l92
    replace l93 := ltN l93
    replace l94 := ltN l94
    replace l95 := ltN l95
    obtain ⟨n91, n92, n93, n94, n95, n96⟩ := hn9
    have hltn : ∀ p ∈ news, p.1 < L' := fun p hp => hlt p (List.mem_append_left _ hp)
    clear hlt
    show wpAny _ _ (storeName (envOfC _ _ _ _ _) _ _) _ _ _
    k_steps
    · unfold Stop
      rename News _ _ _ _ => NN
      k_dflt (refine' inner_first ?IN ?B ?F ?X (News.swap NN) ?T rfl (ints_rep _ _ _) ?h1 ?h2 ?h3 h0 hs ?hd ?hu ?_; (case B => k_asm); (case F => k_asm); (case X => k_asm); (case T => k_asm); (case h1 => assumption); (case h3 => (simp only [List.length_replicate]; omega)); (case hd => (dsimp only; omega)); (case hu => (dsimp only; omega)); (case IN => exact inner_c w p loose mean mg mb rfl (.head _) (.tail _ (.tail _ (.tail _ (.tail _ (.tail _ (List.mem_append_right _ hm9)))))) hd9 hv9 (.tail _ (.tail _ (.tail _ (.head _)))) (by assumption) (.tail _ (.tail _ (.head _))) (by assumption) (.tail _ (.tail _ (.tail _ (.tail _ (.head _))))) (by assumption) (by k_all) hn hn2))
      · rw [List.length_replicate]
        have := cnt_pos (a := a) hn (by assumption)
        omega
      · intro vs8 kk8 h8 tk8 hI8 F8 N8
        k_steps
        exact hret _ _ _ _ ⟨_, vs8, kk8, tabs9, rfl, rfl, hT9, fin_digs (by assumption) (by assumption) hI8, Dis.cons n91 n96⟩ (by k_asm) (News.cut5 (by assumption))
    · exact hret _ _ _ _ ⟨_, _, _, tabs9, rfl, rfl, hT9, fin_zero hn (by assumption) (by assumption), Dis.cons n91 n96⟩ (by k_asm) (News.cut5 (News.swap (by assumption))))
end Mine
end
section
open PySem PySem.W PyProof.Rows
namespace Mine
def step3 (st : Nat × Nat × Nat) (b : Int) : Nat × Nat × Nat := if b = 1 then (st.1 + 1, st.2.1, st.2.2) else (st.1, st.2.1 + 1, if st.1 = 0 then st.2.2 + 1 else st.2.2)
def st3 (bs : List Int) : Nat × Nat × Nat := bs.foldl step3 (0, 0, 0)
def TT (bs : List Int) : Str := T (st3 bs).1 (st3 bs).2.1 (st3 bs).2.2
theorem st3_snoc (bs : List Int) (b : Int) : st3 (bs ++ [b]) = step3 (st3 bs) b := by unfold st3; rw [List.foldl_append]; rfl
theorem st3_len (bs : List Int) : (st3 bs).1 + (st3 bs).2.1 = bs.length ∧ (st3 bs).2.2 ≤ (st3 bs).2.1 := by
  have go : ∀ (l : List Int) (st : Nat × Nat × Nat), st.2.2 ≤ st.2.1 → (l.foldl step3 st).1 + (l.foldl step3 st).2.1 = l.length + st.1 + st.2.1 ∧ (l.foldl step3 st).2.2 ≤ (l.foldl step3 st).2.1 := by
    intro l
    induction l with
    | nil => intro st h; exact ⟨by simp, h⟩
    | cons b l ih =>
      intro st h
      rw [List.foldl_cons]
      have h2 : (step3 st b).2.2 ≤ (step3 st b).2.1 := by unfold step3; split <;> dsimp only <;> (try split) <;> omega
      have := ih (step3 st b) h2
      have e : (step3 st b).1 + (step3 st b).2.1 = st.1 + st.2.1 + 1 := by unfold step3; split <;> dsimp only <;> omega
      rw [List.length_cons]
      exact ⟨by omega, this.2⟩
  have := go bs (0, 0, 0) (Nat.le_refl _)
  exact ⟨by have := this.1; unfold st3; simpa using this, this.2⟩
theorem TT_nil : TT [] = Str.ofString ".\n." := by decide +kernel
theorem TT_one {bs : List Int} {b : Int} (h : b = 1) : TT (bs ++ [b]) = T (((st3 bs).1 + 1 : Nat) : Int) (st3 bs).2.1 (st3 bs).2.2 := by
  unfold TT; rw [st3_snoc]; unfold step3; rw [if_pos h]
theorem TT_not {bs : List Int} {b : Int} (h : b ≠ 1) : TT (bs ++ [b]) = T (st3 bs).1 (((st3 bs).2.1 + 1 : Nat) : Int) ((if (st3 bs).1 = 0 then (st3 bs).2.2 + 1 else (st3 bs).2.2 : Nat) : Int) := by
  unfold TT; rw [st3_snoc]; unfold step3; rw [if_neg h]
section
variable {w : World} {p : Program} {loose : List Str} {mean : ExcName → Option Value} {mg mb : Str → Option Value} {f : Addr} {vals : List Value} {led : List (Addr × Obj)} {rm : Nat} {Post : Value → List (Addr × Obj) → Prop}
    {dp un : Nat} {gd : Option (List Code)} {cn : Str} {cs : Scope} {a : Addr} {ccd : Value} {cl : List (Str × Addr)} {outer : List Env} {A₀ : Around} {base h₀ : Heap} {L : Addr} {m : Str → Option Value} {s : Shared} {Q E : Value → Shared → Prop}
theorem Calls.use (C : Calls w p loose mean mg mb f vals led rm Post) (B : Below A₀ base outer h₀) (F : Fr h₀ L s.heap m) (X : (hd.heap_39 w.params).In h₀) (N : News h₀ L s.heap led) (T : Top p loose mean mg mb h₀) (hk : cs.kind = .function)
    (hd : dp + rm < recursionLimit) (hu : un + 8 * rm < cLine) (ret : ∀ r led' h' tk', Post r led' → Fr h₀ L h' m → News h₀ L h' led' → Q r { s with heap := h', toks := tk' }) :
    wpAny (model Challenge.rw_pe0122_01.row.prog w) (ktrTop dp un gd cn cs L a ccd cl outer) (call (.ref f) vals) Q E s := C dp un gd cn cs a ccd cl outer A₀ base h₀ L m s Q E B F X N T hk hd hu ret
theorem comment_use {bs : List Int} {b : Int} {tx : Tok} (hb : b = 1) (hl : bs.length ≤ 10) (B : Below A₀ base outer h₀) (F : Fr h₀ L s.heap m) (X : (hd.heap_39 w.params).In h₀) (N : News h₀ L s.heap led) (T : Top p loose mean mg mb h₀) (hk : cs.kind = .function)
    (hd : dp + 1 < recursionLimit) (hu : un + 8 < cLine) (ret : ∀ t h' tk', Fr h₀ L h' m → News h₀ L h' led → Q (.str (TT (bs ++ [b])) t) { s with heap := h', toks := tk' }) :
    wpAny (model Challenge.rw_pe0122_01.row.prog w) (ktrTop dp un gd cn cs L a ccd cl outer) (call (.ref 80) [.str (TT bs) tx]) Q E s := by
  have h1 := st3_len bs
  rw [TT_one hb] at ret
  exact comment_c w p loose mean mg mb led (st3 bs).1 (st3 bs).2.1 (st3 bs).2.2 (by omega) h1.2 tx dp un gd cn cs a ccd cl outer A₀ base h₀ L m s Q E B F X N T hk trivial hd hu ret
theorem quote_use {bs : List Int} {b : Int} {tx : Tok} (hb : b ≠ 1) (hl : bs.length ≤ 10) (B : Below A₀ base outer h₀) (F : Fr h₀ L s.heap m) (X : (hd.heap_39 w.params).In h₀) (N : News h₀ L s.heap led) (T : Top p loose mean mg mb h₀) (hk : cs.kind = .function)
    (hd : dp + 1 < recursionLimit) (hu : un + 8 < cLine) (ret : ∀ t h' tk', Fr h₀ L h' m → News h₀ L h' led → Q (.str (TT (bs ++ [b])) t) { s with heap := h', toks := tk' }) :
    wpAny (model Challenge.rw_pe0122_01.row.prog w) (ktrTop dp un gd cn cs L a ccd cl outer) (call (.ref 97) [.str (TT bs) tx]) Q E s := by
  have h1 := st3_len bs
  rw [TT_not hb] at ret
  exact quote_c w p loose mean mg mb led (st3 bs).1 (st3 bs).2.1 (st3 bs).2.2 (by omega) h1.2 tx dp un gd cn cs a ccd cl outer A₀ base h₀ L m s Q E B F X N T hk trivial hd hu ret
end
local macro_rules | `(tactic| walk_at "call ref") => `(tactic| (k_here; k_dflt (first
  | (refine' comment_use ?hb ?hl ?B ?F ?X ?N ?T ?hk ?hd ?hu ?_; (case hb => assumption); (case hl => omega); (case B => k_asm); (case F => k_asm); (case X => k_asm); (case N => k_asm); (case T => k_asm); (case hk => first | exact rfl | assumption); (case hd => (dsimp only; omega)); (case hu => (dsimp only; omega)); intro t' h' tk' F' N'; (try k_sweep))
  | (refine' quote_use ?hb ?hl ?B ?F ?X ?N ?T ?hk ?hd ?hu ?_; (case hb => assumption); (case hl => omega); (case B => k_asm); (case F => k_asm); (case X => k_asm); (case N => k_asm); (case T => k_asm); (case hk => first | exact rfl | assumption); (case hd => (dsimp only; omega)); (case hu => (dsimp only; omega)); intro t' h' tk' F' N'; (try k_sweep))
  | refine Stop.mk ?_)))
local macro_rules | `(tactic| walk_at "pyIter ref") => `(tactic| refine Stop.mk ?_)
set_option maxRecDepth 100000 in
set_option maxHeartbeats 1000000 in
theorem worked_c (w : World) (p : Program) (loose : List Str) (mean : ExcName → Option Value) (mg mb : Str → Option Value) (news tabs : List (Addr × Obj)) (hT : Tabs tabs) (hF : Dis news tabs) (a : Int) (ta : Tok) (h0 : 0 ≤ a) (h1 : a ≤ 1024) (hlen : (digs 1 a).length ≤ 11) :
    Calls w p loose mean mg mb 104 [.int a ta] (news ++ tabs) 310 (fun r led' => ∃ (t : Tok) (tabs' : List (Addr × Obj)), r = .str (TT (digs 1 a)) t ∧ led' = news ++ tabs' ∧ Tabs tabs' ∧ Dis news tabs') := by
  w_on
  w_strict (
    unfold Calls
    k_fill
    intros
    rename_i hret
    refine wpAny_call ?_
    k_dflt (refine' code_def ?k1 ?k2 ?k3 ?k4 ?k5 ?kA ?kF ?kK ?k6 ?k7 ?k8 ?k9 ?kB ?_ ?c2 ?c3 ?c4 ?c5; (case kA => exact rfl); (case kF => exact rfl); (case kK => assumption); (case k1 => k_asm); (case k2 => k_asm); (case k3 => k_asm); (case k4 => k_asm); (case k5 => k_asm); (case k6 => k_is); (case k7 => k_is); (case k8 => (dsimp only; omega)); (case k9 => exact BindsTo.of_eq rfl); (case c5 => decide); (case kB => exact locs rfl); (case c2 => exact rfl); (case c3 => exact rfl); (case c4 => exact rfl); k_whole; intro g' L' h' FG' F' N' B' X' T'; (try dsimp only); (try k_fold))
    k_steps
    unfold Stop
    k_dflt (refine' Calls.use (i2d_c w p loose mean mg mb news tabs hT hF a 1 _ _ (by decide) (by decide) h0 (Sm.of_small (by omega))) ?B ?F ?X ?N ?T ?hk ?hd ?hu ?_; (case B => k_asm); (case F => k_asm); (case X => k_asm); (case N => k_asm); (case T => k_asm); (case hk => first | exact rfl | assumption); (case hd => (dsimp only; omega)); (case hu => (dsimp only; omega)))
    rintro r9 led9 h9 tk9 ⟨l9, vs9, kk9, tabs9, rfl, rfl, hT9, hI9, hD9⟩ F9 N9
    k_steps
    unfold Stop
    k_dflt (refine' kst_listL (σ := Str × Tok) (fun _ => (l9, listOf vs9.toArray kk9) :: (news ++ tabs9)) (fun c => [(Str.ofString "text", .str c.1 c.2)]) (fun _ => True) [] (fun pre c => c.1 = TT pre) (Str.ofString ".\n.", _) rfl (fun _ => .head _) hI9 ?F ?N trivial ?hk TT_nil.symm ?turn ?done; (case F => k_asm); (case N => k_asm); (case hk => kst_all))
    · rintro ⟨x, tx⟩ pre post n t u h tk own e hmem hoff _ hP F N
      have hP' : x = TT pre := hP
      subst hP'
      have hpl : pre.length ≤ 10 := by
        have := congrArg List.length e
        simp only [List.length_append, List.length_cons] at this
        omega
      k_steps
      all_goals ((rename News _ _ _ _ => nE); refine kst_end ⟨_, _⟩ (by assumption) nE (fun q hq => List.mem_append_left _ hq) (fun q hq => List.mem_append_right _ hq) rfl trivial (by kst_all) (by (intro z k1 k2 k3; (have k4 : z ≠ Str.ofString "text" := k2 _ (.head _)); simp [kstB, k1, k4])) rfl)
    · rintro ⟨x, tx⟩ u h tk _ hP F N
      have hP' : x = TT (digs 1 a) := hP
      subst hP'
      k_steps
      exact hret _ _ _ _ ⟨_, tabs9, rfl, rfl, hT9, hD9.tail⟩ (by k_asm) (News.tail (by assumption)))
end Mine
end
section
open PySem PySem.W PyProof.Rows
namespace Mine
theorem cnt_one {m : Nat} (h : m ≠ 0) : cnt 1 (m : Int) = m.log2 + 1 := by
  unfold cnt Builtin.Int.intBits
  rw [if_neg (by simp; omega), Int.natAbs_natCast]
  simp
theorem digs_zero (n : Nat) : digs n 0 = [] := by unfold digs; rw [if_pos rfl]
theorem digs_step {n : Int} (h : 0 < n) : digs 1 n = (n % 2) :: digs 1 (n / 2) := by
  obtain ⟨m, rfl⟩ := Int.eq_ofNat_of_zero_le (Int.le_of_lt h)
  have hm : m ≠ 0 := by omega
  unfold digs
  rw [if_neg (by omega), cnt_one hm]
  by_cases h1 : m = 1
  · subst h1
    rw [if_pos (by decide)]
    decide
  · have h2 : m / 2 ≠ 0 := by omega
    have e2 : ((m : Int) / 2) = ((m / 2 : Nat) : Int) := by push_cast; rfl
    rw [if_neg (by omega), e2, cnt_one h2]
    have hl : m.log2 = (m / 2).log2 + 1 := by
      rw [Nat.log2_def m]
      rw [if_pos (by omega)]
    rw [hl]
    show ((m : Int) % 2 ^ 1) :: dI 1 ((m / 2).log2 + 1) ((m : Int) / 2 ^ 1) = _
    rw [show (2 : Int) ^ 1 = 2 from rfl, e2]
def pc (n : Int) : Int := ((st3 (digs 1 n)).1 : Nat)
theorem fold_one (l : List Int) (st : Nat × Nat × Nat) : (l.foldl step3 st).1 = st.1 + (l.foldl step3 (0, 0, 0)).1 := by
  have go : ∀ (l : List Int) (a b : Nat × Nat × Nat), a.1 = b.1 + (a.1 - b.1) → b.1 ≤ a.1 → (l.foldl step3 a).1 = (l.foldl step3 b).1 + (a.1 - b.1) := by
    intro l
    induction l with
    | nil => intro a b h _; exact h
    | cons x l ih =>
      intro a b h hle
      rw [List.foldl_cons, List.foldl_cons]
      have e : (step3 a x).1 - (step3 b x).1 = a.1 - b.1 ∧ (step3 b x).1 ≤ (step3 a x).1 := by
        unfold step3; split <;> dsimp only <;> omega
      rw [ih _ _ (by omega) e.2, e.1]
  have := go l st (0, 0, 0) (by simp) (by simp)
  simp only [Nat.sub_zero] at this
  omega
theorem pc_zero : pc 0 = 0 := by unfold pc; rw [digs_zero]; rfl
theorem pc_step {n : Int} (h : 0 ≤ n) : pc n = n % 2 + pc (n / 2) := by
  by_cases h0 : n = 0
  · subst h0; rw [pc_zero]; decide
  · unfold pc
    rw [digs_step (by omega)]
    unfold st3
    rw [List.foldl_cons, fold_one]
    have : n % 2 = 0 ∨ n % 2 = 1 := by omega
    rcases this with e | e <;> (rw [e]; unfold step3; simp)
theorem pc_nonneg (n : Int) : 0 ≤ pc n := by unfold pc; omega
/-- what the carries make -/
def kum (a b c : Int) : Int := pc a + pc b + c - pc (a + b + c)
theorem kum_step {a b c : Int} (ha : 0 ≤ a) (hb : 0 ≤ b) (hc : 0 ≤ c) (hc1 : c ≤ 1) : kum a b c = (a % 2 + b % 2 + c) / 2 + kum (a / 2) (b / 2) ((a % 2 + b % 2 + c) / 2) := by
  unfold kum
  rw [pc_step ha, pc_step hb, pc_step (n := a + b + c) (by omega)]
  rw [show (a + b + c) / 2 = a / 2 + b / 2 + (a % 2 + b % 2 + c) / 2 from by omega]
  omega
theorem kum_end {c : Int} (hc : 0 ≤ c) (hc1 : c ≤ 1) : kum 0 0 c = 0 := by
  have : c = 0 ∨ c = 1 := by omega
  rcases this with rfl | rfl <;> decide +kernel
theorem step3_1 {o z k : Nat} {x : Int} (hx : x = 1) : step3 (o, z, k) x = (o + 1, z, k) := by unfold step3; rw [if_pos hx]
theorem step3_0 {o z k : Nat} {x : Int} (hx : x ≠ 1) : step3 (o, z, k) x = (o, z + 1, if o = 0 then k + 1 else k) := by unfold step3; rw [if_neg hx]
theorem fold_low (l : List Int) : ∀ (o z k z' : Nat), (l.foldl step3 (o, z, k)).2.2 = k + (l.foldl step3 (o, z', 0)).2.2 := by
  induction l with
  | nil => intro o z k z'; simp
  | cons x l ih =>
    intro o z k z'
    rw [List.foldl_cons, List.foldl_cons]
    by_cases hx : x = 1
    · rw [step3_1 hx, step3_1 hx]; exact ih _ _ _ _
    · rw [step3_0 hx, step3_0 hx]
      by_cases ho : o = 0
      · rw [if_pos ho, if_pos ho, ih o (z + 1) (k + 1) 0, ih o (z' + 1) (0 + 1) 0]; omega
      · rw [if_neg ho, if_neg ho]; exact ih _ _ _ _
theorem fold_low0 (l : List Int) : ∀ (o z k : Nat), o ≠ 0 → (l.foldl step3 (o, z, k)).2.2 = k := by
  induction l with
  | nil => intro o z k _; rfl
  | cons x l ih =>
    intro o z k ho
    rw [List.foldl_cons]
    by_cases hx : x = 1
    · rw [step3_1 hx]; exact ih _ _ _ (by simp)
    · rw [step3_0 hx, if_neg ho]; exact ih _ _ _ ho
def lo0 (n : Int) : Int := ((st3 (digs 1 n)).2.2 : Nat)
def zs (n : Int) : Int := ((st3 (digs 1 n)).2.1 : Nat)
theorem lo0_odd {n : Int} (h : 0 < n) (h1 : n % 2 = 1) : lo0 n = 0 := by
  unfold lo0 st3
  rw [digs_step h, List.foldl_cons, h1]
  have e : step3 (0, 0, 0) 1 = (1, 0, 0) := rfl
  rw [e, fold_low0 _ _ _ _ (by decide)]
  rfl
theorem lo0_even {n : Int} (h : 0 < n) (h1 : n % 2 = 0) : lo0 n = 1 + lo0 (n / 2) := by
  unfold lo0 st3
  rw [digs_step h, List.foldl_cons, h1]
  have e : step3 (0, 0, 0) 0 = (0, 1, 1) := rfl
  rw [e, fold_low _ 0 1 1 0]
  omega
theorem pc_pred : ∀ (k : Nat) (n : Int), 0 < n → n.toNat ≤ k → lo0 n + 1 = pc (n - 1) - pc n + 2 := by
  intro k
  induction k with
  | zero => intro n h hk; omega
  | succ k ih =>
    intro n h hk
    rw [pc_step (n := n - 1) (by omega), pc_step (n := n) (by omega)]
    have : n % 2 = 0 ∨ n % 2 = 1 := by omega
    rcases this with e | e
    · rw [lo0_even h e, show (n - 1) / 2 = n / 2 - 1 from by omega]
      have := ih (n / 2) (by omega) (by omega)
      omega
    · rw [lo0_odd h e, show (n - 1) / 2 = n / 2 from by omega]
      omega
theorem st3_is (n : Int) : ∃ o z l : Nat, st3 (digs 1 n) = (o, z, l) ∧ pc n = o ∧ zs n = z ∧ lo0 n = l := ⟨_, _, _, rfl, rfl, rfl, rfl⟩
theorem digs_len : ∀ (k : Nat) (n : Int), 0 ≤ n → n < 2 ^ k → (digs 1 n).length ≤ k := by
  intro k
  induction k with
  | zero => intro n h0 h1; have : n = 0 := by omega
            subst this; rw [digs_zero]; simp
  | succ k ih =>
    intro n h0 h1
    by_cases hn : n = 0
    · subst hn; rw [digs_zero]; simp
    · rw [digs_step (by omega), List.length_cons]
      have := ih (n / 2) (by omega) (by rw [Int.pow_succ] at h1; omega)
      omega
end Mine
end
section
open PySem PySem.W PyProof.Rows
namespace Mine
section
variable {prog : Program} {w : World} {A : Around} {E : Value → Shared → Prop} {s : Shared} {a b : Int} {t u : Tok} {Q : Value → Shared → Prop}
theorem modI (hb : 1 ≤ b) (h : ∀ v : Int, v = a % b → Q (.int v s.toks) { s with toks := s.toks + 1 }) (hs : b < 1000000) : wpAny (model prog w) A (binaryOp .Mod (.int a t) (.int b u)) Q E s :=
  PyProof.Rows.mod_int' (by omega) (by rw [Int.fmod_eq_emod_of_nonneg _ (by omega)]; exact h _ rfl)
end
def BitsP (a n o z l : Int) : Prop := 0 ≤ n ∧ 0 ≤ o ∧ 0 ≤ z ∧ 0 ≤ l ∧ (digs 1 n).foldl step3 (o.toNat, z.toNat, l.toNat) = st3 (digs 1 a)
theorem bp_one {a n o z l v r : Int} (h : BitsP a n o z l) (hn : 0 < n) (er : r = n % 2) (h1 : r = 1) (e : v = n / 2) : BitsP a v (o + 1) z l := by
  obtain ⟨h0, ho, hz, hl, hf⟩ := h
  subst e
  refine ⟨by omega, by omega, hz, hl, ?_⟩
  rw [digs_step hn, List.foldl_cons, step3_1 (by omega)] at hf
  rw [show (o + 1).toNat = o.toNat + 1 from by omega]
  exact hf
theorem bp_zero {a n o z l v r : Int} (h : BitsP a n o z l) (hn : 0 < n) (er : r = n % 2) (h1 : r ≠ 1) (e : v = n / 2) (hoz : o = 0) : BitsP a v o (z + 1) (l + 1) := by
  obtain ⟨h0, ho, hz, hl, hf⟩ := h
  subst e
  refine ⟨by omega, ho, by omega, by omega, ?_⟩
  rw [digs_step hn, List.foldl_cons, step3_0 (by omega), if_pos (by omega)] at hf
  rw [show (z + 1).toNat = z.toNat + 1 from by omega, show (l + 1).toNat = l.toNat + 1 from by omega]
  exact hf
theorem bp_more {a n o z l v r : Int} (h : BitsP a n o z l) (hn : 0 < n) (er : r = n % 2) (h1 : r ≠ 1) (e : v = n / 2) (hoz : o ≠ 0) : BitsP a v o (z + 1) l := by
  obtain ⟨h0, ho, hz, hl, hf⟩ := h
  subst e
  refine ⟨by omega, ho, by omega, hl, ?_⟩
  rw [digs_step hn, List.foldl_cons, step3_0 (by omega), if_neg (by omega)] at hf
  rw [show (z + 1).toNat = z.toNat + 1 from by omega]
  exact hf
theorem bp_end {a n o z l : Int} (h : BitsP a n o z l) (hn : ¬ 0 < n) : o = pc a ∧ z = zs a ∧ l = lo0 a := by
  obtain ⟨h0, ho, hz, hl, hf⟩ := h
  have : n = 0 := by omega
  subst this
  rw [digs_zero] at hf
  unfold pc zs lo0
  rw [← hf]
  simp only [List.foldl_nil]
  omega
local macro_rules | `(tactic| walk_at "binaryOp FloorDiv int int") => `(tactic| (refine' fdivI ?a ?b ?c ?_; (case a => omega); (case b => omega); (case c => omega); intro v' e' p' q'))
local macro_rules | `(tactic| walk_at "binaryOp Mod int int") => `(tactic| (refine' modI ?a ?_ ?b; (case a => omega); (case b => omega); intro v' e'))
local macro_rules | `(tactic| walk_at "exec While") => `(tactic| refine Stop.mk ?_)
local macro_rules | `(tactic| walk_at "exec While Compare") => `(tactic| refine Stop.mk ?_)
local macro_rules | `(tactic| walk_at "exec While Compare cons nil") => `(tactic| refine Stop.mk ?_)
local macro_rules | `(tactic| walk_at "exec While BoolOp") => `(tactic| refine Stop.mk ?_)
local macro_rules | `(tactic| walk_at "exec While BoolOp cons nil") => `(tactic| refine Stop.mk ?_)
set_option maxRecDepth 100000 in
set_option maxHeartbeats 1000000 in
theorem bits_c (w : World) (p : Program) (loose : List Str) (mean : ExcName → Option Value) (mg mb : Str → Option Value) (led : List (Addr × Obj)) (a : Int) (ta : Tok) (h0 : 0 ≤ a) (h1 : a ≤ 1024) :
    Calls w p loose mean mg mb 111 [.int a ta] led 4 (fun r led' => ∃ (D : Addr) (t1 t2 t3 : Tok) (c : Nat), r = .ref D ∧ led' = (D, ({ cls := .type "tuple", data := .seq #[.int (pc a) t1, .int (zs a) t2, .int (lo0 a) t3] c } : Obj)) :: led ∧ ∀ q ∈ led, q.1 < D) := by
  w_on
  w_strict (
    unfold Calls
    k_fill
    intros
    rename_i hret
    refine wpAny_call ?_
    k_dflt (refine' code_def ?k1 ?k2 ?k3 ?k4 ?k5 ?kA ?kF ?kK ?k6 ?k7 ?k8 ?k9 ?kB ?_ ?c2 ?c3 ?c4 ?c5; (case kA => exact rfl); (case kF => exact rfl); (case kK => assumption); (case k1 => k_asm); (case k2 => k_asm); (case k3 => k_asm); (case k4 => k_asm); (case k5 => k_asm); (case k6 => k_is); (case k7 => k_is); (case k8 => (dsimp only; omega)); (case k9 => exact BindsTo.of_eq rfl); (case c5 => decide); (case kB => exact locs rfl); (case c2 => exact rfl); (case c3 => exact rfl); (case c4 => exact rfl); k_whole; intro g' L' h' FG' F' N' B' X' T'; (try dsimp only); (try k_fold))
    k_steps
    unfold Stop
    rename Fr _ _ _ _ => FF
    rename News _ _ _ _ => NN
    k_dflt (refine' ksw_while (σ := (Int × Tok) × (Int × Tok) × (Int × Tok) × (Int × Tok)) (fun _ => led) (fun c => [(Str.ofString "number", .int c.1.1 c.1.2), (Str.ofString "ones", .int c.2.1.1 c.2.1.2), (Str.ofString "noughts", .int c.2.2.1.1 c.2.2.1.2), (Str.ofString "low", .int c.2.2.2.1 c.2.2.2.2)]) (fun _ => True) [] (fun c => BitsP a c.1.1 c.2.1.1 c.2.2.1.1 c.2.2.2.1) (fun c => c.1.1.toNat) ((a, _), (0, _), (0, _), (0, _)) FF (News.tail NN) trivial ?hk ?hp ?turn ?hE; (case hk => kst_all); (case hp => exact (show BitsP a a 0 0 0 from ⟨h0, Int.le_refl _, Int.le_refl _, Int.le_refl _, rfl⟩)); (case hE => passes_own))
    clear FF NN
    rintro ⟨⟨n, tn⟩, ⟨o, to⟩, ⟨z, tz⟩, ⟨l, tl⟩⟩ u h tk _ hP F N
    have hP' : BitsP a n o z l := hP
    have hn0 := hP'.1
    clear hP
    dsimp only at F
    k_steps
    all_goals first
      | ((rename News _ _ _ _ => nE); (refine ksw_end ⟨⟨_, _⟩, ⟨_, _⟩, ⟨_, _⟩, ⟨_, _⟩⟩ (by assumption) nE (fun q hq => hq) trivial (by kst_all) (by (intro z k2 k3; (simp only [List.forall_mem_cons] at k2); simp [kstB, k2])) ?_ (by (dsimp only; omega))); first
          | exact bp_one hP' (by omega) (by assumption) (by assumption) (by assumption)
          | exact bp_zero hP' (by omega) (by assumption) (by assumption) (by assumption) (by assumption)
          | exact bp_more hP' (by omega) (by assumption) (by assumption) (by assumption) (by assumption))
      | ((obtain ⟨e1, e2, e3⟩ := bp_end hP' (by omega)); subst e1; subst e2; subst e3; exact hret _ _ _ _ ⟨_, _, _, _, _, rfl, rfl, by assumption⟩ (by k_asm) (by assumption)))
end Mine
end
section
open PySem PySem.W PyProof.Rows
namespace Mine
def CarP (a b x y c m : Int) : Prop := 0 ≤ x ∧ 0 ≤ y ∧ 0 ≤ c ∧ c ≤ 1 ∧ m + kum x y c = kum a b 0
theorem cp_turn {a b x y c m rx ry v x' y' : Int} (h : CarP a b x y c m) (ex : rx = x % 2) (ey : ry = y % 2) (ev : v = (rx + ry + c) / 2) (ex' : x' = x / 2) (ey' : y' = y / 2) : CarP a b x' y' v (m + v) := by
  obtain ⟨h1, h2, h3, h4, h5⟩ := h
  subst ex ey ex' ey'
  have := kum_step h1 h2 h3 h4
  rw [← ev] at this
  exact ⟨by omega, by omega, by omega, by omega, by omega⟩
theorem cp_end {a b x y c m : Int} (h : CarP a b x y c m) (hx : ¬ 0 < x) (hy : ¬ 0 < y) : m = kum a b 0 := by
  obtain ⟨h1, h2, h3, h4, h5⟩ := h
  have e1 : x = 0 := by omega
  have e2 : y = 0 := by omega
  subst e1 e2
  rw [kum_end h3 h4] at h5
  omega
local macro_rules | `(tactic| walk_at "binaryOp FloorDiv int int") => `(tactic| (refine' fdivI ?a ?b ?c ?_; (case a => omega); (case b => omega); (case c => omega); intro v' e' p' q'))
local macro_rules | `(tactic| walk_at "binaryOp Mod int int") => `(tactic| (refine' modI ?a ?_ ?b; (case a => omega); (case b => omega); intro v' e'))
local macro_rules | `(tactic| walk_at "exec While BoolOp") => `(tactic| refine Stop.mk ?_)
local macro_rules | `(tactic| walk_at "exec While BoolOp cons nil") => `(tactic| refine Stop.mk ?_)
set_option maxRecDepth 100000 in
set_option maxHeartbeats 1000000 in
theorem carries_c (w : World) (p : Program) (loose : List Str) (mean : ExcName → Option Value) (mg mb : Str → Option Value) (led : List (Addr × Obj)) (a b : Int) (ta tb : Tok) (h0 : 0 ≤ a) (h1 : 0 ≤ b) :
    Calls w p loose mean mg mb 118 [.int a ta, .int b tb] led 4 (fun r led' => ∃ (t : Tok), r = .int (kum a b 0) t ∧ led' = led) := by
  w_on
  w_strict (
    unfold Calls
    k_fill
    intros
    rename_i hret
    refine wpAny_call ?_
    k_dflt (refine' code_def ?k1 ?k2 ?k3 ?k4 ?k5 ?kA ?kF ?kK ?k6 ?k7 ?k8 ?k9 ?kB ?_ ?c2 ?c3 ?c4 ?c5; (case kA => exact rfl); (case kF => exact rfl); (case kK => assumption); (case k1 => k_asm); (case k2 => k_asm); (case k3 => k_asm); (case k4 => k_asm); (case k5 => k_asm); (case k6 => k_is); (case k7 => k_is); (case k8 => (dsimp only; omega)); (case k9 => exact BindsTo.of_eq rfl); (case c5 => decide); (case kB => exact locs rfl); (case c2 => exact rfl); (case c3 => exact rfl); (case c4 => exact rfl); k_whole; intro g' L' h' FG' F' N' B' X' T'; (try dsimp only); (try k_fold))
    k_steps
    unfold Stop
    rename Fr _ _ _ _ => FF
    rename News _ _ _ _ => NN
    k_dflt (refine' ksw_while (σ := (Int × Tok) × (Int × Tok) × (Int × Tok) × (Int × Tok)) (fun _ => led) (fun c => [(Str.ofString "one", .int c.1.1 c.1.2), (Str.ofString "other", .int c.2.1.1 c.2.1.2), (Str.ofString "carried", .int c.2.2.1.1 c.2.2.1.2), (Str.ofString "many", .int c.2.2.2.1 c.2.2.2.2)]) (fun _ => True) [] (fun c => CarP a b c.1.1 c.2.1.1 c.2.2.1.1 c.2.2.2.1) (fun c => c.1.1.toNat + c.2.1.1.toNat) ((a, _), (b, _), (0, _), (0, _)) FF (News.tail NN) trivial ?hk ?hp ?turn ?hE; (case hk => kst_all); (case hp => exact (show CarP a b a b 0 0 from ⟨h0, h1, Int.le_refl _, by decide, Int.zero_add _⟩)); (case hE => passes_own))
    clear FF NN
    rintro ⟨⟨x, tx⟩, ⟨y, ty⟩, ⟨c, tc⟩, ⟨m, tm⟩⟩ u h tk _ hP F N
    have hP' : CarP a b x y c m := hP
    have hn0 := hP'.1
    have hn1 := hP'.2.1
    have hn2 := hP'.2.2.1
    clear hP
    dsimp only at F
    k_steps
    all_goals first
      | ((rename News _ _ _ _ => nE); (refine ksw_end ⟨⟨_, _⟩, ⟨_, _⟩, ⟨_, _⟩, ⟨_, _⟩⟩ (by assumption) nE (fun q hq => by first | exact hq | exact .tail _ hq) trivial (by kst_all) (by (intro z k2 k3; (simp only [List.forall_mem_cons] at k2); simp [kstB, k2])) (cp_turn hP' (by assumption) (by assumption) (by assumption) (by assumption) (by assumption)) (by (dsimp only; omega))))
      | ((obtain rfl := cp_end hP' (by omega) (by omega)); exact hret _ _ _ _ ⟨_, rfl, rfl⟩ (by k_asm) (by assumption))
    )
end Mine
end
section
open PySem PySem.W PyProof.Rows
namespace Mine
/-- the number that the digits tell -/
def vI (n : Nat) : List Int → Int
  | [] => 0
  | x :: r => x + 2 ^ n * vI n r
theorem vI_append (n : Nat) : ∀ (a b : List Int), vI n (a ++ b) = vI n a + 2 ^ (n * a.length) * vI n b
  | [], b => by simp [vI]
  | x :: a, b => by
    show x + 2 ^ n * vI n (a ++ b) = x + 2 ^ n * vI n a + 2 ^ (n * (a.length + 1)) * vI n b
    rw [vI_append n a b, Nat.mul_add, Nat.mul_one, Int.pow_add, Int.mul_add, ← Int.mul_assoc, Int.mul_comm (2 ^ n) (2 ^ (n * a.length))]
    omega
theorem vI_nonneg (n : Nat) : ∀ (a : List Int), (∀ x ∈ a, 0 ≤ x) → 0 ≤ vI n a
  | [], _ => Int.le_refl _
  | x :: a, h => by
    have h1 := vI_nonneg n a fun y hy => h y (.tail _ hy)
    have h2 := h x (.head _)
    have h3 := Int.mul_nonneg (Int.le_of_lt (pow_pos' n)) h1
    show 0 ≤ x + 2 ^ n * vI n a
    omega
theorem one_le_pow (k : Nat) : (1 : Int) ≤ 2 ^ k := by have := pow_pos' k; omega
theorem mul_ge {a b : Int} (ha : 1 ≤ a) (hb : 0 ≤ b) : b ≤ a * b := by
  have := Int.mul_le_mul_of_nonneg_right ha hb
  omega
theorem vI_part {n : Nat} (a b c : List Int) (h : ∀ x ∈ a ++ b ++ c, 0 ≤ x) : vI n b ≤ vI n (a ++ b ++ c) := by
  rw [List.append_assoc, vI_append, vI_append]
  have ha := vI_nonneg n a fun x hx => h x (by simp [hx])
  have hb := vI_nonneg n b fun x hx => h x (by simp [hx])
  have hc := vI_nonneg n c fun x hx => h x (by simp [hx])
  have h1 := Int.mul_nonneg (Int.le_of_lt (pow_pos' (n * b.length))) hc
  have h2 : vI n b ≤ vI n b + 2 ^ (n * b.length) * vI n c := by omega
  have h3 := mul_ge (one_le_pow (n * a.length)) (show 0 ≤ vI n b + 2 ^ (n * b.length) * vI n c by omega)
  omega
/-- the number of a part -/
def seg (n : Nat) (ns : List Int) (lo k : Nat) : Int := vI n ((ns.drop lo).take k)
theorem seg_nonneg {n lo k : Nat} {ns : List Int} (h : ∀ x ∈ ns, 0 ≤ x) : 0 ≤ seg n ns lo k := vI_nonneg n _ fun x hx => h x (List.mem_of_mem_drop (List.mem_of_mem_take hx))
theorem seg_le {n lo k : Nat} {ns : List Int} (h : ∀ x ∈ ns, 0 ≤ x) : seg n ns lo k ≤ vI n ns := by
  have e : ns = ns.take lo ++ (ns.drop lo).take k ++ (ns.drop lo).drop k := by rw [List.append_assoc, List.take_append_drop, List.take_append_drop]
  have := vI_part (n := n) (ns.take lo) ((ns.drop lo).take k) ((ns.drop lo).drop k) (by rw [← e]; exact h)
  rw [← e] at this
  exact this
theorem seg_one {n lo : Nat} {ns : List Int} (h : lo < ns.length) : seg n ns lo 1 = ns.getD lo 0 := by
  unfold seg
  rw [List.drop_eq_getElem_cons h]
  show ns[lo] + 2 ^ n * 0 = _
  rw [List.getD_eq_getElem?_getD, List.getElem?_eq_getElem h]; simp
theorem seg_add {n lo j k : Nat} {ns : List Int} (h : lo + j ≤ ns.length) : seg n ns lo (j + k) = seg n ns lo j + 2 ^ (n * j) * seg n ns (lo + j) k := by
  unfold seg
  rw [List.take_add, vI_append, List.drop_drop]
  congr 3
  rw [List.length_take, List.length_drop, Nat.min_eq_left (by omega)]
theorem seg_all {n : Nat} {ns : List Int} : seg n ns 0 ns.length = vI n ns := by unfold seg; simp
def In2 (w : World) (p : Program) (loose : List Str) (mean : ExcName → Option Value) (mg mb : Str → Option Value) (f : Addr) (n : Nat) (ns : List Int) (rest : List (Addr × Obj)) (k : Nat) : Prop :=
  ∀ (dp un : Nat) (gd : Option (List Code)) (cn : Str) (cs : Scope) (a : Addr) (ccd : Value) (cl : List (Str × Addr)) (outer : List Env) (A₀ : Around) (base h₀ : Heap) (L : Addr) (m : Str → Option Value) (s : Shared) (Q E : Value → Shared → Prop)
    (lo hi : Int) (tl th : Tok),
    Below A₀ base outer h₀ → Fr h₀ L s.heap m → (hd.heap_39 w.params).In h₀ → News h₀ L s.heap rest → Top p loose mean mg mb h₀ → cs.kind = .function →
    0 ≤ lo → lo < hi → hi ≤ ns.length → hi - lo = k → dp + k < recursionLimit → un + 8 * k < cLine →
    (∀ t h' tk', Fr h₀ L h' m → News h₀ L h' rest → Q (.int (seg n ns lo.toNat k) t) { s with heap := h', toks := tk' }) →
    wpAny (model Challenge.rw_pe0122_01.row.prog w) (ktrTop dp un gd cn cs L a ccd cl outer) (call (.ref f) [.int lo tl, .int hi th]) Q E s
theorem in2_use {w : World} {p : Program} {loose : List Str} {mean : ExcName → Option Value} {mg mb : Str → Option Value} {f : Addr} {n : Nat} {ns : List Int} {rest : List (Addr × Obj)} {k : Nat} (IH : ∀ k' < k, In2 w p loose mean mg mb f n ns rest k')
    {dp un : Nat} {gd : Option (List Code)} {cn : Str} {cs : Scope} {a : Addr} {ccd : Value} {cl : List (Str × Addr)} {outer : List Env} {A₀ : Around} {base h₀ : Heap} {L : Addr} {m : Str → Option Value} {s : Shared} {Q E : Value → Shared → Prop}
    {lo hi : Int} {tl th : Tok}
    (B : Below A₀ base outer h₀) (F : Fr h₀ L s.heap m) (X : (hd.heap_39 w.params).In h₀) (N : News h₀ L s.heap rest) (T : Top p loose mean mg mb h₀) (hk : cs.kind = .function) (hns : ∀ x ∈ ns, 0 ≤ x)
    (h0 : 0 ≤ lo) (h1 : lo < hi) (h2 : hi ≤ ns.length) (h4 : hi - lo < k) (hd : dp + (hi - lo).toNat < recursionLimit) (hu : un + 8 * (hi - lo).toNat < cLine)
    (ret : ∀ (v : Int) (t : Tok) (h' : Heap) (tk' : Nat), v = seg n ns lo.toNat (hi - lo).toNat → 0 ≤ v → v ≤ vI n ns → Fr h₀ L h' m → News h₀ L h' rest → Q (.int v t) { s with heap := h', toks := tk' }) :
    wpAny (model Challenge.rw_pe0122_01.row.prog w) (ktrTop dp un gd cn cs L a ccd cl outer) (call (.ref f) [.int lo tl, .int hi th]) Q E s :=
  IH (hi - lo).toNat (by omega) dp un gd cn cs a ccd cl outer A₀ base h₀ L m s Q E lo hi tl th B F X N T hk h0 h1 h2 (by omega) hd hu
    fun t h' tk' F' N' => ret _ t h' tk' rfl (seg_nonneg hns) (seg_le hns) F' N'
theorem q_eq {Q : Value → Shared → Prop} {x y : Int} {t : Tok} {s : Shared} (e : x = y) (h : Q (.int y t) s) : Q (.int x t) s := by rw [e]; exact h
theorem fin2a {n k : Nat} {ns : List Int} {lo hi : Int} (h0 : 0 ≤ lo) (h2 : hi ≤ ns.length) (hk : hi - lo = k) (he : lo + 1 = hi) : ns.getD lo.toNat 0 = seg n ns lo.toNat k := by
  have : k = 1 := by omega
  subst this
  rw [seg_one (by omega)]
theorem fin2b {n k : Nat} {ns : List Int} {lo hi mid sh up vu vl : Int} (eup : up = vu * 2 ^ sh.toNat) (evu : vu = seg n ns mid.toNat (hi - mid).toNat) (evl : vl = seg n ns lo.toNat (mid - lo).toNat) (esh : sh = (mid - lo) * (n : Int)) (em : mid = (lo + hi) / 2)
    (h0 : 0 ≤ lo) (h1 : lo < hi) (h2 : hi ≤ ns.length) (hk : hi - lo = k) (hne : lo + 1 ≠ hi) : up + vl = seg n ns lo.toNat k := by
  have hs : sh.toNat = n * (mid - lo).toNat := by
    rw [esh]
    obtain ⟨j, hj⟩ := Int.eq_ofNat_of_zero_le (show 0 ≤ mid - lo by omega)
    rw [hj, Nat.mul_comm]
    rfl
  have e := seg_add (n := n) (lo := lo.toNat) (j := (mid - lo).toNat) (k := (hi - mid).toNat) (ns := ns) (by omega)
  rw [show (mid - lo).toNat + (hi - mid).toNat = k from by omega, show lo.toNat + (mid - lo).toNat = mid.toNat from by omega, ← hs, ← evu, ← evl] at e
  rw [e, eup, Int.mul_comm vu]
  omega
local macro_rules | `(tactic| walk_at "call ref") => `(tactic| (k_here; k_dflt (refine' in2_use ?IH ?B ?F ?X ?N ?T ?hk ?hns ?h0 ?h1 ?h2 ?h4 ?hd ?hu ?_; (case IH => assumption); (case B => k_asm); (case F => k_asm); (case X => k_asm); (case N => k_asm); (case T => k_asm); (case hk => first | exact rfl | assumption); (case hns => assumption); (case h0 => omega); (case h1 => omega); (case h2 => omega); (case h4 => omega); (case hd => (dsimp only; omega)); (case hu => (dsimp only; omega)); intro v' t' h' tk' e' p' q' F' N'; (try k_sweep))))
local macro_rules | `(tactic| walk_at "binaryOp RShift int int") => `(tactic| (refine rsh1 ?_; intro v' e'))
local macro_rules | `(tactic| walk_at "binaryOp Mult int int") => `(tactic| (refine mulI (by omega) (by omega) (by omega) ?_; intro v' e' p'))
local macro_rules | `(tactic| walk_at "binaryOp LShift int int") => `(tactic| (refine' lshI ?a ?b ?c ?d ?_; (case a => omega); (case b => omega); (case c => first | assumption | exact Sm.le (by assumption) (by assumption)); (case d => exact sh_fits (by assumption) (by omega) (by omega)); intro v' e' p'))
local macro_rules | `(tactic| walk_at "eval Name") => `(tactic| (k_here; kn_here; k_dflt (refine' nameX_F ?N ?c ?m ?d ?_ ?a ?b; (case a => rfl); (case b => rfl); (case N => k_asm); (case c => rfl); (case m => k_mem); (case d => assumption); k_whole)))
local macro_rules | `(tactic| k_mem) => `(tactic| assumption)
set_option maxRecDepth 100000 in
set_option maxHeartbeats 1000000 in
theorem inner2_c (w : World) (p : Program) (loose : List Str) (mean : ExcName → Option Value) (mg mb : Str → Option Value) {params : Arguments} {body : List Stmt} {scope : Scope} (hA : innerOf 59 0 w.params = some (params, body, scope))
    {f c' l ca ci cn' : Addr} {oc oca oci ocn : Obj} {vsc : Array Value} {tq tn : Tok} {doc pm ctv : Value} {n kk : Nat} {vs : List Value} {ns : List Int} {rest : List (Addr × Obj)}
    (hf : (f, fnMade (Str.ofString "inner") q2 params body scope [(Str.ofString "n", cn'), (Str.ofString "inner", ci), (Str.ofString "digits", ca)] doc pm c' ctv) ∈ rest)
    (hc : (c', oc) ∈ rest) (hcd : oc.data = .fields vsc) (hcq : vsc[1]? = some (.str q2 tq)) (hca : (ca, oca) ∈ rest) (hcad : oca.data = .cell (some (.ref l))) (hci : (ci, oci) ∈ rest) (hcid : oci.data = .cell (some (.ref f)))
    (hcn : (cn', ocn) ∈ rest) (hcnd : ocn.data = .cell (some (.int n tn))) (hl : (l, listOf vs.toArray kk) ∈ rest) (hI : IntsAre vs ns) (hlen : ns.length ≤ 256) (hns : ∀ x ∈ ns, 0 ≤ x) (hS : Sm (vI n ns)) (hn : 1 ≤ n) (hn2 : n ≤ 1000) : ∀ k, In2 w p loose mean mg mb f n ns rest k := by
  cases hA
  intro k
  induction k using Nat.strongRecOn with
  | _ k ih =>
  w_on
  w_strict (
    unfold In2
    k_fill
    intros
    rename_i hret
    refine wpAny_call ?_
    k_dflt (refine' code_nest ?k1 ?k2 ?k3 ?k4 ?k5 ?kA ?kF ?kK ?k6 ?k7 ?k8 ?k9 ?kB ?_ ?c2 ?c3 ?c4 ?c5; (case kA => exact rfl); (case kF => exact rfl); (case kK => assumption); (case k1 => k_asm); (case k2 => k_asm); (case k3 => k_asm); (case k4 => k_asm); (case k5 => k_asm); (case k6 => exact hf); (case k7 => exact codeRec_news (by k_asm) hc (by assumption) (by assumption)); (case k8 => (dsimp only; omega)); (case k9 => exact BindsTo.of_eq rfl); (case c5 => decide); (case kB => exact locs rfl); (case c2 => exact rfl); (case c3 => exact rfl); (case c4 => exact rfl); k_whole; intro g' L' h' FG' F' N' B' X' T'; (try dsimp only); (try k_lift B'); (try k_fold))
    have CH := codeHd_of_K (c := 51) (P := 47) X' (by kernel_rfl)
    k_steps
    · exact q_eq (fin2a (by assumption) (by assumption) (by assumption) (by assumption)) (hret _ _ _ (by k_asm) (by k_asm))
    · exact q_eq (fin2b (by assumption) (by assumption) (by assumption) (by assumption) (by assumption) (by assumption) (by assumption) (by assumption) (by assumption) (by assumption)) (hret _ _ _ (by k_asm) (by k_asm)))
end Mine
end
section
open PySem PySem.W PyProof.Rows
namespace Mine
theorem in2_first {w : World} {p : Program} {loose : List Str} {mean : ExcName → Option Value} {mg mb : Str → Option Value} {f : Addr} {n : Nat} {ns : List Int} {rest : List (Addr × Obj)} (IN : ∀ k, In2 w p loose mean mg mb f n ns rest k)
    {dp un : Nat} {gd : Option (List Code)} {cn : Str} {cs : Scope} {a : Addr} {ccd : Value} {cl : List (Str × Addr)} {outer : List Env} {A₀ : Around} {base h₀ : Heap} {L : Addr} {m : Str → Option Value} {s : Shared} {Q E : Value → Shared → Prop}
    {hi : Int} {tl th : Tok}
    (B : Below A₀ base outer h₀) (F : Fr h₀ L s.heap m) (X : (hd.heap_39 w.params).In h₀) (N : News h₀ L s.heap rest) (T : Top p loose mean mg mb h₀) (hk : cs.kind = .function)
    (h1 : hi = ns.length) (h2 : 0 < ns.length) (h3 : ns.length ≤ 256) (hd : dp + 256 < recursionLimit) (hu : un + 8 * 256 < cLine)
    (ret : ∀ (t : Tok) (h' : Heap) (tk' : Nat), Fr h₀ L h' m → News h₀ L h' rest → Q (.int (vI n ns) t) { s with heap := h', toks := tk' }) :
    wpAny (model Challenge.rw_pe0122_01.row.prog w) (ktrTop dp un gd cn cs L a ccd cl outer) (call (.ref f) [.int 0 tl, .int hi th]) Q E s :=
  IN ns.length dp un gd cn cs a ccd cl outer A₀ base h₀ L m s Q E 0 hi tl th B F X N T hk (by omega) (by omega) (by omega) (by omega) (by omega) (by omega)
    fun t h' tk' F' N' => by rw [show (0 : Int).toNat = 0 from rfl, seg_all]; exact ret t h' tk' F' N'
theorem truthI {prog : Program} {w : World} {A : Around} {E : Value → Shared → Prop} {s : Shared} {h₀ : Heap} {L l : Addr} {news : List (Addr × Obj)} {vs : List Value} {ns : List Int} {kk : Nat} {Q : Bool → Shared → Prop} (N : News h₀ L s.heap news) (hm : (l, listOf vs.toArray kk) ∈ news) (hI : IntsAre vs ns) (hz : ns.length ≤ 100000)
    (h : Q (decide (0 < ns.length)) { s with toks := s.toks + 1 + 1 }) : wpAny (model prog w) A (truthy (.ref l)) Q E s :=
  wpAny_truthy_list (PySem.IsL.isList (n := kk) (N _ hm).1) (by rw [List.size_toArray, hI.length]; omega) (by
    have e : (!vs.toArray.isEmpty) = decide (0 < ns.length) := by
      cases hI with
      | nil => rfl
      | cons => simp
    rw [e]; exact h)
theorem vI_nil {n : Nat} {ns : List Int} (h : ¬ 0 < ns.length) : (0 : Int) = vI n ns := by
  cases ns with
  | nil => rfl
  | cons x r => simp at h
theorem News.cutL {h₀ h : Heap} {L : Addr} {a1 a2 a3 a4 : Addr × Obj} {r : List (Addr × Obj)} (N : News h₀ L h (a1 :: a2 :: a3 :: a4 :: r)) : News h₀ L h r := fun z hz => N z (.tail _ (.tail _ (.tail _ (.tail _ hz))))
local macro_rules | `(tactic| k_all) => `(tactic| exact all_ne2 (by assumption) (by omega) (by assumption))
local macro_rules | `(tactic| walk_at "call ref") => `(tactic| refine Stop.mk ?_)
local macro_rules | `(tactic| walk_at "exec FunctionDef") => `(tactic| refine Stop.mk ?_)
local macro_rules | `(tactic| walk_at "truthy ref") => `(tactic| (k_here; k_dflt (refine' truthI ?N ?m ?I ?z ?_; (case N => k_asm); (case m => k_mem); (case I => assumption); (case z => omega); k_whole)))
local macro_rules | `(tactic| walk_at "call builtin:len") => `(tactic| (k_here; k_dflt (refine' lenI ?N ?m ?I ?z ?_; (case N => k_asm); (case m => k_mem); (case I => assumption); (case z => omega); k_whole); intro v' e'))
local macro_rules | `(tactic| k_mem) => `(tactic| first | with_reducible exact List.Mem.head _ | exact List.mem_append_left _ (by assumption) | (refine List.Mem.tail _ ?_; k_mem))
set_option maxRecDepth 100000 in
set_option maxHeartbeats 1000000 in
theorem d2i_c (w : World) (p : Program) (loose : List Str) (mean : ExcName → Option Value) (mg mb : Str → Option Value) (news tabs : List (Addr × Obj)) (hT : Tabs tabs) (hF : Dis news tabs) (l : Addr) (vs : List Value) (ns : List Int) (kk n : Nat) (tn : Tok)
    (hl : (l, listOf vs.toArray kk) ∈ news) (hI : IntsAre vs ns) (hlen : ns.length ≤ 256) (hns : ∀ x ∈ ns, 0 ≤ x) (hS : Sm (vI n ns)) (hn : 1 ≤ n) (hn2 : n ≤ 1000) :
    Calls w p loose mean mg mb 59 [.ref l, .int n tn] (news ++ tabs) 300 (fun r led' => ∃ (t : Tok) (tabs' : List (Addr × Obj)), r = .int (vI n ns) t ∧ led' = news ++ tabs' ∧ Tabs tabs' ∧ Dis news tabs') := by
  w_on
  w_strict (
    unfold Calls
    k_fill
    intros
    rename_i hret
    refine wpAny_call ?_
    k_dflt (refine' code_defC ?k1 ?k2 ?k3 ?k4 ?k5 ?kA ?kF ?kK ?k6 ?k7 ?k8 ?k9 ?kB ?kD ?_ ?c2 ?c3 ?c4; (case kA => exact rfl); (case kF => exact rfl); (case kK => assumption); (case k1 => k_asm); (case k2 => k_asm); (case k3 => k_asm); (case k4 => k_asm); (case k5 => k_asm); (case k6 => k_is); (case k7 => k_is); (case k8 => (dsimp only; omega)); (case k9 => exact BindsTo.of_eq rfl); (case kB => exact rfl); (case kD => decide +kernel); (case c2 => exact rfl); (case c3 => exact rfl); (case c4 => exact rfl); k_whole; intro g' L' h' tk' cells' FG' F' N' Y' B' X' T' hlt; k_cells Y'; (try simp only [List.cons_append, List.nil_append] at N'); (try dsimp only); (try k_lift B'); (try k_fold))
    have CH := codeHd_of_K (c := 58) (P := 54) X' (by kernel_rfl)
    k_steps
    unfold Stop
    k_dflt (refine' def_step (led := [_, _, _] ++ news) (tabs := tabs) (P := 54) (ln := 48) (co := 4) (qual := q2) ?F ?N T' CH rfl ?nf hT hT.two ⟨rfl, rfl⟩ ?fo ?tr (.inr ⟨rfl, rfl, rfl, rfl⟩) rfl ?q rfl rfl rfl ?_; (case F => k_asm); (case N => k_asm); (case fo => (intro c9; simp [codeAmong, rawInt])); (case tr => (intro c9; simp [TriplesOk, rawInt])); (case q => kernel_rfl); (case nf => (refine Dis.cons ?_ (Dis.cons ?_ (Dis.cons ?_ hF)) <;> exact Dis.of_lt (fun q hq => hlt q (List.mem_append_right _ hq)) (by (show @LE.le Nat _ _ _); omega))))
    intro f9 c9 oc9 vs9 t9 ctv9 doc9 pm9 h9 tk9 tabs9 F9 N9 hT9 hm9 hd9 hv9 hl9 hn9
    simp only [List.cons_append, List.nil_append] at N9
    simp only [List.cons_append, List.nil_append, List.forall_mem_cons] at hl9
    simp only [Dis, List.cons_append, List.nil_append, List.forall_mem_cons] at hn9
    obtain ⟨l91, l92, l93, l96⟩ := hl9
    replace l91 := ltN l91
    replace l92 := ltN l92
    replace l93 := ltN l93
    obtain ⟨n91, n92, n93, n96⟩ := hn9
    have hltn : ∀ p ∈ news, p.1 < L' := fun p hp => hlt p (List.mem_append_left _ hp)
    clear hlt
    show wpAny _ _ (storeName (envOfC _ _ _ _ _) _ _) _ _ _
    k_steps
    · unfold Stop
      rename News _ _ _ _ => NN
      k_dflt (refine' in2_first ?IN ?B ?F ?X NN ?T rfl ?h1 ?h2 hlen ?hd ?hu ?_; (case B => k_asm); (case F => k_asm); (case X => k_asm); (case T => k_asm); (case h1 => assumption); (case h2 => (first | assumption | omega | simp_all)); (case hd => (dsimp only; omega)); (case hu => (dsimp only; omega)); (case IN => exact inner2_c w p loose mean mg mb rfl (.head _) (.tail _ (.tail _ (.tail _ (.tail _ (List.mem_append_right _ hm9))))) hd9 hv9 (.tail _ (.tail _ (.tail _ (.head _)))) (by assumption) (.tail _ (.head _)) (by assumption) (.tail _ (.tail _ (.head _))) (by assumption) (.tail _ (.tail _ (.tail _ (.tail _ (List.mem_append_left _ hl))))) hI hlen hns hS hn hn2))
      intro t8 h8 tk8 F8 N8
      k_steps
      exact hret _ _ _ _ ⟨_, tabs9, rfl, rfl, hT9, n96⟩ (by k_asm) (News.cutL (by assumption))
    · exact q_eq (vI_nil (by assumption)) (hret _ _ _ _ ⟨_, tabs9, rfl, rfl, hT9, n96⟩ (by k_asm) (News.cutL (by assumption))))
end Mine
end
section
open PySem PySem.W PyProof.Rows
namespace Mine
set_option maxRecDepth 100000 in
set_option maxHeartbeats 1000000 in
theorem div21_c (w : World) (p : Program) (loose : List Str) (mean : ExcName → Option Value) (mg mb : Str → Option Value) (led : List (Addr × Obj)) (a b n : Int) (ta tb tn : Tok) (h0 : 0 ≤ a) (hs : Sm a) (hb : 1 ≤ b) (hb2 : b < 1000000) (hn : 0 ≤ n) :
    Calls w p loose mean mg mb 38 [.int a ta, .int b tb, .int n tn] led 4 (fun r led' => ∃ (D : Addr) (t1 t2 : Tok) (c : Nat), r = .ref D ∧ led' = (D, ({ cls := .type "tuple", data := .seq #[.int (a / b) t1, .int (a % b) t2] c } : Obj)) :: led ∧ ∀ q ∈ led, q.1 < D) := by
  w_on
  w_strict (
    unfold Calls
    k_fill
    intros
    rename_i hret
    have hbits := hs.bits h0
    refine wpAny_call ?_
    k_dflt (refine' code_def ?k1 ?k2 ?k3 ?k4 ?k5 ?kA ?kF ?kK ?k6 ?k7 ?k8 ?k9 ?kB ?_ ?c2 ?c3 ?c4 ?c5; (case kA => exact rfl); (case kF => exact rfl); (case kK => assumption); (case k1 => k_asm); (case k2 => k_asm); (case k3 => k_asm); (case k4 => k_asm); (case k5 => k_asm); (case k6 => k_is); (case k7 => k_is); (case k8 => (dsimp only; omega)); (case k9 => exact BindsTo.of_eq rfl); (case c5 => decide); (case kB => exact locs rfl); (case c2 => exact rfl); (case c3 => exact rfl); (case c4 => exact rfl); k_whole; intro g' L' h' FG' F' N' B' X' T'; (try dsimp only); (try k_fold))
    have hlt0 : ∀ q ∈ led, q.1 < h'.objs.size := fun q hq => Heap.lt_size (N' q hq).1
    have e1 : a.fdiv b = a / b := Int.fdiv_eq_ediv_of_nonneg _ (by omega)
    have e2 : a.fmod b = a % b := Int.fmod_eq_emod_of_nonneg _ (by omega)
    k_steps
    rename News _ _ _ _ => NN
    rw [e1, e2] at NN
    exact hret _ _ _ _ ⟨_, _, _, _, rfl, rfl, hlt0⟩ (by k_asm) NN)
end Mine
end
section
open PySem PySem.W PyProof.Rows
namespace Mine
section
variable {σ : Type} {prog : Program} {w : World} {A : Around} {E : Value → Shared → Prop} {s : Shared} {env : Env} {h₀ : Heap} {x : Str} {body : List Stmt} {Q : Flow → Shared → Prop}
/-- a turn's end: what the next turn finds -/
def GoEnd (h₀ : Heap) (L : Addr) (s₁ : Shared) (I : Addr) (it : Obj) (Led : σ → List (Addr × Obj)) (ps : σ → List (Str × Value)) (stored : List Str) (x : Str) (m₀ : Str → Option Value) (P : σ → Prop) (s₂ : Shared) : Prop :=
  ∃ (c : σ) (h' : Heap) (tk : Nat) (m' : Str → Option Value) (news' : List (Addr × Obj)), s₂ = { s₁ with heap := h', toks := tk } ∧ Fr h₀ L h' m' ∧ News h₀ L h' news' ∧ (I, it) ∈ news' ∧ (∀ p ∈ Led c, p ∈ news') ∧ (∀ p ∈ ps c, m' p.1 = some p.2) ∧
    (∀ z, z ≠ x → (∀ p ∈ ps c, z ≠ p.1) → stored.contains z = false → m' z = m₀ z) ∧ P c
def GoPost (h₀ : Heap) (L : Addr) (s₁ : Shared) (I : Addr) (it : Obj) (Led : σ → List (Addr × Obj)) (ps : σ → List (Str × Value)) (stored : List Str) (x : Str) (m₀ : Str → Option Value) (P : σ → Prop) (Q : Flow → Shared → Prop) (f : Flow) (s₂ : Shared) : Prop :=
  match f with
  | .ret v => Q (.ret v) s₂
  | .brk => Q .next s₂
  | _ => GoEnd h₀ L s₁ I it Led ps stored x m₀ P s₂
theorem GoEnd.intro {L : Addr} {s₁ : Shared} {I : Addr} {it : Obj} {Led : σ → List (Addr × Obj)} {ps : σ → List (Str × Value)} {stored : List Str} {m₀ m' : Str → Option Value} {P : σ → Prop} {h' : Heap} {tk : Nat} {news' : List (Addr × Obj)} (c : σ)
    (F : Fr h₀ L h' m') (N : News h₀ L h' news') (hI : (I, it) ∈ news') (hl : ∀ p ∈ Led c, p ∈ news') (hk : ∀ p ∈ ps c, m' p.1 = some p.2) (hr : ∀ z, z ≠ x → (∀ p ∈ ps c, z ≠ p.1) → stored.contains z = false → m' z = m₀ z) (hP : P c) :
    GoEnd h₀ L s₁ I it Led ps stored x m₀ P { s₁ with heap := h', toks := tk } := ⟨c, h', tk, m', news', rfl, F, N, hI, hl, hk, hr, hP⟩
theorem go_unr {L : Addr} {s₁ s₂ : Shared} {I : Addr} {it : Obj} {Led : σ → List (Addr × Obj)} {ps : σ → List (Str × Value)} {stored : List Str} {m₀ : Str → Option Value} {P : σ → Prop} {rest : (Str → Option Value) → List (Addr × Obj) → Prop} {f : Flow}
    (off : ∀ c, P c → ∀ p ∈ Led c, p.1 ≠ I) (hr : ∀ c m', P c → (∀ p ∈ ps c, m' p.1 = some p.2) → (∀ z, z ≠ x → (∀ p ∈ ps c, z ≠ p.1) → stored.contains z = false → m' z = m₀ z) → rest m' (Led c))
    (h : GoPost h₀ L s₁ I it Led ps stored x m₀ P Q f s₂) : UnrPost h₀ L s₁ I it rest Q f s₂ := by
  have fin : GoEnd h₀ L s₁ I it Led ps stored x m₀ P s₂ → UnrEnd h₀ L s₁ I it rest s₂ := by
    rintro ⟨c, h', tk, m', news', rfl, F, N, hI, hl, hk, hz, hP⟩
    exact ⟨h', tk, m', Led c, rfl, F, fun p hp => by
      rcases List.mem_cons.mp hp with rfl | hp
      · exact N _ hI
      · exact N _ (hl p hp), off c hP, hr c m' hP hk hz⟩
  cases f with
  | ret v => exact h
  | brk => exact h
  | next => exact fin h
  | cont => exact fin h
theorem rev_go {I : Addr} {lp : Addr × Obj} {m₀ : Str → Option Value} (Led : σ → List (Addr × Obj)) (ps : σ → List (Str × Value)) (stored : List Str) (P : List Int → List Int → σ → Prop)
    (hlp : ∀ c, lp ∈ Led c) (off : ∀ pre post c, P pre post c → ∀ p ∈ Led c, p.1 ≠ I)
    (turn : ∀ (c : σ) (pre : List Int) (n : Int) (post : List Int) (t : Tok) (u : Str → Option Value) (it : Obj) (h : Heap) (tk : Nat), it.cls = .type "list_reverseiterator" → P pre (n :: post) c →
      Fr h₀ env.locals h (fun y => if y = x then some (.int n t) else kstB (fun z => if stored.contains z then u z else m₀ z) (ps c) y) → News h₀ env.locals h ((I, it) :: Led c) →
      wpAny (model prog w) A (execs body env) (GoPost h₀ env.locals { s with heap := h, toks := tk } I it Led ps stored x m₀ (P (pre ++ [n]) post) Q) E { s with heap := h, toks := tk })
    (done : ∀ (c : σ) (pre : List Int) (u : Str → Option Value) (h : Heap) (tk : Nat), P pre [] c → Fr h₀ env.locals h (fun y => if y = x then u y else kstB (fun z => if stored.contains z then u z else m₀ z) (ps c) y) → News h₀ env.locals h (Led c) → Q .next { s with heap := h, toks := tk }) :
    ∀ (r : List Value) (post : List Int), IntsAre r post → ∀ (pre : List Int) (c : σ) (m : Str → Option Value), P pre post c → (∀ p ∈ ps c, m p.1 = some p.2) → (∀ z, z ≠ x → (∀ p ∈ ps c, z ≠ p.1) → stored.contains z = false → m z = m₀ z) →
      RevRest prog w A E h₀ env x body Q s I lp r m (Led c) := by
  intro r
  induction r with
  | nil =>
    intro post hI pre c m hP h1 h2
    cases hI
    exact RevRest.zero fun h tk F N => done c pre m h tk hP (kst_frOut h1 h2 F) N
  | cons v r ih =>
    intro post hI pre c m hP h1 h2
    cases hI with
    | cons n t hI' =>
      refine RevRest.succ fun it h tk hc F N => ?_
      refine wpAny_mono (turn c pre n _ t m it h tk hc hP (kst_fr h1 h2 F) N) (fun f s₂ hp => ?_) fun _ _ e => e
      exact go_unr (off _ _) (fun c' m' hP' h1' h2' => ⟨hlp c', ih _ hI' (pre ++ [n]) c' m' hP' h1' h2'⟩) hp
theorem list_go {I : Addr} {lp : Addr × Obj} {m₀ : Str → Option Value} (Led : σ → List (Addr × Obj)) (ps : σ → List (Str × Value)) (stored : List Str) (P : List Int → List Int → σ → Prop)
    (hlp : ∀ c, lp ∈ Led c) (off : ∀ pre post c, P pre post c → ∀ p ∈ Led c, p.1 ≠ I)
    (turn : ∀ (c : σ) (pre : List Int) (n : Int) (post : List Int) (t : Tok) (u : Str → Option Value) (it : Obj) (h : Heap) (tk : Nat), it.cls = .type "list_iterator" → P pre (n :: post) c →
      Fr h₀ env.locals h (fun y => if y = x then some (.int n t) else kstB (fun z => if stored.contains z then u z else m₀ z) (ps c) y) → News h₀ env.locals h ((I, it) :: Led c) →
      wpAny (model prog w) A (execs body env) (GoPost h₀ env.locals { s with heap := h, toks := tk } I it Led ps stored x m₀ (P (pre ++ [n]) post) Q) E { s with heap := h, toks := tk })
    (done : ∀ (c : σ) (pre : List Int) (u : Str → Option Value) (h : Heap) (tk : Nat), P pre [] c → Fr h₀ env.locals h (fun y => if y = x then u y else kstB (fun z => if stored.contains z then u z else m₀ z) (ps c) y) → News h₀ env.locals h (Led c) → Q .next { s with heap := h, toks := tk }) :
    ∀ (r : List Value) (post : List Int), IntsAre r post → ∀ (pre : List Int) (c : σ) (m : Str → Option Value), P pre post c → (∀ p ∈ ps c, m p.1 = some p.2) → (∀ z, z ≠ x → (∀ p ∈ ps c, z ≠ p.1) → stored.contains z = false → m z = m₀ z) →
      ListRest prog w A E h₀ env x body Q s I lp r m (Led c) := by
  intro r
  induction r with
  | nil =>
    intro post hI pre c m hP h1 h2
    cases hI
    exact ListRest.zero fun h tk F N => done c pre m h tk hP (kst_frOut h1 h2 F) N
  | cons v r ih =>
    intro post hI pre c m hP h1 h2
    cases hI with
    | cons n t hI' =>
      refine ListRest.succ fun it h tk hc F N => ?_
      refine wpAny_mono (turn c pre n _ t m it h tk hc hP (kst_fr h1 h2 F) N) (fun f s₂ hp => ?_) fun _ _ e => e
      exact go_unr (off _ _) (fun c' m' hP' h1' h2' => ⟨hlp c', ih _ hI' (pre ++ [n]) c' m' hP' h1' h2'⟩) hp
theorem range_go {I : Addr} {a : Int} {n : Nat} {m₀ : Str → Option Value} (Led : σ → List (Addr × Obj)) (ps : σ → List (Str × Value)) (stored : List Str) (P : Nat → σ → Prop)
    (off : ∀ i c, P i c → ∀ p ∈ Led c, p.1 ≠ I)
    (turn : ∀ (c : σ) (i : Nat) (t : Tok) (u : Str → Option Value) (it : Obj) (h : Heap) (tk : Nat), i < n → P i c →
      Fr h₀ env.locals h (fun y => if y = x then some (.int (a + (i : Int)) t) else kstB (fun z => if stored.contains z then u z else m₀ z) (ps c) y) → News h₀ env.locals h ((I, it) :: Led c) →
      wpAny (model prog w) A (execs body env) (GoPost h₀ env.locals { s with heap := h, toks := tk } I it Led ps stored x m₀ (P (i + 1)) Q) E { s with heap := h, toks := tk })
    (done : ∀ (c : σ) (u : Str → Option Value) (h : Heap) (tk : Nat), P n c → Fr h₀ env.locals h (fun y => if y = x then u y else kstB (fun z => if stored.contains z then u z else m₀ z) (ps c) y) → News h₀ env.locals h (Led c) → Q .next { s with heap := h, toks := tk }) :
    ∀ (k i : Nat), i + k = n → ∀ (c : σ) (m : Str → Option Value), P i c → (∀ p ∈ ps c, m p.1 = some p.2) → (∀ z, z ≠ x → (∀ p ∈ ps c, z ≠ p.1) → stored.contains z = false → m z = m₀ z) →
      RangeRest prog w A E h₀ env x body Q s I a n k i m (Led c) := by
  intro k
  induction k with
  | zero =>
    intro i hi c m hP h1 h2
    have : i = n := by omega
    subst this
    exact RangeRest.zero fun h tk F N => done c m h tk hP (kst_frOut h1 h2 F) N
  | succ k ih =>
    intro i hi c m hP h1 h2
    refine RangeRest.succ fun t h tk F N => ?_
    refine wpAny_mono (turn c i t m _ h tk (by omega) hP (kst_fr h1 h2 F) N) (fun f s₂ hp => ?_) fun _ _ e => e
    exact go_unr (off _) (fun c' m' hP' h1' h2' => ih (i + 1) (by omega) c' m' hP' h1' h2') hp
end
end Mine
end
section
open PySem PySem.W PyProof.Rows
namespace Mine
theorem vI_dI (n : Nat) : ∀ (k : Nat) (x : Int), vI n (dI n (k + 1) x) = x
  | 0, x => by show x + 2 ^ n * 0 = x; omega
  | k + 1, x => by
    show x % 2 ^ n + 2 ^ n * vI n (dI n (k + 1) (x / 2 ^ n)) = x
    rw [vI_dI n k]
    exact Int.emod_add_mul_ediv x (2 ^ n)
theorem vI_digs {n : Nat} {a : Int} (hn : 1 ≤ n) : vI n (digs n a) = a := by
  unfold digs
  by_cases h : a = 0
  · rw [if_pos h, h]; rfl
  · rw [if_neg h]
    have := cnt_pos (a := a) hn h
    obtain ⟨k, hk⟩ : ∃ k, cnt n a = k + 1 := ⟨cnt n a - 1, by unfold cnt; omega⟩
    rw [hk, vI_dI]
theorem dI_nonneg (n : Nat) : ∀ (k : Nat) (x : Int), 0 ≤ x → ∀ d ∈ dI n k x, 0 ≤ d
  | 0, _, _, d, h => nomatch h
  | 1, x, hx, d, h => by rcases List.mem_cons.mp h with rfl | h
                         · exact hx
                         · cases h
  | k + 2, x, hx, d, h => by
    rcases List.mem_cons.mp h with rfl | h
    · exact Int.emod_nonneg _ (Int.ne_of_gt (pow_pos' n))
    · exact dI_nonneg n (k + 1) _ (Int.ediv_nonneg hx (Int.le_of_lt (pow_pos' n))) d h
theorem digs_nonneg {n : Nat} {a : Int} (h : 0 ≤ a) : ∀ d ∈ digs n a, 0 ≤ d := by
  unfold digs
  split
  · intro d hd; cases hd
  · exact dI_nonneg n _ a h
/-- long division, the state: what is worked off, what is to come, the quotient's digits, the rest -/
structure DivP (n : Nat) (a b : Int) (pre post qs : List Int) (r : Int) : Prop where
  all : pre ++ post = (digs n a).reverse
  val : vI n pre.reverse = b * vI n qs.reverse + r
  lo : 0 ≤ r
  hi : r < b
  nn : ∀ q ∈ qs, 0 ≤ q
  len : qs.length = pre.length
theorem DivP.digit {n : Nat} {a b r d : Int} {pre post qs : List Int} (h : DivP n a b pre (d :: post) qs r) (h0 : 0 ≤ a) (hn : 1 ≤ n) : 0 ≤ d ∧ d ≤ a := by
  have hm : d ∈ digs n a := by
    have : d ∈ (digs n a).reverse := by rw [← h.all]; simp
    simpa using this
  refine ⟨digs_nonneg h0 d hm, ?_⟩
  obtain ⟨s, t, e⟩ := List.append_of_mem hm
  have hp := vI_part (n := n) s [d] t (by rw [show s ++ [d] ++ t = digs n a from by rw [e]; simp]; exact digs_nonneg h0)
  rw [show s ++ [d] ++ t = digs n a from by rw [e]; simp, vI_digs hn] at hp
  have : vI n [d] = d := by show d + 2 ^ n * 0 = d; omega
  omega
theorem DivP.step {n : Nat} {a b r d v x : Int} {pre post qs : List Int} (h : DivP n a b pre (d :: post) qs r) (hb : 1 ≤ b) (h0 : 0 ≤ d) (ev : v = r * 2 ^ n) (ex : x = v + d) : DivP n a b (pre ++ [d]) post (qs ++ [x / b]) (x % b) := by
  have hv : 0 ≤ v := by rw [ev]; exact Int.mul_nonneg h.lo (Int.le_of_lt (pow_pos' n))
  refine ⟨by rw [← h.all]; simp, ?_, Int.emod_nonneg _ (by omega), Int.emod_lt_of_pos _ (by omega), ?_, by simp [h.len]⟩
  · rw [List.reverse_append, List.reverse_append]
    show d + 2 ^ n * vI n pre.reverse = b * (x / b + 2 ^ n * vI n qs.reverse) + x % b
    have e1 := Int.mul_ediv_add_emod x b
    rw [h.val]
    have e2 : (2 : Int) ^ n * (b * vI n qs.reverse + r) = b * (2 ^ n * vI n qs.reverse) + v := by
      rw [Int.mul_add, ev, ← Int.mul_assoc, ← Int.mul_assoc, Int.mul_comm (2 ^ n) b, Int.mul_comm r]
    rw [e2, Int.mul_add]
    omega
  · intro q hq
    rcases List.mem_append.mp hq with hq | hq
    · exact h.nn q hq
    · rw [List.mem_singleton.mp hq]; exact Int.ediv_nonneg (by omega) (by omega)
theorem DivP.fin {n : Nat} {a b r : Int} {pre qs : List Int} (h : DivP n a b pre [] qs r) (hb : 1 ≤ b) (hn : 1 ≤ n) : vI n qs.reverse = a / b ∧ r = a % b := by
  have e : a = b * vI n qs.reverse + r := by
    rw [← h.val, show pre = (digs n a).reverse from by rw [← h.all]; simp, List.reverse_reverse, vI_digs hn]
  have h1 := h.lo
  have h2 := h.hi
  constructor
  · rw [e, Int.add_comm, Int.add_mul_ediv_left _ _ (by omega), Int.ediv_eq_zero_of_lt h1 h2]; omega
  · rw [e, Int.add_comm, Int.add_mul_emod_self_left, Int.emod_eq_of_lt h1 h2]
theorem offI_of {I : Addr} {it : Obj} : ∀ {l : List (Addr × Obj)}, (∀ p ∈ l, p.1 < I) → OffI I it l
  | [], _ => True.intro
  | p :: _, h => ⟨.inl (Nat.ne_of_lt (h p (.head _))), offI_of fun q hq => h q (.tail _ hq)⟩
theorem ints_snoc {vs : List Value} {ns : List Int} (h : IntsAre vs ns) (x : Int) (t : Tok) : IntsAre (vs ++ [.int x t]) (ns ++ [x]) := by
  induction h with
  | nil => exact .cons x t .nil
  | cons i u _ ih => exact .cons i u ih
theorem ints_rev {vs : List Value} {ns : List Int} (h : IntsAre vs ns) : IntsAre vs.reverse ns.reverse := by
  induction h with
  | nil => exact .nil
  | cons i u _ ih => rw [List.reverse_cons, List.reverse_cons]; exact ints_snoc ih i u
theorem all_ne0 {l : List (Addr × Obj)} {d : Addr} (h : ∀ p ∈ l, p.1 < d) : ∀ p ∈ l, p.1 ≠ d := fun p hp => Nat.ne_of_lt (h p hp)
theorem sh_sm {r v : Int} {n : Nat} (hr : r < 1000000) (h0 : 0 ≤ r) (hn : n ≤ 20) (e : v = r * 2 ^ n) : v < 2000000000000 := by
  have h1 : (2 : Int) ^ n ≤ 2 ^ 20 := by exact_mod_cast Nat.pow_le_pow_right (by decide) hn
  have h2 : r * 2 ^ n ≤ r * 2 ^ 20 := Int.mul_le_mul_of_nonneg_left h1 h0
  omega
theorem Sm.of_mid {x : Int} (h : x < 4000000000000) : Sm x := ⟨Int.lt_trans h (by decide)⟩
theorem digs_short {n : Nat} {a : Int} (hn : 1 ≤ n) (h0 : 0 ≤ a) (hs : Sm a) : (digs n a).length ≤ 200 := by
  unfold digs
  split
  · exact Nat.zero_le _
  · rw [dI_length]
    have := cnt_le hn h0 hs
    unfold cnt
    omega
theorem DivP.short {n : Nat} {a b r : Int} {pre post qs : List Int} (h : DivP n a b pre post qs r) (hn : 1 ≤ n) (h0 : 0 ≤ a) (hs : Sm a) : qs.length ≤ 200 := by
  have h1 := congrArg List.length h.all
  have h2 := digs_short hn h0 hs
  have h3 := h.len
  rw [List.length_append, List.length_reverse] at h1
  omega
theorem nsc {z q : Str} {r : List Str} : ((q :: r).contains z = false) ↔ (z ≠ q ∧ r.contains z = false) := by simp
theorem appV {prog : Program} {w : World} {A : Around} {E : Value → Shared → Prop} {s : Shared} {h₀ : Heap} {L D : Addr} {m : Str → Option Value} {news news' : List (Addr × Obj)} {vs : List Value} {k : Nat} {x : Value} {Q : Value → Shared → Prop} (F : Fr h₀ L s.heap m) (N : News h₀ L s.heap news) (U : Upd D (listOf vs.toArray k) (listOf (vs ++ [x]).toArray (k + 1)) news news') (hz : vs.length ≤ 100000)
    (h : ∀ h', Fr h₀ L h' m → News h₀ L h' news' → Q .none { s with heap := h' }) : wpAny (model prog w) A (call (.builtin "list.append") [.ref D, x]) Q E s :=
  append_K F N (by rw [List.push_toArray]; exact U) h (by rw [List.size_toArray]; exact Nat.le_trans hz (by decide))
theorem revV {prog : Program} {w : World} {A : Around} {E : Value → Shared → Prop} {s : Shared} {h₀ : Heap} {L D : Addr} {m : Str → Option Value} {news news' : List (Addr × Obj)} {vs : List Value} {k : Nat} {Q : Value → Shared → Prop} (F : Fr h₀ L s.heap m) (N : News h₀ L s.heap news) (U : Upd D (listOf vs.toArray k) (listOf vs.reverse.toArray k) news news') (hz : vs.length ≤ 100000)
    (h : ∀ h', Fr h₀ L h' m → News h₀ L h' news' → Q .none { s with heap := h' }) : wpAny (model prog w) A (call (.builtin "list.reverse") [.ref D]) Q E s :=
  kl_reverse F N rfl U (Nat.le_trans hz (by decide)) h
local macro_rules | `(tactic| walk_at "call type:reversed") => `(tactic| (k_here; k_dflt (refine' krv_reversed ?F ?N ?l ?_; (case F => k_asm); (case N => k_asm); (case l => is_list)); intro D' h' F' N' l1; (try k_sweep)))
local macro_rules | `(tactic| walk_at "newList") => `(tactic| (k_here; k_dflt (refine' newList_K ?k1 ?k2 ?_; (case k1 => k_asm); (case k2 => k_asm); k_whole); intro l' h' F' N' l1; (try k_sweep)))
local macro_rules | `(tactic| k_all) => `(tactic| exact all_ne0 (by assumption))
local macro_rules | `(tactic| walk_at "binaryOp LShift int int") => `(tactic| (refine' lshI ?a ?b ?c ?d ?_; (case a => omega); (case b => omega); (case c => exact Sm.of_small (by omega)); (case d => omega); intro v' e' p'))
local macro_rules | `(tactic| walk_at "call ref") => `(tactic| refine Stop.mk ?_)
local macro_rules | `(tactic| walk_at "pyIter ref") => `(tactic| refine Stop.mk ?_)
set_option maxRecDepth 100000 in
set_option maxHeartbeats 1000000 in
theorem dmp_c (w : World) (p : Program) (loose : List Str) (mean : ExcName → Option Value) (mg mb : Str → Option Value) (news tabs : List (Addr × Obj)) (hT : Tabs tabs) (hF : Dis news tabs) (a b : Int) (ta tb : Tok) (h0 : 0 ≤ a) (h1 : a < 1000000000) (hb : 1 ≤ b) (hb2 : b < 1000000) :
    Calls w p loose mean mg mb 66 [.int a ta, .int b tb] (news ++ tabs) 320 (fun r led' => ∃ (D : Addr) (t1 t2 : Tok) (c : Nat) (tabs' : List (Addr × Obj)), r = .ref D ∧ led' = (D, ({ cls := .type "tuple", data := .seq #[.int (a / b) t1, .int (a % b) t2] c } : Obj)) :: (news ++ tabs') ∧ Tabs tabs' ∧ Dis ((D, ({ cls := .type "tuple", data := .seq #[.int (a / b) t1, .int (a % b) t2] c } : Obj)) :: news) tabs' ∧ (∀ q ∈ news, q.1 < D)) := by
  w_on
  w_strict (
    unfold Calls
    k_fill
    intros
    rename_i hret
    have hbb : Builtin.Int.intBits b ≤ 20 := bits_le (by omega) (by omega)
    have hb1 : 1 ≤ Builtin.Int.intBits b := by unfold Builtin.Int.intBits; rw [if_neg (by simp; omega)]; omega
    refine wpAny_call ?_
    k_dflt (refine' code_def ?k1 ?k2 ?k3 ?k4 ?k5 ?kA ?kF ?kK ?k6 ?k7 ?k8 ?k9 ?kB ?_ ?c2 ?c3 ?c4 ?c5; (case kA => exact rfl); (case kF => exact rfl); (case kK => assumption); (case k1 => k_asm); (case k2 => k_asm); (case k3 => k_asm); (case k4 => k_asm); (case k5 => k_asm); (case k6 => k_is); (case k7 => k_is); (case k8 => (dsimp only; omega)); (case k9 => exact BindsTo.of_eq rfl); (case c5 => decide); (case kB => exact locs rfl); (case c2 => exact rfl); (case c3 => exact rfl); (case c4 => exact rfl); k_whole; intro g' L' h' FG' F' N' B' X' T'; (try dsimp only); (try k_fold))
    k_steps
    unfold Stop
    k_dflt (refine' Calls.use (i2d_c w p loose mean mg mb news tabs hT hF a (Builtin.Int.intBits b) _ _ hb1 (by omega) h0 (Sm.of_small h1)) ?B ?F ?X ?N ?T ?hk ?hd ?hu ?_; (case B => k_asm); (case F => k_asm); (case X => k_asm); (case N => k_asm); (case T => k_asm); (case hk => first | exact rfl | assumption); (case hd => (dsimp only; omega)); (case hu => (dsimp only; omega)))
    rintro r9 led9 h9 tk9 ⟨l9, vs9, kk9, tabs9, rfl, rfl, hT9, hI9, hD9⟩ F9 N9
    generalize hnn : Builtin.Int.intBits b = nn at *
    k_steps
    unfold Stop
    rename News _ _ _ _ => NN
    rename Fr _ _ _ _ => FF
    rename ∀ p ∈ _, _ < _ => hltD
    rename ∀ p ∈ (l9, _) :: _, _ < _ => hltq
    rename_i lq _ _ D9 _
    k_dflt (refine iter_revUnr rfl FF NN (offI_of hltD) (.tail _ (.head _)) rfl rfl ?_)
    have hnt : ∀ p ∈ news ++ tabs9, p.1 < lq := fun p hp => hltq p (.tail _ hp)
    have hl9q : l9 < lq := hltq (l9, listOf vs9.toArray kk9) (.head _)
    k_dflt (refine' rev_go (σ := (List Value × Nat × List Int) × (Int × Tok)) (fun c => (lq, listOf c.1.1.toArray c.1.2.1) :: (l9, listOf vs9.toArray kk9) :: (news ++ tabs9)) (fun c => [(Str.ofString "r", .int c.2.1 c.2.2)]) [Str.ofString "q_digit"] (fun pre post c => DivP nn a b pre post c.1.2.2 c.2.1 ∧ IntsAre c.1.1 c.1.2.2) (fun c => .tail _ (.head _)) ?off ?turn ?done vs9.reverse (digs nn a).reverse (ints_rev hI9) [] (([], 0, []), (0, _)) _ ?hP ?h1 ?h2; (case hP => exact ⟨⟨rfl, by show (0 : Int) = b * 0 + 0; omega, Int.le_refl _, by (show (0 : Int) < b; omega), by simp, rfl⟩, .nil⟩); (case h1 => kst_all); (case h2 => (intros; rfl)); (case off => (rintro pre post c _ q hq; (rcases List.mem_cons.mp hq with rfl | hq); exact Nat.ne_of_lt (hltD (lq, listOf #[] 0) (.head _)); exact Nat.ne_of_lt (hltD _ (.tail _ hq)))))
    clear FF NN
    · rintro ⟨⟨qv, qk, qs⟩, ⟨r, tr⟩⟩ pre d post td u it h tk hit ⟨hP, hQ⟩ F N
      dsimp only at F N hP hQ
      have hr0 := hP.lo
      have hr1 := hP.hi
      have hd := hP.digit h0 hb1
      k_steps
      unfold Stop
      rename_i v' e' p'
      have hv := sh_sm (by omega) hr0 hbb e'
      k_dflt (refine' Calls.use (div21_c w p loose mean mg mb _ (v' + d) b nn _ _ _ (by omega) (Sm.of_mid (by omega)) hb hb2 (by omega)) ?B ?F ?X ?N ?T ?hk ?hd ?hu ?_; (case B => k_asm); (case F => k_asm); (case X => k_asm); (case N => k_asm); (case T => k_asm); (case hk => first | exact rfl | assumption); (case hd => (dsimp only; omega)); (case hu => (dsimp only; omega)))
      rintro r8 led8 h8 tk8 ⟨D8, t81, t82, c8, rfl, rfl, hlt8⟩ F8 N8
      k_steps
      have h89 : (D9 : Nat) ≠ lq := fun e => Nat.lt_irrefl _ (e ▸ hltD (lq, listOf #[] 0) (.head _))
      have h88 : (D8 : Nat) ≠ lq := fun e => Nat.lt_irrefl _ (e ▸ hlt8 _ (.tail _ (.head _)))
      have hql : qv.length ≤ 100000 := by rw [hQ.length]; exact Nat.le_trans (hP.short hb1 h0 (Sm.of_small h1)) (by decide)
      have hal : ∀ q ∈ (l9, listOf vs9.toArray kk9) :: (news ++ tabs9), q.1 ≠ lq := fun q hq => Nat.ne_of_lt (hltq q hq)
      k_dflt (refine' appV ?F ?N (.tail (p := (D8, _)) h88 (.tail (p := (D9, _)) h89 (.head hal))) hql ?_; (case F => k_asm); (case N => k_asm))
      intro h7 F7 N7
      k_steps
      exact GoEnd.intro (((qv ++ [_]), qk + 1, qs ++ [(v' + d) / b]), ((v' + d) % b, _)) F7 N7 (.tail _ (.head _)) (fun q hq => .tail _ (.tail _ hq)) (by kst_all) (by (intro z k1 k2 k3; (simp only [List.forall_mem_cons] at k2); (simp only [nsc] at k3); simp [kstB, k1, k2, k3])) ⟨hP.step hb hd.1 e' rfl, ints_snoc hQ _ _⟩
    · rintro ⟨⟨qv, qk, qs⟩, ⟨r, tr⟩⟩ pre u h tk ⟨hP, hQ⟩ F N
      dsimp only at F N hP hQ
      obtain ⟨hf1, hf2⟩ := hP.fin hb hb1
      k_steps
      have hal : ∀ q ∈ (l9, listOf vs9.toArray kk9) :: (news ++ tabs9), q.1 ≠ lq := fun q hq => Nat.ne_of_lt (hltq q hq)
      have hq2 := hP.short hb1 h0 (Sm.of_small h1)
      have hql : qv.length ≤ 100000 := by rw [hQ.length]; exact Nat.le_trans hq2 (by decide)
      k_dflt (refine' revV ?F ?N (.head hal) hql ?_; (case F => k_asm); (case N => k_asm))
      intro h7 F7 N7
      k_steps
      unfold Stop
      have hsm : Sm (vI nn qs.reverse) := by rw [hf1]; exact Sm.of_small (Int.lt_of_le_of_lt (Int.ediv_le_self _ h0) h1)
      have hD7 : Dis ((lq, listOf qv.reverse.toArray qk) :: (l9, listOf vs9.toArray kk9) :: news) tabs9 := Dis.cons (fun q hq => Nat.ne_of_lt (hltq q (.tail _ (List.mem_append_right _ hq)))) hD9
      k_dflt (refine' Calls.use (d2i_c w p loose mean mg mb ((lq, listOf qv.reverse.toArray qk) :: (l9, listOf vs9.toArray kk9) :: news) tabs9 hT9 hD7 lq qv.reverse qs.reverse qk nn _ (.head _) (ints_rev hQ) (by rw [List.length_reverse]; omega) (fun x hx => hP.nn x (List.mem_reverse.mp hx)) hsm hb1 (by omega)) ?B ?F ?X ?N ?T ?hk ?hd ?hu ?_; (case B => k_asm); (case F => k_asm); (case X => k_asm); (case N => k_asm); (case T => k_asm); (case hk => first | exact rfl | assumption); (case hd => (dsimp only; omega)); (case hu => (dsimp only; omega)))
      rintro r6 led6 h6 tk6 ⟨t6, tabs6, rfl, rfl, hT6, hD6⟩ F6 N6
      rw [hf1]
      subst hf2
      k_steps
      rename News _ _ _ _ => NN
      rename ∀ p ∈ _, _ < _ => hl
      dsimp only at NN
      exact hret _ _ _ _ ⟨_, _, _, _, tabs6, rfl, rfl, hT6, Dis.cons (fun q hq => Nat.ne_of_lt (hl q (List.mem_append_right _ hq))) hD6.tail.tail, fun q hq => hl q (.tail _ (.tail _ (List.mem_append_left _ hq)))⟩ (by k_asm) (fun z hz => NN z (by rcases List.mem_cons.mp hz with rfl | hz; exact .head _; exact .tail _ (.tail _ (.tail _ hz)))))
end Mine
end
section
open PySem PySem.W PyProof.Rows
namespace Mine
/-- a division's tuple -/
def dmT (q r : Int) (t1 t2 : Tok) (c : Nat) : Obj := { cls := .type "tuple", data := .seq #[.int q t1, .int r t2] c }
local macro_rules | `(tactic| walk_at "call ref") => `(tactic| refine Stop.mk ?_)
set_option maxRecDepth 100000 in
set_option maxHeartbeats 1000000 in
theorem idm_c (w : World) (p : Program) (loose : List Str) (mean : ExcName → Option Value) (mg mb : Str → Option Value) (news tabs : List (Addr × Obj)) (hT : Tabs tabs) (hF : Dis news tabs) (a b : Int) (ta tb : Tok) (h0 : 0 ≤ a) (h1 : a < 1000000000) (hb : 1 ≤ b) (hb2 : b < 1000000) :
    Calls w p loose mean mg mb 73 [.int a ta, .int b tb] (news ++ tabs) 330 (fun r led' => ∃ (D : Addr) (t1 t2 : Tok) (c : Nat) (tabs' : List (Addr × Obj)), r = .ref D ∧ led' = (D, ({ cls := .type "tuple", data := .seq #[.int (a / b) t1, .int (a % b) t2] c } : Obj)) :: (news ++ tabs') ∧ Tabs tabs' ∧ Dis ((D, ({ cls := .type "tuple", data := .seq #[.int (a / b) t1, .int (a % b) t2] c } : Obj)) :: news) tabs' ∧ (∀ q ∈ news, q.1 < D)) := by
  w_on
  w_strict (
    unfold Calls
    k_fill
    intros
    rename_i hret
    refine wpAny_call ?_
    k_dflt (refine' code_def ?k1 ?k2 ?k3 ?k4 ?k5 ?kA ?kF ?kK ?k6 ?k7 ?k8 ?k9 ?kB ?_ ?c2 ?c3 ?c4 ?c5; (case kA => exact rfl); (case kF => exact rfl); (case kK => assumption); (case k1 => k_asm); (case k2 => k_asm); (case k3 => k_asm); (case k4 => k_asm); (case k5 => k_asm); (case k6 => k_is); (case k7 => k_is); (case k8 => (dsimp only; omega)); (case k9 => exact BindsTo.of_eq rfl); (case c5 => decide); (case kB => exact locs rfl); (case c2 => exact rfl); (case c3 => exact rfl); (case c4 => exact rfl); k_whole; intro g' L' h' FG' F' N' B' X' T'; (try dsimp only); (try k_fold))
    k_steps
    all_goals (try (exfalso; omega))
    unfold Stop
    k_dflt (refine' Calls.use (dmp_c w p loose mean mg mb news tabs hT hF a b _ _ h0 h1 hb hb2) ?B ?F ?X ?N ?T ?hk ?hd ?hu ?_; (case B => k_asm); (case F => k_asm); (case X => k_asm); (case N => k_asm); (case T => k_asm); (case hk => first | exact rfl | assumption); (case hd => (dsimp only; omega)); (case hu => (dsimp only; omega)))
    rintro r9 led9 h9 tk9 ⟨D9, t1, t2, c9, tabs9, rfl, rfl, hT9, hD9, hl9⟩ F9 N9
    k_steps
    rename News _ _ _ _ => NN
    exact hret _ _ _ _ ⟨_, _, _, _, tabs9, rfl, rfl, hT9, hD9, hl9⟩ (by k_asm) NN)
end Mine
end
section
open PySem PySem.W PyProof.Rows
namespace Mine
theorem pw_lt {t : Nat} (h : t ≤ 16) : (2 : Int) ^ t < 1000000 := by
  have h1 : (2 : Int) ^ t ≤ 2 ^ 16 := by exact_mod_cast Nat.pow_le_pow_right (by decide) h
  omega
local macro_rules | `(tactic| walk_at "binaryOp Mod int int") => `(tactic| (refine' modI ?a ?_ ?b; (case a => omega); (case b => omega); intro v' e'))
local macro_rules | `(tactic| walk_at "call ref") => `(tactic| refine Stop.mk ?_)
set_option maxRecDepth 100000 in
set_option maxHeartbeats 1000000 in
theorem odd_c (w : World) (p : Program) (loose : List Str) (mean : ExcName → Option Value) (mg mb : Str → Option Value) (news tabs : List (Addr × Obj)) (hT : Tabs tabs) (hF : Dis news tabs) (a : Int) (t : Nat) (ta tb : Tok) (h0 : 0 ≤ a) (h1 : a < 1000000000) (ht : t ≤ 16) (hr : a % 2 ^ t = 0) (hq : a / 2 ^ t % 2 = 1) :
    Calls w p loose mean mg mb 125 [.int a ta, .int t tb] (news ++ tabs) 340 (fun r led' => ∃ (tabs' : List (Addr × Obj)), r = .bool true ∧ led' = news ++ tabs' ∧ Tabs tabs' ∧ Dis news tabs') := by
  w_on
  w_strict (
    unfold Calls
    k_fill
    intros
    rename_i hret
    refine wpAny_call ?_
    k_dflt (refine' code_def ?k1 ?k2 ?k3 ?k4 ?k5 ?kA ?kF ?kK ?k6 ?k7 ?k8 ?k9 ?kB ?_ ?c2 ?c3 ?c4 ?c5; (case kA => exact rfl); (case kF => exact rfl); (case kK => assumption); (case k1 => k_asm); (case k2 => k_asm); (case k3 => k_asm); (case k4 => k_asm); (case k5 => k_asm); (case k6 => k_is); (case k7 => k_is); (case k8 => (dsimp only; omega)); (case k9 => exact BindsTo.of_eq rfl); (case c5 => decide); (case kB => exact locs rfl); (case c2 => exact rfl); (case c3 => exact rfl); (case c4 => exact rfl); k_whole; intro g' L' h' FG' F' N' B' X' T'; (try dsimp only); (try k_fold))
    k_steps
    unfold Stop
    rw [Int.toNat_natCast]
    have hp1 := pow_pos' t
    have hp2 := pw_lt ht
    generalize (2 : Int) ^ t = b at *
    k_dflt (refine' Calls.use (idm_c w p loose mean mg mb news tabs hT hF a b _ _ h0 h1 hp1 hp2) ?B ?F ?X ?N ?T ?hk ?hd ?hu ?_; (case B => k_asm); (case F => k_asm); (case X => k_asm); (case N => k_asm); (case T => k_asm); (case hk => first | exact rfl | assumption); (case hd => (dsimp only; omega)); (case hu => (dsimp only; omega)))
    rintro r9 led9 h9 tk9 ⟨D9, t1, t2, c9, tabs9, rfl, rfl, hT9, hD9, hl9⟩ F9 N9
    rw [hr] at *
    generalize a / b = q at *
    k_steps
    all_goals (try (exfalso; omega))
    rename News _ _ _ _ => NN
    exact hret _ _ _ _ ⟨tabs9, by rw [beq_iff_eq.mpr (by omega)], rfl, hT9, hD9.tail⟩ (by k_asm) (fun z hz => NN z (.tail _ hz)))
end Mine
end
section
open PySem PySem.W PyProof.Rows
namespace Mine
def lawDef : Stmt := Challenge.pw_pe0122_01.main.body.getLast?.getD (.Pass ⟨0, 0, 0, 0⟩)
def lawBody : List Stmt := match lawDef with | .FunctionDef _ _ b _ _ _ _ _ _ _ => b | _ => []
def lawScope : Scope := match lawDef with | .FunctionDef _ _ _ _ _ _ s _ _ _ => s | _ => Challenge.pw_pe0122_01.main.scope
/-- marks that switch a halt on -/
def HaltFor : Prop := True
def HaltIter : Prop := True
def envL (L fa : Addr) (cd : Value) : Env := envOfC (Str.ofString "law") lawScope L fa cd
end Mine
end
section
open PySem PySem.W PyProof PyProof.Rows PyProof.V
namespace Mine
/-- a dict object that tells f at each of ks -/
def DictI (w : World) (o : Obj) (f : Int → Int) (ks : List Int) : Prop :=
  ∃ kvs D, o.IsDictOf (intKind Challenge.rw_pe0122_01.row.prog w) kvs ∧ PyProof.V.FlatPairs PyData.int kvs D ∧ D.length ≤ ks.length ∧ ∀ k ∈ ks, PySem.Spec.lookup (.int k) D = some (.int (f k))
section
variable {w : World} {A : Around} {E : Value → Shared → Prop} {s : Shared} {h₀ : Heap} {L d : Addr} {m : Str → Option Value} {news : List (Addr × Obj)} {o : Obj} {f : Int → Int} {ks : List Int} {k x : Int} {t u : Tok} {g : Obj → List (Addr × Obj)}
theorem setI {Q : Unit → Shared → Prop} (hv : x = f k) (F : Fr h₀ L s.heap m) (N : News h₀ L s.heap news) (U : UpdF d o news g) (hd : DictI w o f ks) (hz : ks.length ≤ 1000)
    (h : ∀ h' o', Fr h₀ L h' m → News h₀ L h' (g o') → DictI w o' f (ks ++ [k]) → Q () { s with heap := h', toks := s.toks + 1 }) :
    wpAny (model Challenge.rw_pe0122_01.row.prog w) A (setItem (.ref d) (.int k t) (.int x u)) Q E s := by
  obtain ⟨kvs, D, h1, h2, h3, h4⟩ := hd
  refine setItem_K PyProof.V.same_int (intKind_is _ _ _ _) (.int x u) F N U h1 h2 (fun h' o' F' N' hd' hf' => h h' o' F' N' ⟨_, _, hd', hf', ?_, ?_⟩) (Nat.le_trans h3 (Nat.le_trans hz (by decide)))
  · rw [List.length_append]
    exact Nat.le_trans (putD_length_le _ _ _) (by simp; omega)
  · intro q hq
    rw [lookup_putK keyEnc_int]
    split
    · rename_i e; rw [e, hv]
    · rename_i e
      rcases List.mem_append.mp hq with hq | hq
      · exact h4 q hq
      · exact absurd (List.mem_singleton.mp hq) e
theorem getI {Q : Value → Shared → Prop} {pos : Pos} {y : Str} {slice : Expr} (N : News h₀ L s.heap news) (hm : (d, o) ∈ news) (hl : (d == sysModules) = false) (hd : DictI w o f ks) (hk : k ∈ ks)
    (hs : subscripted slice false (.ref d) (.int k t) = operate [.ref d, .int k t] (getItem (.ref d) (.int k t)))
    (h : ∀ t', Q (.int (f k) t') { s with toks := s.toks + 1 }) :
    wpAny (model Challenge.rw_pe0122_01.row.prog w) A (subscriptTail (.Name y pos) slice (.ref d) (.int k t)) Q E s := by
  obtain ⟨kvs, D, h1, h2, h3, h4⟩ := hd
  refine item_intTab (D := D) ⟨hl, kvs, Heap.dictOf_iff.mpr ⟨o, (N _ hm).1, h1⟩, h2⟩ (h4 k hk) (fun v hv => ?_) hs
  have hv0 := hv s.heap
  cases hv0
  exact h _
end
end Mine
end
section
open PySem PySem.W PyProof PyProof.Rows
namespace Mine
theorem rep_len (x : List Nat) : ∀ n, (rep x n).length = n * x.length
  | 0 => by simp [rep]
  | n + 1 => by show (x ++ rep x n).length = _; rw [List.length_append, rep_len x n, Nat.add_one_mul, Nat.add_comm]
theorem mul_len (x : Str) {n : Int} (h : 0 ≤ n) : (Txt.mul x n).length = n.toNat * x.length := by
  obtain ⟨k, rfl⟩ := Int.eq_ofNat_of_zero_le h
  have := congrArg List.length (mul_list x k)
  rw [rep_len] at this
  simpa [Str.length] using this
section
variable {prog : Program} {w : World} {A : Around} {E : Value → Shared → Prop} {s : Shared} {x y : Str} {t u : Tok} {n : Int} {Q : Value → Shared → Prop}
theorem mulS (hx : x.length ≤ 2) (h0 : 0 ≤ n) (h1 : n ≤ 12) (h : ∀ x' t' k, x' = Txt.mul x n → x'.length ≤ 24 → Q (.str x' t') { s with toks := k }) : wpAny (model prog w) A (binaryOp .Mult (.str x t) (.int n u)) Q E s :=
  SB.mul (mulOk_of 2 12 hx h1 (by omega) (by decide) (by decide)) fun t' k => h _ t' k rfl (by
    rw [mul_len x h0]
    exact Nat.mul_le_mul (show n.toNat ≤ 12 by omega) hx)
theorem addS (hx : x.length ≤ 100) (hy : y.length ≤ 100) (h : ∀ x' t' k, x' = x ++ y → x'.length = x.length + y.length → Q (.str x' t') { s with toks := k }) : wpAny (model prog w) A (binaryOp .Add (.str x t) (.str y u)) Q E s :=
  PyProof.Rows.add_str (fun t' k => h _ t' k rfl (by show (x.cps ++ y.cps).size = _; rw [Array.size_append]; rfl)) (Nat.le_trans (Nat.add_le_add hx hy) (by decide))
end
end Mine
end
section
open PySem PySem.W PyProof PyProof.Rows
namespace Mine
def posL (c : Nat) : List Nat → Nat → List Nat
  | [], _ => []
  | a :: r, i => if a = c then i :: posL c r (i + 1) else posL c r (i + 1)
open PySem.StrLaws in
theorem occ_go (x : Str) (c : Nat) : ∀ (k i : Nat) (st : Array Nat × Nat), i + k = x.length + 1 → st.1.size ≤ i → st.2 ≤ i →
    (forIn (List.range' i k) st (occBody x ⟨#[c]⟩ x.length (x.length + 1))).run.1.toList = st.1.toList ++ posL c (x.cps.toList.drop i) i
  | 0, i, st, h, _, _ => by
    rw [List.drop_eq_nil_of_le (by show x.cps.toList.length ≤ i; rw [Array.length_toList]; show x.length ≤ i; omega)]
    simp [posL]
  | k + 1, i, st, h, h1, h2 => by
    rw [List.range'_succ, List.forIn_cons]
    have key := subAt_one x c i
    by_cases hc : x.cps.toList[i]? = some c
    · obtain ⟨ha, hb⟩ := key.mpr hc
      have e : occBody x ⟨#[c]⟩ x.length (x.length + 1) i st = pure (ForInStep.yield (st.1.push i, i + 1)) := by
        unfold occBody
        rw [if_pos ⟨⟨⟨by omega, h2⟩, ha⟩, hb⟩]
        rfl
      rw [e]
      obtain ⟨hlt, hge⟩ := List.getElem?_eq_some_iff.mp hc
      rw [List.drop_eq_getElem_cons hlt, hge]
      have := occ_go x c k (i + 1) (st.1.push i, i + 1) (by omega) (by rw [Array.size_push]; omega) (Nat.le_refl _)
      simp only [pure_bind]
      rw [this]
      simp [posL]
    · have e : occBody x ⟨#[c]⟩ x.length (x.length + 1) i st = pure (ForInStep.yield (st.1, st.2)) := by
        unfold occBody
        rw [if_neg (fun hh => hc (key.mp ⟨hh.1.2, hh.2⟩))]
      rw [e]
      have := occ_go x c k (i + 1) (st.1, st.2) (by omega) (by show st.1.size ≤ i + 1; omega) (by show st.2 ≤ i + 1; omega)
      simp only [pure_bind]
      rw [this]
      by_cases hlt : i < x.cps.toList.length
      · rw [List.drop_eq_getElem_cons hlt]
        have hne : ¬ x.cps.toList[i] = c := fun e => hc (by rw [List.getElem?_eq_getElem hlt, e])
        simp only [posL, if_neg hne]
      · rw [List.drop_eq_nil_of_le (by omega), List.drop_eq_nil_of_le (by omega)]
        simp [posL]
theorem occ_one (x : Str) (c : Nat) : Builtin.Str.occurrences x ⟨#[c]⟩ 0 x.length (x.length + 1) = posL c x.cps.toList 0 := by
  rw [PySem.StrLaws.occ_eq]
  have := occ_go x c (x.length + 1 - 0) 0 (#[], 0) (by omega) (Nat.le_refl _) (Nat.le_refl _)
  simpa using this
theorem posL_len (c : Nat) : ∀ (xs : List Nat) (i : Nat), (posL c xs i).length = xs.count c
  | [], _ => rfl
  | a :: r, i => by
    unfold posL
    by_cases h : a = c
    · rw [if_pos h, List.length_cons, posL_len c r, h, List.count_cons_self]
    · rw [if_neg h, posL_len c r, List.count_cons_of_ne h]
theorem posL_none {c : Nat} : ∀ {xs : List Nat} (i : Nat), c ∉ xs → posL c xs i = []
  | [], _, _ => rfl
  | a :: r, i, h => by
    unfold posL
    rw [if_neg (fun e : a = c => h (by rw [e]; exact .head _))]
    exact posL_none (i + 1) fun hh => h (.tail _ hh)
theorem posL_mid {c : Nat} {B : List Nat} : ∀ {A : List Nat} (i : Nat), c ∉ A → c ∉ B → posL c (A ++ c :: B) i = [i + A.length]
  | [], i, _, hB => by
    show posL c (c :: B) i = _
    unfold posL
    rw [if_pos rfl, posL_none _ hB]
    rfl
  | a :: r, i, h, hB => by
    show posL c (a :: (r ++ c :: B)) i = _
    unfold posL
    rw [if_neg (fun e : a = c => h (by rw [e]; exact .head _)), posL_mid (i + 1) (fun hh => h (.tail _ hh)) hB, List.length_cons]
    congr 1
    omega
theorem count_eq (x : Str) (c : Nat) : Txt.count x ⟨#[c]⟩ = (x.cps.toList.count c : Nat) := by
  unfold Txt.count
  rw [occ_one, posL_len]
theorem rep_count (c d n : Nat) : (rep [c] n).count d = if c = d then n else 0 := by
  induction n with
  | zero => simp [rep]
  | succ n ih =>
    show (c :: rep [c] n).count d = _
    by_cases h : c = d
    · subst h; rw [List.count_cons_self, ih]; simp
    · rw [List.count_cons_of_ne h, ih]; simp [h]
theorem rep_mem {c : Nat} {xs : List Nat} : ∀ {n : Nat}, c ∈ rep xs n → c ∈ xs
  | n + 1, h => (List.mem_append.mp h).elim id rep_mem
theorem rep_count2 (n : Nat) : (rep [35, 32] n).count 35 = n ∧ (rep [35, 32] n).count 46 = 0 := by
  induction n with
  | zero => simp [rep]
  | succ n ih =>
    show (35 :: 32 :: rep [35, 32] n).count 35 = _ ∧ (35 :: 32 :: rep [35, 32] n).count 46 = _
    simp [ih.1, ih.2]
end Mine
end
section
open PySem PySem.W PyProof PyProof.Rows
namespace Mine
theorem strKind_pos (x : Str) : 1 ≤ Builtin.Str.strKind x := by unfold Builtin.Str.strKind; split <;> (try split) <;> decide
theorem nl_is : Str.ofString "\n" = ⟨#[10]⟩ := by decide +kernel
theorem split_two {x : Str} {A B : List Nat} (h : x.cps.toList = A ++ 10 :: B) (hA : 10 ∉ A) (hB : 10 ∉ B) : Txt.split x (Str.ofString "\n") = [⟨A.toArray⟩, ⟨B.toArray⟩] := by
  have hl : x.length = A.length + 1 + B.length := by
    have := congrArg List.length h
    rw [Array.length_toList, List.length_append, List.length_cons] at this
    show x.cps.size = _
    omega
  have hocc : Builtin.Str.occurrences x ⟨#[10]⟩ 0 x.length (x.length + 1) = [A.length] := by
    rw [occ_one, h, posL_mid 0 hA hB, Nat.zero_add]
  have hx : x.cps = (A ++ 10 :: B).toArray := by rw [← h]
  unfold Txt.split
  rw [nl_is, hocc]
  rw [if_neg (by
    have := strKind_pos x
    have h1 : Builtin.Str.strKind ⟨#[10]⟩ = 1 := by decide +kernel
    have h2 : (⟨#[10]⟩ : Str).length = 1 := rfl
    rw [h1, h2, Bool.or_eq_true, decide_eq_true_eq, decide_eq_true_eq]
    omega)]
  rw [if_neg (by simp), StrLaws.partsBetween_eq]
  show [Builtin.Str.strSub x 0 A.length, Builtin.Str.strSub x (A.length + 1) x.length] = _
  unfold Builtin.Str.strSub
  rw [hl, hx]
  congr 1
  · congr 1
    apply Array.toList_inj.mp
    simp [List.extract_eq_take_drop]
  · congr 2
    apply Array.toList_inj.mp
    simp [List.extract_eq_take_drop]
def rowA (o z l : Nat) : List Nat := rep [35, 32] o ++ (rep [46] (1 + l) ++ (if z > 0 then [13] else []))
def rowB (z : Nat) : List Nat := rep [46] (1 + z)
theorem TL_rows (o z l : Nat) : TL o z l = rowA o z l ++ 10 :: rowB z := by
  unfold TL rowA rowB
  by_cases h : z > 0
  · rw [if_pos h, if_pos h]; simp
  · rw [if_neg h, if_neg h]; simp
theorem no_nl_A (o z l : Nat) : 10 ∉ rowA o z l := by
  unfold rowA
  intro h
  rcases List.mem_append.mp h with h | h
  · exact absurd (rep_mem h) (by decide)
  · rcases List.mem_append.mp h with h | h
    · exact absurd (rep_mem h) (by decide)
    · revert h; split <;> decide
theorem no_nl_B (z : Nat) : 10 ∉ rowB z := fun h => absurd (rep_mem h) (by decide)
theorem T_split (o z l : Nat) : Txt.split (T o z l) (Str.ofString "\n") = [⟨(rowA o z l).toArray⟩, ⟨(rowB z).toArray⟩] :=
  split_two (by rw [T_list, TL_rows]) (no_nl_A o z l) (no_nl_B z)
theorem T_hash (o z l : Nat) : Txt.count (T o z l) (Str.ofString "#") = (o : Nat) := by
  rw [show Str.ofString "#" = ⟨#[35]⟩ from by decide +kernel, count_eq, T_list]
  unfold TL
  rw [List.count_append, List.count_append, List.count_append, (rep_count2 o).1, rep_count, rep_count]
  by_cases h : z > 0
  · rw [if_pos h]; simp
  · rw [if_neg h]; simp
theorem A_dots (o z l : Nat) : Txt.count ⟨(rowA o z l).toArray⟩ (Str.ofString ".") = (1 + l : Nat) := by
  rw [show Str.ofString "." = ⟨#[46]⟩ from by decide +kernel, count_eq]
  show (((rowA o z l).count 46 : Nat) : Int) = _
  unfold rowA
  rw [List.count_append, List.count_append, (rep_count2 o).2, rep_count, if_pos rfl]
  by_cases h : z > 0
  · rw [if_pos h]; simp
  · rw [if_neg h]; simp
theorem B_dots (z : Nat) : Txt.count ⟨(rowB z).toArray⟩ (Str.ofString ".") = (1 + z : Nat) := by
  rw [show Str.ofString "." = ⟨#[46]⟩ from by decide +kernel, count_eq]
  show (((rowB z).count 46 : Nat) : Int) = _
  unfold rowB
  rw [rep_count]
  simp
/-- the text of a number: its rows and counts, in ints -/
theorem T_rows {o z l : Int} (ho : 0 ≤ o) (hz : 0 ≤ z) (hl : 0 ≤ l) : ∃ a b : Str, Txt.split (T o z l) (Str.ofString "\n") = [a, b] ∧ Txt.count (T o z l) (Str.ofString "#") = o ∧ Txt.count a (Str.ofString ".") = 1 + l ∧ Txt.count b (Str.ofString ".") = 1 + z := by
  obtain ⟨o', rfl⟩ := Int.eq_ofNat_of_zero_le ho
  obtain ⟨z', rfl⟩ := Int.eq_ofNat_of_zero_le hz
  obtain ⟨l', rfl⟩ := Int.eq_ofNat_of_zero_le hl
  exact ⟨_, _, T_split o' z' l', T_hash o' z' l', by rw [A_dots]; omega, by rw [B_dots]; omega⟩
section
variable {prog : Program} {w : World} {A : Around} {E : Value → Shared → Prop} {s : Shared} {x a b y : Str} {t u : Tok} {h₀ : Heap} {L : Addr} {m : Str → Option Value} {news : List (Addr × Obj)} {Q : Value → Shared → Prop} {k : Int}
theorem splitS (hF : Fr h₀ L s.heap m) (hN : News h₀ L s.heap news) (hsz : x.length ≤ 500) (e : Txt.split x (Str.ofString "\n") = [a, b])
    (h : ∀ D t1 t2 h' k, Fr h₀ L h' m → News h₀ L h' ((D, listOf #[.str a t1, .str b t2] 0) :: news) → (∀ p ∈ news, p.1 < D) → Q (.ref D) { s with heap := h', toks := k }) :
    wpAny (model prog w) A (call (.builtin "str.split") [.str x t, .str (Str.ofString "\n") u]) Q E s := by
  refine KSpl.split1 hF hN (by decide +kernel) (fun D l h' k e' _ F N hlt => ?_) (by rw [sizeLine_eq]; omega)
  rw [e] at e'
  obtain ⟨t1, l1, rfl, e1⟩ := KSpl.cons_of e'
  obtain ⟨t2, l2, rfl, e2⟩ := KSpl.cons_of e1
  obtain rfl := KSpl.nil_of e2
  exact h D t1 t2 h' k F N hlt
theorem countS (e : Txt.count x y = k) (h : ∀ t' k', Q (.int k t') { s with toks := k' }) : wpAny (model prog w) A (call (.builtin "str.count") [.str x t, .str y u]) Q E s :=
  SC.count (by rw [e]; exact h _ _)
end
end Mine
end
section
open PySem PySem.W PyProof.Rows
namespace Mine
def fD (n : Int) : Int := 1 + lo0 n
def fL (n : Int) : Int := 1 + zs n
theorem st_bd {n : Int} (h0 : 0 ≤ n) (h1 : n ≤ 1024) : (0 ≤ pc n ∧ pc n ≤ 11) ∧ (0 ≤ zs n ∧ zs n ≤ 11) ∧ 0 ≤ lo0 n ∧ lo0 n ≤ 11 := by
  have h2 := digs_len 11 n h0 (by omega)
  have h3 := st3_len (digs 1 n)
  unfold pc zs lo0
  omega
theorem tEq1 {o z l : Int} {x x5 x4 x3 x2 x1 x0 : Str} (eT : x = T o z l) (e0 : x0 = x2 ++ x1) (e2 : x2 = x3 ++ Str.ofString "\r\n") (e1 : x1 = Txt.mul (Str.ofString ".") (1 + z)) (e3 : x3 = x5 ++ x4) (e5 : x5 = Txt.mul (Str.ofString "# ") o) (e4 : x4 = Txt.mul (Str.ofString ".") (1 + l)) (hz : 0 < z) : x = x0 := by
  subst e5 e4 e3 e1 e2 e0 eT
  unfold T
  rw [if_pos hz]
theorem tEq2 {o z l : Int} {x x5 x4 x3 x2 x1 x0 : Str} (eT : x = T o z l) (e0 : x0 = x2 ++ x1) (e2 : x2 = x3 ++ Str.ofString "\n") (e1 : x1 = Txt.mul (Str.ofString ".") (1 + z)) (e3 : x3 = x5 ++ x4) (e5 : x5 = Txt.mul (Str.ofString "# ") o) (e4 : x4 = Txt.mul (Str.ofString ".") (1 + l)) (hz : ¬ 0 < z) : x = x0 := by
  subst e5 e4 e3 e1 e2 e0 eT
  unfold T
  rw [if_neg hz]
theorem neS {prog : Program} {w : World} {A : Around} {E : Value → Shared → Prop} {s : Shared} {x y : Str} {t u : Tok} {Q : Value → Shared → Prop} (e : x = y) (h : Q (.bool false) s) : wpAny (model prog w) A (compareOp .NotEq (.str x t) (.str y u)) Q E s :=
  PySem.P.ne_str (by subst e; rw [bne_self_eq_false]; exact h)
structure PB (w : World) (I dM dD dL : Addr) (rest : List (Addr × Obj)) (ns pre post : List Int) (c : (Obj × Obj × Obj) × List (Addr × Obj)) : Prop where
  all : pre ++ post = ns
  dm : DictI w c.1.1 pc pre
  dd : DictI w c.1.2.1 fD pre
  dl : DictI w c.1.2.2 fL pre
  tabs : Tabs c.2
  dis : Dis ((dL, c.1.2.2) :: (dD, c.1.2.1) :: (dM, c.1.1) :: rest) c.2
  off : ∀ q ∈ c.2, q.1 ≠ I
local macro_rules | `(tactic| walk_at "binaryOp Mult str int") => `(tactic| (refine' mulS ?a ?b ?c ?_; (case a => decide); (case b => omega); (case c => omega); intro x' t' k' e' b'))
local macro_rules | `(tactic| walk_at "binaryOp Add str str") => `(tactic| (refine' addS ?a ?b ?_; (case a => omega); (case b => omega); intro x' t' k' e' b'))
local macro_rules | `(tactic| walk_at "compareOp NotEq str str") => `(tactic| refine Stop.mk ?_)
local macro_rules | `(tactic| walk_at "call builtin:str.split") => `(tactic| refine Stop.mk ?_)
local macro_rules | `(tactic| walk_at "call builtin:str.count") => `(tactic| refine Stop.mk ?_)
local macro_rules | `(tactic| walk_at "setItem ref int") => `(tactic| refine Stop.mk ?_)
local macro_rules | `(tactic| walk_at "call ref") => `(tactic| refine Stop.mk ?_)
local macro_rules | `(tactic| walk_at "pyIter ref") => `(tactic| ((have hgo9 : HaltIter := by assumption); clear hgo9; refine Stop.mk ?_))
local macro_rules | `(tactic| k_mem) => `(tactic| first | with_reducible exact List.Mem.head _ | (refine List.Mem.tail _ ?_; k_mem))
set_option maxRecDepth 100000 in
set_option maxHeartbeats 1000000 in
theorem loopB (w : World) (p : Program) (loose : List Str) (mean : ExcName → Option Value) (mg mb : Str → Option Value) (fa : Addr) (cd : Value) (base h₀ : Heap) (L : Addr) (m : Str → Option Value) (s : Shared) (Q : Flow → Shared → Prop) (E : Value → Shared → Prop)
    (hE : PassesOwn (model Challenge.rw_pe0122_01.row.prog w) (callerA.deeper (envL L fa cd)) (envL L fa cd) E) (X : (hd.heap_39 w.params).In h₀) (T : Top p loose mean mg mb h₀) (B : Below callerA base [] h₀) (F : Fr h₀ L s.heap m) (led tabs : List (Addr × Obj))
    (dM dD dL DN : Addr) (oM oD oL oC : Obj) (ws : List Value) (ns : List Int)
    (N : News h₀ L s.heap ((dL, oL) :: (dD, oD) :: (dM, oM) :: (DN, listOf ws.toArray 0) :: (L + 1 + 1, oC) :: (led ++ tabs))) (hC : oC.data = .cell (some (.ref dM)))
    (hm : m (Str.ofString "numbers") = some (.ref DN)) (hmD : m (Str.ofString "dots") = some (.ref dD)) (hmL : m (Str.ofString "last") = some (.ref dL))
    (hI : IntsAre ws ns) (hns : ∀ n ∈ ns, 0 ≤ n ∧ n ≤ 1024) (hlen : ns.length ≤ 100) (hdM : DictI w oM pc []) (hdD : DictI w oD fD []) (hdL : DictI w oL fL []) (hT : Tabs tabs) (hF : Dis ((dL, oL) :: (dD, oD) :: (dM, oM) :: (DN, listOf ws.toArray 0) :: (L + 1 + 1, oC) :: led) tabs)
    (hlo : dM < dD ∧ dD < dL ∧ DN < dM ∧ L + 1 + 1 < dM) (hled : ∀ q ∈ led, q.1 < dM)
    (next : ∀ (oM' oD' oL' : Obj) (tabs' : List (Addr × Obj)) (m' : Str → Option Value) (h : Heap) (tk : Nat), DictI w oM' pc ns → DictI w oD' fD ns → DictI w oL' fL ns → Tabs tabs' → Dis ((dL, oL') :: (dD, oD') :: (dM, oM') :: (DN, listOf ws.toArray 0) :: (L + 1 + 1, oC) :: led) tabs' → Fr h₀ L h m' → (∀ z, [Str.ofString "number", Str.ofString "text", Str.ofString "ones", Str.ofString "noughts", Str.ofString "low", Str.ofString "rows"].contains z = false → m' z = m z) →
      News h₀ L h ((dL, oL') :: (dD, oD') :: (dM, oM') :: (DN, listOf ws.toArray 0) :: (L + 1 + 1, oC) :: (led ++ tabs')) → wpAny (model Challenge.rw_pe0122_01.row.prog w) (callerA.deeper (envL L fa cd)) (execs (lawBody.drop 9) (envL L fa cd)) Q E { s with heap := h, toks := tk }) :
    wpAny (model Challenge.rw_pe0122_01.row.prog w) (callerA.deeper (envL L fa cd)) (execs (lawBody.drop 8) (envL L fa cd)) Q E s := by
  w_on
  w_strict (
    rw [show lawBody.drop 8 = [_, _, _, _, _, _, _, _, _, _, _, _] from rfl]
    rw [show envL L fa cd = envOfC (Str.ofString "law") lawScope L fa cd from rfl, show lawScope = { kind := _, names := _, isGenerator := _, isCoroutine := _, more := _ } from rfl] at *
    revert X
    k_fill
    intro X
    refine wpAny_execs_cons ?_
    (with_unfolding_all refine For_invVF F rfl rfl ?_ (by intro _; rfl) hE)
    k_dflt (refine ldLoc F hm ?_)
    k_dflt (refine iter_listUnr rfl F N (.tail _ (.tail _ (.tail _ (.head _)))) rfl rfl ?_)
    intro I hlt
    k_dflt (refine' list_go (m₀ := m) (σ := (Obj × Obj × Obj) × List (Addr × Obj)) (fun c => (dL, c.1.2.2) :: (dD, c.1.2.1) :: (dM, c.1.1) :: (DN, listOf ws.toArray 0) :: (L + 1 + 1, oC) :: (led ++ c.2)) (fun _ => [(Str.ofString "dots", .ref dD), (Str.ofString "last", .ref dL)]) [Str.ofString "text", Str.ofString "ones", Str.ofString "noughts", Str.ofString "low", Str.ofString "rows"] (fun pre post c => PB w I dM dD dL ((DN, listOf ws.toArray 0) :: (L + 1 + 1, oC) :: led) ns pre post c) (fun c => .tail _ (.tail _ (.tail _ (.head _)))) ?off ?turn ?done ws ns hI [] ((oM, oD, oL), tabs) m ?hP ?h1 ?h2)
    case h1 => exact List.forall_mem_cons.mpr ⟨hmD, List.forall_mem_cons.mpr ⟨hmL, fun q hq => nomatch hq⟩⟩
    case h2 => exact fun _ _ _ _ => rfl
    case hP => exact ⟨rfl, hdM, hdD, hdL, hT, hF, fun q hq => Nat.ne_of_lt (hlt q (.tail _ (.tail _ (.tail _ (.tail _ (.tail _ (List.mem_append_right _ hq)))))))⟩
    case off =>
      intro pre post c hP q hq
      have hi := hP.off
      rcases List.mem_cons.mp hq with rfl | hq
      · exact Nat.ne_of_lt (hlt (dL, oL) (.head _))
      rcases List.mem_cons.mp hq with rfl | hq
      · exact Nat.ne_of_lt (hlt (dD, oD) (.tail _ (.head _)))
      rcases List.mem_cons.mp hq with rfl | hq
      · exact Nat.ne_of_lt (hlt (dM, oM) (.tail _ (.tail _ (.head _))))
      rcases List.mem_cons.mp hq with rfl | hq
      · exact Nat.ne_of_lt (hlt _ (.tail _ (.tail _ (.tail _ (.head _)))))
      rcases List.mem_cons.mp hq with rfl | hq
      · exact Nat.ne_of_lt (hlt _ (.tail _ (.tail _ (.tail _ (.tail _ (.head _))))))
      rcases List.mem_append.mp hq with hq | hq
      · exact Nat.ne_of_lt (hlt q (.tail _ (.tail _ (.tail _ (.tail _ (.tail _ (List.mem_append_left _ hq)))))))
      · exact hi q hq
    case done =>
      rintro ⟨⟨oM', oD', oL'⟩, tabs'⟩ pre u h tk hP F' N'
      have e : pre = ns := by rw [← hP.all]; simp
      subst e
      refine next oM' oD' oL' tabs' _ h tk hP.dm hP.dd hP.dl hP.tabs hP.dis F' (fun z hz => ?_) N'
      rw [nsc] at hz
      by_cases h1 : z = Str.ofString "dots"
      · subst h1; exact hmD.symm
      by_cases h2 : z = Str.ofString "last"
      · subst h2; exact hmL.symm
      simp only [if_neg hz.1, kstB, hz.2, if_neg h1, if_neg h2, Bool.false_eq_true, if_false]
    case turn =>
      have hIL : dL < I := hlt (dL, oL) (.head _)
      clear F N hdM hdD hdL hT hF next hlt
      rintro ⟨⟨oM', oD', oL'⟩, tabs'⟩ pre n post t u it h tk hit hP F' N'
      dsimp only at F' N'
      have hn : 0 ≤ n ∧ n ≤ 1024 := hns n (by rw [← hP.all]; simp)
      have hpl : pre.length ≤ 100 := by have := congrArg List.length hP.all; rw [List.length_append] at this; omega
      obtain ⟨hn0, hn1⟩ := hn
      have hD0 : Dis ((I, it) :: (dL, oL') :: (dD, oD') :: (dM, oM') :: (DN, listOf ws.toArray 0) :: (L + 1 + 1, oC) :: led) tabs' := Dis.cons hP.off hP.dis
      k_steps
      unfold Stop
      k_dflt (refine' Calls.use (worked_c w p loose mean mg mb ((I, it) :: (dL, oL') :: (dD, oD') :: (dM, oM') :: (DN, listOf ws.toArray 0) :: (L + 1 + 1, oC) :: led) tabs' hP.tabs hD0 n _ hn0 hn1 (digs_len 11 n hn0 (by omega))) ?B ?F ?X ?N ?T ?hk ?hd ?hu ?_; (case B => k_asm); (case F => k_asm); (case X => k_asm); (case N => k_asm); (case T => k_asm); (case hk => first | exact rfl | assumption); (case hd => decide); (case hu => decide))
      rintro r9 led9 h9 tk9 ⟨t9, tabs9, rfl, rfl, hT9, hD9⟩ F9 N9
      k_steps
      unfold Stop
      k_dflt (refine' Calls.use (bits_c w p loose mean mg mb ((I, it) :: (dL, oL') :: (dD, oD') :: (dM, oM') :: (DN, listOf ws.toArray 0) :: (L + 1 + 1, oC) :: led ++ tabs9) n _ hn0 hn1) ?B ?F ?X ?N ?T ?hk ?hd ?hu ?_; (case B => k_asm); (case F => k_asm); (case X => k_asm); (case N => k_asm); (case T => k_asm); (case hk => first | exact rfl | assumption); (case hd => decide); (case hu => decide))
      rintro r8 led8 h8 tk8 ⟨D8, t81, t82, t83, c8, rfl, rfl, hlt8⟩ F8 N8
      have hI8 : I < D8 := hlt8 (I, it) (.head _)
      obtain ⟨⟨hb1, hb2⟩, ⟨hb3, hb4⟩, hb5, hb6⟩ := st_bd hn0 hn1
      have eT : TT (digs 1 n) = Mine.T (pc n) (zs n) (lo0 n) := rfl
      obtain ⟨ra, rb, es, ec1, ec2, ec3⟩ := T_rows hb1 hb3 hb5
      rw [← eT] at es ec1
      have hxl : (TT (digs 1 n)).length ≤ 500 := by
        rw [eT]
        exact T_size (o := (st3 (digs 1 n)).1) (z := (st3 (digs 1 n)).2.1) (l := (st3 (digs 1 n)).2.2) (by have := digs_len 11 n hn0 (by omega); have := st3_len (digs 1 n); omega) (by unfold lo0 at hb6; omega)
      have hlit : (Str.ofString "\r\n").length = 2 ∧ (Str.ofString "\n").length = 1 := by decide
      have eD : fD n = 1 + lo0 n := rfl
      have eL : fL n = 1 + zs n := rfl
      generalize hx : TT (digs 1 n) = x at *
      generalize ho : pc n = o at *
      generalize hz : zs n = z at *
      generalize hl : lo0 n = l at *
      have hallM : ∀ q ∈ (DN, listOf ws.toArray 0) :: (L + 1 + 1, oC) :: (led ++ tabs9), q.1 ≠ dM := by
        intro q hq
        rcases List.mem_cons.mp hq with rfl | hq
        · exact Nat.ne_of_lt hlo.2.2.1
        rcases List.mem_cons.mp hq with rfl | hq
        · exact Nat.ne_of_lt hlo.2.2.2
        rcases List.mem_append.mp hq with hq | hq
        · exact Nat.ne_of_lt (hled q hq)
        · exact hD9.tail.tail.tail.head q hq
      have hallD : ∀ o', ∀ q ∈ (dM, o') :: (DN, listOf ws.toArray 0) :: (L + 1 + 1, oC) :: (led ++ tabs9), q.1 ≠ dD := by
        intro o' q hq
        rcases List.mem_cons.mp hq with rfl | hq
        · exact Nat.ne_of_lt hlo.1
        rcases List.mem_cons.mp hq with rfl | hq
        · exact Nat.ne_of_lt (Nat.lt_trans hlo.2.2.1 hlo.1)
        rcases List.mem_cons.mp hq with rfl | hq
        · exact Nat.ne_of_lt (Nat.lt_trans hlo.2.2.2 hlo.1)
        rcases List.mem_append.mp hq with hq | hq
        · exact Nat.ne_of_lt (Nat.lt_trans (hled q hq) hlo.1)
        · exact hD9.tail.tail.head q hq
      have hallL : ∀ o' o'', ∀ q ∈ (dD, o'') :: (dM, o') :: (DN, listOf ws.toArray 0) :: (L + 1 + 1, oC) :: (led ++ tabs9), q.1 ≠ dL := by
        intro o' o'' q hq
        have hML : dM < dL := Nat.lt_trans hlo.1 hlo.2.1
        rcases List.mem_cons.mp hq with rfl | hq
        · exact Nat.ne_of_lt hlo.2.1
        rcases List.mem_cons.mp hq with rfl | hq
        · exact Nat.ne_of_lt hML
        rcases List.mem_cons.mp hq with rfl | hq
        · exact Nat.ne_of_lt (Nat.lt_trans hlo.2.2.1 hML)
        rcases List.mem_cons.mp hq with rfl | hq
        · exact Nat.ne_of_lt (Nat.lt_trans hlo.2.2.2 hML)
        rcases List.mem_append.mp hq with hq | hq
        · exact Nat.ne_of_lt (Nat.lt_trans (hled q hq) hML)
        · exact hD9.tail.head q hq
      k_steps
      all_goals (
        unfold Stop
        refine neS (by first | exact tEq1 eT (by assumption) (by assumption) (by assumption) (by assumption) (by assumption) (by assumption) (by assumption) | exact tEq2 eT (by assumption) (by assumption) (by assumption) (by assumption) (by assumption) (by assumption) (by assumption)) ?_
        k_steps
        unfold Stop
        k_dflt (refine' splitS ?F ?N hxl es ?_; (case F => k_asm); (case N => k_asm))
        intro D7 t71 t72 h7 k7 F7 N7 hlt7
        have h87 : D8 < D7 := hlt7 _ (.head _)
        clear hlt7
        k_steps
        unfold Stop
        k_dflt (refine countS ec1 ?_)
        intro t7 k7
        k_steps
        unfold Stop
        have oML := Nat.lt_trans hlo.1 hlo.2.1
        have oMI := Nat.lt_trans oML hIL
        have oM8 := Nat.lt_trans oMI hI8
        have oM7 := Nat.lt_trans oM8 h87
        have oDI := Nat.lt_trans hlo.2.1 hIL
        have oD8 := Nat.lt_trans oDI hI8
        have oD7 := Nat.lt_trans oD8 h87
        have oL8 := Nat.lt_trans hIL hI8
        have oL7 := Nat.lt_trans oL8 h87
        rename News _ _ _ _ => N6
        rename Fr _ _ _ _ => F6
        k_dflt (refine setI (f := pc) ho.symm F6 N6 (.tail (Nat.ne_of_gt oM7) (.tail (Nat.ne_of_gt oM8) (.tail (Nat.ne_of_gt oMI) (.tail (Nat.ne_of_gt oML) (.tail (Nat.ne_of_gt hlo.1) (.head hallM)))))) hP.dm (Nat.le_trans hpl (by decide)) ?_)
        clear F6 N6
        intro h6 oM6 F6 N6 hdM6
        k_steps
        unfold Stop
        k_dflt (refine countS ec2 ?_)
        intro t6 k6
        k_steps
        unfold Stop
        rename News _ _ _ _ => N5
        rename Fr _ _ _ _ => F5
        k_dflt (refine setI (f := fD) eD.symm F5 N5 (.tail (Nat.ne_of_gt oD7) (.tail (Nat.ne_of_gt oD8) (.tail (Nat.ne_of_gt oDI) (.tail (Nat.ne_of_gt hlo.2.1) (.head (hallD _)))))) hP.dd (Nat.le_trans hpl (by decide)) ?_)
        clear F5 N5
        intro h5 oD5 F5 N5 hdD5
        k_steps
        unfold Stop
        k_dflt (refine countS ec3 ?_)
        intro t5 k5
        k_steps
        unfold Stop
        rename News _ _ _ _ => N4
        rename Fr _ _ _ _ => F4
        k_dflt (refine setI (f := fL) eL.symm F4 N4 (.tail (Nat.ne_of_gt oL7) (.tail (Nat.ne_of_gt oL8) (.tail (Nat.ne_of_gt hIL) (.head (hallL _ _))))) hP.dl (Nat.le_trans hpl (by decide)) ?_)
        clear F4 N4
        intro h4 oL4 F4 N4 hdL4
        k_steps
        exact GoEnd.intro ((oM6, oD5, oL4), tabs9) F4 N4 (.tail _ (.tail _ (.head _))) (fun q hq => .tail _ (.tail _ (.tail _ hq))) (by kst_all) (by (intro z k1 k2 k3; (simp only [List.forall_mem_cons] at k2); (simp only [nsc] at k3); simp [kstB, k1, k2, k3])) ⟨by rw [← hP.all]; simp, hdM6, hdD5, hdL4, hT9, Dis.cons hD9.tail.head (Dis.cons hD9.tail.tail.head (Dis.cons hD9.tail.tail.tail.head hD9.tail.tail.tail.tail)), hD9.head⟩))
end Mine
end
section
open PySem PySem.W PyProof.Rows
namespace Mine
/-- a tuple of two ints -/
def tup2 (a b : Int) (t u : Tok) (c : Nat) : Obj := { cls := .type "tuple", data := .seq #[.int a t, .int b u] c }
theorem fr_kst {h₀ h : Heap} {L : Addr} {m : Str → Option Value} {ps : List (Str × Value)} (F : Fr h₀ L h m) (hk : ∀ p ∈ ps, m p.1 = some p.2) : Fr h₀ L h (kstB m ps) := by
  have em : kstB m ps = m := funext fun y => kstB_eq hk fun _ => rfl
  rw [em]
  exact F
local macro_rules | `(tactic| walk_at "subscriptTail") => `(tactic| (k_here; k_dflt (refine' getI ?N ?m ?l ?d ?k ?s ?_; (case N => k_asm); (case m => k_mem); (case l => assumption); (case d => assumption); (case k => assumption); (case s => with_unfolding_all rfl)); intro t'))
local macro_rules | `(tactic| walk_at "call ref") => `(tactic| refine Stop.mk ?_)
local macro_rules | `(tactic| walk_at "UnrEndW") => `(tactic| refine Stop.mk ?_)
local macro_rules | `(tactic| k_mem) => `(tactic| first | with_reducible exact List.Mem.head _ | (refine List.Mem.tail _ ?_; k_mem))
set_option maxRecDepth 100000 in
set_option maxHeartbeats 1000000 in
theorem loopC (w : World) (p : Program) (loose : List Str) (mean : ExcName → Option Value) (mg mb : Str → Option Value) (fa : Addr) (cd : Value) (base h₀ : Heap) (L : Addr) (m : Str → Option Value) (s : Shared) (Q : Flow → Shared → Prop) (E : Value → Shared → Prop)
    (hE : PassesOwn (model Challenge.rw_pe0122_01.row.prog w) (callerA.deeper (envL L fa cd)) (envL L fa cd) E) (X : (hd.heap_39 w.params).In h₀) (T : Top p loose mean mg mb h₀) (B : Below callerA base [] h₀) (F : Fr h₀ L s.heap m) (led tabs : List (Addr × Obj))
    (dM P1 P2 DP : Addr) (oM oC : Obj) (f : Int → Int) (ks : List Int) (g0 g1 g2 g3 K0 K1 : Int) (t0 t1 t2 t3 : Tok) (c0 c1 : Nat)
    (N : News h₀ L s.heap ((dM, oM) :: (DP, listOf #[.ref P1, .ref P2] 0) :: (P1, tup2 g0 g1 t0 t1 c0) :: (P2, tup2 g2 g3 t2 t3 c1) :: (L + 1 + 1, oC) :: (led ++ tabs))) (hC : oC.data = .cell (some (.ref dM)))
    (hm : m (Str.ofString "pairs") = some (.ref DP)) (hl : (dM == sysModules) = false) (hdI : DictI w oM f ks) (h0 : 0 ≤ g0) (h1 : 0 ≤ g1) (h2 : 0 ≤ g2) (h3 : 0 ≤ g3)
    (hk0 : g0 ∈ ks) (hk1 : g1 ∈ ks) (hk01 : g0 + g1 ∈ ks) (hk2 : g2 ∈ ks) (hk3 : g3 ∈ ks) (hk23 : g2 + g3 ∈ ks) (hK0 : kum g0 g1 0 = K0) (hK1 : kum g2 g3 0 = K1) (hf0 : f g0 + f g1 - f (g0 + g1) = K0) (hf1 : f g2 + f g3 - f (g2 + g3) = K1)
    (next : ∀ (m' : Str → Option Value) (h : Heap) (tk : Nat), Fr h₀ L h m' → (∀ z, [Str.ofString "one", Str.ofString "other"].contains z = false → m' z = m z) →
      News h₀ L h ((dM, oM) :: (DP, listOf #[.ref P1, .ref P2] 0) :: (P1, tup2 g0 g1 t0 t1 c0) :: (P2, tup2 g2 g3 t2 t3 c1) :: (L + 1 + 1, oC) :: (led ++ tabs)) → wpAny (model Challenge.rw_pe0122_01.row.prog w) (callerA.deeper (envL L fa cd)) (execs (lawBody.drop 10) (envL L fa cd)) Q E { s with heap := h, toks := tk }) :
    wpAny (model Challenge.rw_pe0122_01.row.prog w) (callerA.deeper (envL L fa cd)) (execs (lawBody.drop 9) (envL L fa cd)) Q E s := by
  w_on
  w_strict (
    rw [show lawBody.drop 9 = [_, _, _, _, _, _, _, _, _, _, _] from rfl]
    rw [show envL L fa cd = envOfC (Str.ofString "law") lawScope L fa cd from rfl, show lawScope = { kind := _, names := _, isGenerator := _, isCoroutine := _, more := _ } from rfl] at *
    revert X
    k_fill
    intro X
    have F0 := fr_kst (ps := [(Str.ofString "pairs", .ref DP)]) F (List.forall_mem_cons.mpr ⟨hm, fun _ h => nomatch h⟩)
    clear F
    unfold tup2 at N next
    refine wpAny_execs_cons ?_
    (with_unfolding_all refine For_turns F0 ?_ (by intro _; rfl) hE)
    k_dflt (refine ldLoc F0 rfl ?_)
    k_dflt (refine iter_listTurns (vs := [.ref P1, .ref P2]) rfl F0 N (.tail _ (.head _)) rfl rfl ?_)
    intro I hlt
    clear F0 N
    refine ItemsRest.val (fun u1 tk1 F1 => AllObj.cons fun it1 hc1 => AllObj.nil fun N1 => ?_)
    dsimp only [List.cons_append, List.nil_append] at N1
    k_steps
    unfold Stop
    k_dflt (refine' Calls.use (carries_c w p loose mean mg mb _ g0 g1 _ _ h0 h1) ?B ?F ?X ?N ?T ?hk ?hd ?hu ?_; (case B => k_asm); (case F => k_asm); (case X => k_asm); (case N => k_asm); (case T => k_asm); (case hk => first | exact rfl | assumption); (case hd => decide); (case hu => decide))
    rintro r9 led9 h9 tk9 ⟨t9, rfl, rfl⟩ F9 N9
    rw [hK0]
    k_steps
    all_goals (try (exfalso; omega))
    unfold Stop
    rename News _ _ _ _ => N7
    rename Fr _ _ _ _ => F7
    refine ⟨_, _, _, ((dM, oM) :: (DP, listOf #[.ref P1, .ref P2] 0) :: (P1, ({ cls := .type "tuple", data := .seq #[.int g0 t0, .int g1 t1] c0 } : Obj)) :: (P2, ({ cls := .type "tuple", data := .seq #[.int g2 t2, .int g3 t3] c1 } : Obj)) :: (L + 1 + 1, oC) :: (led ++ tabs)), rfl, F7, N7, fun p hp q hq => by rw [List.mem_singleton.mp hq]; exact Nat.ne_of_lt (hlt p hp), ⟨⟨.tail _ (.head _), trivial⟩, ?_⟩⟩
    clear F7 N7
    refine ItemsRest.val (fun u1 tk1 F1 => AllObj.cons fun it1 hc1 => AllObj.nil fun N1 => ?_)
    dsimp only [List.cons_append, List.nil_append] at N1
    k_steps
    unfold Stop
    k_dflt (refine' Calls.use (carries_c w p loose mean mg mb _ g2 g3 _ _ h2 h3) ?B ?F ?X ?N ?T ?hk ?hd ?hu ?_; (case B => k_asm); (case F => k_asm); (case X => k_asm); (case N => k_asm); (case T => k_asm); (case hk => first | exact rfl | assumption); (case hd => decide); (case hu => decide))
    rintro r9 led9 h9 tk9 ⟨t9, rfl, rfl⟩ F9 N9
    rw [hK1]
    k_steps
    all_goals (try (exfalso; omega))
    unfold Stop
    rename News _ _ _ _ => N7
    rename Fr _ _ _ _ => F7
    refine ⟨_, _, _, ((dM, oM) :: (DP, listOf #[.ref P1, .ref P2] 0) :: (P1, ({ cls := .type "tuple", data := .seq #[.int g0 t0, .int g1 t1] c0 } : Obj)) :: (P2, ({ cls := .type "tuple", data := .seq #[.int g2 t2, .int g3 t3] c1 } : Obj)) :: (L + 1 + 1, oC) :: (led ++ tabs)), rfl, F7, N7, fun p hp q hq => by rw [List.mem_singleton.mp hq]; exact Nat.ne_of_lt (hlt p hp), ⟨⟨.tail _ (.head _), trivial⟩, ?_⟩⟩
    clear F7 N7
    refine ItemsRest.zero (fun u1 tk1 F1 N1 => ?_)
    refine next _ _ _ F1 (fun z hz => ?_) N1
    simp only [nsc] at hz
    by_cases e : z = Str.ofString "pairs"
    · subst e; exact hm.symm
    · simp [kstB, hz, e])
end Mine
end
section
open PySem PySem.W PyProof.Rows
namespace Mine
local macro_rules | `(tactic| walk_at "subscriptTail") => `(tactic| (k_here; k_dflt (refine' getI ?N ?m ?l ?d ?k ?s ?_; (case N => k_asm); (case m => k_mem); (case l => assumption); (case d => assumption); (case k => assumption); (case s => with_unfolding_all rfl)); intro t'))
local macro_rules | `(tactic| walk_at "call type:list") => `(tactic| refine Stop.mk ?_)
local macro_rules | `(tactic| walk_at "binaryOp Add ref ref") => `(tactic| refine Stop.mk ?_)
local macro_rules | `(tactic| walk_at "pyIter ref") => `(tactic| refine Stop.mk ?_)
local macro_rules | `(tactic| k_mem) => `(tactic| first | with_reducible exact List.Mem.head _ | (refine List.Mem.tail _ ?_; k_mem))
set_option maxRecDepth 100000 in
set_option maxHeartbeats 1000000 in
theorem loopD (w : World) (p : Program) (loose : List Str) (mean : ExcName → Option Value) (mg mb : Str → Option Value) (fa : Addr) (cd : Value) (base h₀ : Heap) (L : Addr) (m : Str → Option Value) (s : Shared) (Q : Flow → Shared → Prop) (E : Value → Shared → Prop)
    (hE : PassesOwn (model Challenge.rw_pe0122_01.row.prog w) (callerA.deeper (envL L fa cd)) (envL L fa cd) E) (X : (hd.heap_39 w.params).In h₀) (T : Top p loose mean mg mb h₀) (B : Below callerA base [] h₀) (F : Fr h₀ L s.heap m) (led tabs : List (Addr × Obj))
    (dM dD DG : Addr) (oM oD oC oS : Obj) (f g : Int → Int) (ks : List Int) (gs : List Value) (ns : List Int) (size : Int) (ts : Tok)
    (N : News h₀ L s.heap ((dM, oM) :: (dD, oD) :: (DG, listOf gs.toArray 0) :: (L + 1, oS) :: (L + 1 + 1, oC) :: (led ++ tabs))) (hC : oC.data = .cell (some (.ref dM))) (hS : oS.data = .cell (some (.int size ts)))
    (hmD : m (Str.ofString "dots") = some (.ref dD)) (hmG : m (Str.ofString "given") = some (.ref DG)) (hlM : (dM == sysModules) = false) (hlD : (dD == sysModules) = false) (hdM : DictI w oM f ks) (hdD : DictI w oD g ks) (hI : IntsAre gs ns) (hlen : ns.length ≤ 10) (hs0 : 3 ≤ size) (hs1 : size ≤ 8)
    (hk : ∀ n, (1 ≤ n ∧ n ≤ size + 1) ∨ n ∈ ns → n ∈ ks ∧ n - 1 ∈ ks ∧ g n = f (n - 1) - f n + 2)
    (next : ∀ (m' : Str → Option Value) (h : Heap) (tk : Nat), Fr h₀ L h m' → (∀ z, [Str.ofString "number"].contains z = false → m' z = m z) →
      News h₀ L h ((dM, oM) :: (dD, oD) :: (DG, listOf gs.toArray 0) :: (L + 1, oS) :: (L + 1 + 1, oC) :: (led ++ tabs)) → wpAny (model Challenge.rw_pe0122_01.row.prog w) (callerA.deeper (envL L fa cd)) (execs (lawBody.drop 11) (envL L fa cd)) Q E { s with heap := h, toks := tk }) :
    wpAny (model Challenge.rw_pe0122_01.row.prog w) (callerA.deeper (envL L fa cd)) (execs (lawBody.drop 10) (envL L fa cd)) Q E s := by
  w_on
  w_strict (
    rw [show lawBody.drop 10 = [_, _, _, _, _, _, _, _, _, _] from rfl]
    rw [show envL L fa cd = envOfC (Str.ofString "law") lawScope L fa cd from rfl, show lawScope = { kind := _, names := _, isGenerator := _, isCoroutine := _, more := _ } from rfl] at *
    revert X
    k_fill
    intro X
    have F0 := fr_kst (ps := [(Str.ofString "dots", .ref dD), (Str.ofString "given", .ref DG)]) F (List.forall_mem_cons.mpr ⟨hmD, List.forall_mem_cons.mpr ⟨hmG, fun _ h => nomatch h⟩⟩)
    clear F
    refine wpAny_execs_cons ?_
    (with_unfolding_all refine For_invVF F0 rfl rfl ?_ (by intro _; rfl) hE)
    k_steps
    unfold Stop
    rename News _ _ _ _ => N1
    rename Fr _ _ _ _ => F1
    rename IsRange _ _ _ _ _ _ _ _ => rg
    k_dflt (refine kll_range rfl F1 N1 rg (small_one (by omega) (by omega) (by omega) (by omega)) (rangeSize_nat _ _) (by omega) ?_)
    clear F1 N1 rg
    intro D9 us9 c9 h9 tk9 F9 N9 hlt9 hI9
    k_steps
    unfold Stop
    rename News _ _ _ _ => N1
    rename Fr _ _ _ _ => F1
    rename IntsAre gs ns => hI
    k_dflt (refine kmk_add_ints F1 N1 (News.isList N1 (.head _)) (News.isList N1 (.tail _ (.tail _ (.tail _ (.head _))))) hI9 hI ?_ (by rw [rangeKs_length, sizeLine_eq]; omega))
    clear F1 N1
    intro D8 us8 h8 F8 N8 hlt8 hI8
    k_steps
    unfold Stop
    rename News _ _ _ _ => N1
    rename Fr _ _ _ _ => F1
    k_dflt (refine iter_listUnr rfl F1 N1 (.head _) rfl rfl ?_)
    intro I hlt
    k_dflt (refine' list_go (m₀ := m) (σ := Unit) (fun _ => (D8, listOf us8.toArray 0) :: (D9, listOf us9.toArray c9) :: (dM, oM) :: (dD, oD) :: (DG, listOf gs.toArray 0) :: (L + 1, oS) :: (L + 1 + 1, oC) :: (led ++ tabs)) (fun _ => [(Str.ofString "dots", .ref dD), (Str.ofString "given", .ref DG)]) [] (fun pre post _ => pre ++ post = rangeKs 1 (size + 2 - 1).toNat ++ ns) (fun _ => .head _) ?off ?turn ?done us8 _ hI8 [] () _ rfl ?h1 ?h2)
    case h1 => kst_all
    case h2 => (intro z k1 k2 k3; (simp only [List.forall_mem_cons] at k2); simp [kstB, k2])
    case off => exact fun _ _ _ _ q hq => Nat.ne_of_lt (hlt q hq)
    case done =>
      rintro ⟨⟩ pre u h tk hP F' N'
      refine next _ _ _ F' (fun z hz => ?_) (News.tail (News.tail N'))
      simp only [nsc] at hz
      by_cases e1 : z = Str.ofString "dots"
      · subst e1; exact hmD.symm
      by_cases e2 : z = Str.ofString "given"
      · subst e2; exact hmG.symm
      simp [kstB, hz, e1, e2]
    case turn =>
      rename Fr _ _ _ _ => F1
      rename News _ _ _ _ => N1
      clear F1 N1
      rintro ⟨⟩ pre n post t u it h tk hit hP F' N'
      obtain ⟨q1, q2, q3⟩ := hk n (by
        have hm : n ∈ rangeKs 1 (size + 2 - 1).toNat ++ ns := by rw [← hP]; simp
        rcases List.mem_append.mp hm with hm | hm
        · have := mem_rangeKs hm
          exact .inl (by omega)
        · exact .inr hm)
      k_steps
      all_goals (try (exfalso; omega))
      rename News _ _ _ _ => N1
      rename Fr _ _ _ _ => F1
      exact GoEnd.intro () F1 N1 (.head _) (fun q hq => .tail _ hq) (by kst_all) (by (intro z k1 k2 k3; (simp only [List.forall_mem_cons] at k2); simp [kstB, k1, k2])) (by rw [← hP]; simp))
end Mine
end
section
open PySem PySem.W PyProof.Rows
namespace Mine
/-- the rows of the triangle, by plain adding -/
def row : Nat → List Int
  | 0 => [1]
  | n + 1 => [1] ++ ((rangeKs 0 n).map fun k => (row n).getD k.toNat 0 + (row n).getD (k + 1).toNat 0) ++ [1]
def fac : Nat → Int
  | 0 => 1
  | n + 1 => fac n * ((n : Int) + 1)
theorem row_len (n : Nat) : (row n).length = n + 1 := by
  cases n with
  | zero => rfl
  | succ n => unfold row; simp [rangeKs_length]
theorem fac_nonneg (n : Nat) : 0 ≤ fac n := by
  induction n with
  | zero => decide
  | succ n ih => exact Int.mul_nonneg ih (by omega)
theorem row_step {vs : List Value} {i : Nat} (h : IntsAre vs ([1] ++ (rangeKs 0 (1 + (i : Int) - 1 - 0).toNat).map (fun k => (row i).getD k.toNat 0 + (row i).getD (k + 1).toNat 0) ++ [1])) : IntsAre vs (row (i + 1)) := by
  rw [show (1 + (i : Int) - 1 - 0).toNat = i from by omega] at h
  exact h
structure LE where
  o : Obj
  D : Addr
  vs : List Value
  k : Nat
  x : Int
  t : Tok
structure PE (L : Addr) (rest : List (Addr × Obj)) (I : Addr) (i : Nat) (c : LE) : Prop where
  cell : c.o.data = .cell (some (.ref c.D))
  isI : IntsAre c.vs (row i)
  prod : c.x = fac i
  ne : c.D ≠ L + 1 + 1 + 1
  neI : c.D ≠ I
  lt : ∀ q ∈ rest, q.1 < c.D
theorem allLt_mem {d : Addr} : ∀ {l : List (Addr × Obj)}, AllLt d l → ∀ q ∈ l, q.1 < d
  | [], _, _, h => nomatch h
  | p :: r, x, q, h => by
    rcases List.mem_cons.mp h with rfl | h
    · exact x.1
    · exact allLt_mem x.2 q h
local macro_rules | `(tactic| walk_at "pyIter ref") => `(tactic| ((have hgo9 : HaltIter := by assumption); clear hgo9; refine Stop.mk ?_))
local macro_rules | `(tactic| walk_at "exec For Name Call cons nil") => `(tactic| ((have hgo9 : HaltFor := by assumption); clear hgo9; refine Stop.mk ?_))
local macro_rules | `(tactic| walk_at "eval ListComp") => `(tactic| refine Stop.mk ?_)
local macro_rules | `(tactic| walk_at "CompSrc") => `(tactic| refine Stop.mk ?_)
local macro_rules | `(tactic| walk_at "CompEnd") => `(tactic| refine Stop.mk ?_)
local macro_rules | `(tactic| walk_at "binaryOp Add ref ref") => `(tactic| refine Stop.mk ?_)
local macro_rules | `(tactic| walk_at "binaryOp Mult int int") => `(tactic| (refine mulI (by omega) (by omega) (by omega) ?_; intro v' e' p'))
local macro_rules | `(tactic| walk_at "subscriptTail") => `(tactic| (k_here; k_dflt (refine' item_anyK (News.isList ?N ?m) ?i ?a ?b ?c ?_ ?s; (case N => k_asm); (case m => k_mem); (case i => assumption); (case a => omega); (case b => (rw [row_len]; omega)); (case c => omega); (case s => with_unfolding_all rfl)); intro t'))
local macro_rules | `(tactic| k_mem) => `(tactic| first | with_reducible exact List.Mem.head _ | (refine List.Mem.tail _ ?_; k_mem))
local macro_rules | `(tactic| k_all) => `(tactic| assumption)
set_option maxRecDepth 100000 in
set_option maxHeartbeats 1000000 in
theorem loopE (w : World) (p : Program) (loose : List Str) (mean : ExcName → Option Value) (mg mb : Str → Option Value) (fa : Addr) (cd : Value) (base h₀ : Heap) (L : Addr) (m : Str → Option Value) (s : Shared) (Q : Flow → Shared → Prop) (E : Value → Shared → Prop)
    (hE : PassesOwn (model Challenge.rw_pe0122_01.row.prog w) (callerA.deeper (envL L fa cd)) (envL L fa cd) E) (X : (hd.heap_39 w.params).In h₀) (T : Top p loose mean mg mb h₀) (B : Below callerA base [] h₀) (F : Fr h₀ L s.heap m) (rest : List (Addr × Obj))
    (oS oU : Obj) (size : Int) (ts : Tok) (v₀ : Option Value)
    (N : News h₀ L s.heap ((L + 1 + 1 + 1, oU) :: (L + 1, oS) :: rest)) (hS : oS.data = .cell (some (.int size ts))) (hU : oU.data = .cell v₀) (hall : ∀ q ∈ (L + 1, oS) :: rest, q.1 ≠ L + 1 + 1 + 1) (hs0 : 3 ≤ size) (hs1 : size ≤ 8)
    (next : ∀ (oU' : Obj) (DS : Addr) (vs : List Value) (k : Nat) (tp : Tok) (m' : Str → Option Value) (h : Heap) (tk : Nat), oU'.data = .cell (some (.ref DS)) → IntsAre vs (row size.toNat) → DS ≠ L + 1 + 1 + 1 → (∀ q ∈ rest, q.1 < DS) → m' (Str.ofString "product") = some (.int (fac size.toNat) tp) →
      Fr h₀ L h m' → (∀ z, [Str.ofString "product", Str.ofString "step"].contains z = false → m' z = m z) → News h₀ L h ((DS, listOf vs.toArray k) :: (L + 1 + 1 + 1, oU') :: (L + 1, oS) :: rest) → wpAny (model Challenge.rw_pe0122_01.row.prog w) (callerA.deeper (envL L fa cd)) (execs (lawBody.drop 13) (envL L fa cd)) Q E { s with heap := h, toks := tk }) :
    wpAny (model Challenge.rw_pe0122_01.row.prog w) (callerA.deeper (envL L fa cd)) (execs (lawBody.drop 11) (envL L fa cd)) Q E s := by
  w_on
  w_strict (
    rw [show lawBody.drop 11 = [_, _, _, _, _, _, _, _, _] from rfl]
    rw [show envL L fa cd = envOfC (Str.ofString "law") lawScope L fa cd from rfl, show lawScope = { kind := _, names := _, isGenerator := _, isCoroutine := _, more := _ } from rfl] at *
    revert X
    k_fill
    intro X
    have fl1 : HaltFor := trivial
    have fl2 : HaltIter := trivial
    k_steps
    unfold Stop
    clear fl1
    rename News _ _ _ _ => N1
    rename Fr _ _ _ _ => F1
    (with_unfolding_all refine For_invVF F1 rfl rfl ?_ (by intro _; rfl) hE)
    k_steps
    unfold Stop
    clear fl2
    rename News _ _ _ _ => N1
    rename Fr _ _ _ _ => F1
    rename IsRange _ _ _ _ _ _ _ _ => rg
    rename _ = Data.cell (some (Value.ref _)) => hU1
    k_dflt (refine iter_rangeUnr rfl rg (small_one (by omega) (by omega) (by omega) (by omega)) (rangeSize_nat _ _) F1 (News.tail N1) ?_)
    intro I hlt
    have hUI : L + 1 + 1 + 1 < I := hlt (L + 1 + 1 + 1, _) (.tail _ (.head _))
    have hSI : ∀ q ∈ (L + 1, oS) :: rest, q.1 < I := fun q hq => hlt q (.tail _ (.tail _ hq))
    rename L + 1 + 1 + 1 < _ ∧ _ => hl3
    k_dflt (refine' range_go (m₀ := m) (σ := LE) (fun c => (c.D, listOf c.vs.toArray c.k) :: (L + 1 + 1 + 1, c.o) :: (L + 1, oS) :: rest) (fun c => [(Str.ofString "product", .int c.x c.t)]) [] (fun i c => PE L rest I i c) ?off ?turn ?done _ 0 (Nat.zero_add _) ⟨_, _, [.int 1 _], 0, _, _⟩ _ ?hP ?h1 ?h2)
    case h1 => kst_all
    case h2 => (intro z k1 k2 k3; (simp only [List.forall_mem_cons] at k2); simp [k2])
    case hP => exact ⟨hU1, .cons _ _ .nil, rfl, Nat.ne_of_gt hl3.1, Nat.ne_of_lt (hlt _ (.head _)), allLt_mem hl3.2.2⟩
    case off =>
      intro i c hP q hq
      rcases List.mem_cons.mp hq with rfl | hq
      · exact hP.neI
      · rcases List.mem_cons.mp hq with rfl | hq
        · exact Nat.ne_of_lt hUI
        · exact Nat.ne_of_lt (hSI q hq)
    case turn =>
      clear F1 N1 hlt hU1 hl3 rg
      rintro ⟨o, D, vs, k, x, t⟩ i ti u it h tk hi hP F N
      dsimp only at F N
      have hlI := hP.isI
      have hlU := hP.cell
      have hx0 : 0 ≤ x := by have := fac_nonneg i; rw [← hP.prod] at this; exact this
      have hi8 : i < 8 := by omega
      have n1 := neN hP.ne
      have n2 := neN hP.neI
      have n3 := ltN hUI
      dsimp only at hlI hlU n1 n2
      k_steps
      unfold Stop
      k_dflt (refine LCg.ListComp_U (F₀ := by k_asm) (by with_unfolding_all rfl) (by decide) (by rfl) (by decide) (by rfl) ?_)
      k_steps
      unfold Stop
      rename News _ _ _ _ => N1
      rename Fr _ _ _ _ => F1
      rename IsRange _ _ _ _ _ _ _ _ => rg
      k_dflt (refine LCg.CompSrc.range rfl F1 N1 rg (small_one (by omega) (by omega) (by omega) (by omega)) (rangeSize_nat _ _) (by rw [sizeLine_eq]; omega) ?_)
      intro g'
      refine' kcf_range (fun k => (row i).getD k.toNat 0 + (row i).getD (k + 1).toNat 0) (fun k' t' I' oI' C' oC' D' m' ys' h' tk' E' hlo' hhi' hC' hx' F' N' off' ne' _ => ?_) ?_
      · clear F1 N1
        k_steps
        unfold Stop
        rename News _ _ _ _ => N2
        rename Fr _ _ _ _ => F2
        exact LCg.CompEnd.intro F2 N2 _ (fun p hp => hp) off' trivial ⟨rfl, _, rfl⟩
      unfold KPfDone
      intro ys hys
      unfold LCg.FinE
      intro D3 h3 tk3 F3 N3 off3
      clear F1 N1
      have hll : ((rangeKs 0 (1 + (i : Int) - 1 - 0).toNat).map (fun k => (row i).getD k.toNat 0 + (row i).getD (k + 1).toNat 0)).length ≤ 8 := by rw [List.length_map, rangeKs_length]; omega
      k_dflt (refine kmk_add_ints F3 N3 (News.isList N3 (.tail _ (.head _))) (News.isList N3 (.head _)) (.cons 1 _ .nil) hys ?_ (by rw [sizeLine_eq]; simp only [List.length_cons, List.length_nil]; omega))
      intro D4 us4 h4 F4 N4 hlt4 hI4
      have n4 := ltN (hlt4 (L + 1 + 1 + 1, o) (by k_mem))
      have n5 := ltN (hlt4 (I, it) (by k_mem))
      have n7 : (D3 : Nat) ≠ L + 1 + 1 + 1 := (off3.2.2.2.1).symm
      clear F3 N3
      k_steps
      unfold Stop
      rename News _ _ _ _ => N1
      rename Fr _ _ _ _ => F1
      k_dflt (refine kmk_add_ints F1 N1 (News.isList N1 (.tail _ (.head _))) (News.isList N1 (.head _)) hI4 (.cons 1 _ .nil) ?_ (by rw [sizeLine_eq]; simp only [List.length_cons, List.length_nil, List.length_append]; omega))
      intro D6 us6 h6 F6 N6 hlt6 hI6
      have n8 := ltN (hlt6 (L + 1 + 1 + 1, o) (by k_mem))
      have n9 := ltN (hlt6 (I, it) (by k_mem))
      have hlt6' : ∀ q ∈ rest, q.1 < D6 := fun q hq => hlt6 q (by repeat (first | exact hq | refine List.Mem.tail _ ?_))
      clear F1 N1 hlt4 hlt6 off3
      k_steps
      rename News _ _ _ _ => N1
      rename Fr _ _ _ _ => F1
      rename _ = Data.cell (some (Value.ref D6)) => hU6
      exact GoEnd.intro ⟨_, D6, us6, 0, _, _⟩ F1 N1 (by k_mem) (fun q hq => by
        rcases List.mem_cons.mp hq with rfl | hq
        · exact .head _
        · exact .tail _ (.tail _ (.tail _ (.tail _ (.tail _ (.tail _ (.tail _ hq))))))) (by kst_all) (by (intro z k1 k2 k3; (simp only [List.forall_mem_cons] at k2); simp [kstB, k1, k2])) ⟨hU6, row_step hI6, by rename _ = x * _ => ex; rw [ex, show x = fac i from hP.prod, Int.add_comm 1]; rfl, Nat.ne_of_gt n8, Nat.ne_of_gt n9, hlt6'⟩
    case done =>
      rintro ⟨o, D, vs, k, x, t⟩ u h tk hP F' N'
      have en : (size + 1 - 1).toNat = size.toNat := by omega
      rw [en] at hP
      refine next o D vs k t _ h tk hP.cell hP.isI hP.ne hP.lt ?_ F' (fun z hz => ?_) N'
      · rw [← hP.prod]; rfl
      · simp only [nsc] at hz
        simp [kstB, hz])
end Mine
end
section
open PySem PySem.W PyProof.Rows
namespace Mine
def rowsOk : Bool := (List.range 6).all fun a => (List.range 5).all fun b => decide (digs (b + 8) ((2 ^ (b + 8) + 1) ^ (a + 3)) = row (a + 3)) && (row (a + 3)).all fun x => decide (0 ≤ x)
theorem rowsOk_true : rowsOk = true := by decide +kernel
theorem rows_all {sz wd : Nat} (h0 : 3 ≤ sz) (h1 : sz ≤ 8) (h2 : 8 ≤ wd) (h3 : wd ≤ 12) : digs wd ((2 ^ wd + 1) ^ sz) = row sz ∧ ∀ x ∈ row sz, 0 ≤ x := by
  have q := rowsOk_true
  unfold rowsOk at q
  have q := List.all_eq_true.mp (List.all_eq_true.mp q (sz - 3) (List.mem_range.mpr (by omega))) (wd - 8) (List.mem_range.mpr (by omega))
  rw [show sz - 3 + 3 = sz from by omega, show wd - 8 + 8 = wd from by omega, Bool.and_eq_true] at q
  exact ⟨of_decide_eq_true q.1, fun x hx => of_decide_eq_true (List.all_eq_true.mp q.2 x hx)⟩
theorem pw_sm {sz wd : Nat} (h1 : sz ≤ 8) (h3 : wd ≤ 12) : Sm ((2 ^ wd + 1) ^ sz) := by
  have e : ((2 : Int) ^ wd + 1) ^ sz = (((2 ^ wd + 1) ^ sz : Nat) : Int) := by push_cast; rfl
  refine ⟨?_⟩
  rw [e]
  have h : (2 ^ wd + 1) ^ sz ≤ (2 ^ 13) ^ 8 := by
    refine Nat.le_trans (Nat.pow_le_pow_left (m := 2 ^ 13) ?_ sz) (Nat.pow_le_pow_right (by decide) h1)
    have := Nat.pow_le_pow_right (n := 2) (by decide) h3
    omega
  have h' : (((2 ^ wd + 1) ^ sz : Nat) : Int) ≤ (((2 ^ 13) ^ 8 : Nat) : Int) := by exact_mod_cast h
  exact Int.lt_of_le_of_lt h' (by decide)
theorem pw_pos {sz wd : Nat} : 0 ≤ ((2 : Int) ^ wd + 1) ^ sz := Int.pow_nonneg (by have := pow_pos' wd; omega)
end Mine
end
section
open PySem PySem.W PyProof.Rows
namespace Mine
/-- a mark that switches a halt on -/
structure HaltAsg : Prop where
local macro_rules | `(tactic| walk_at "call ref") => `(tactic| refine Stop.mk ?_)
local macro_rules | `(tactic| walk_at "execs cons") => `(tactic| ((with_reducible show wpAny _ _ (execs (Stmt.Assign _ (PySem.Expr.ListComp _ _ _ _) _ :: _) _) _ _ _); (have hgo9 : HaltAsg := by assumption); clear hgo9; refine Stop.mk ?_))
local macro_rules | `(tactic| walk_at "compareOp NotEq ref ref") => `(tactic| refine Stop.mk ?_)
theorem neL {prog : Program} {w : World} {A : Around} {E : Value → Shared → Prop} {s : Shared} {a b : Addr} {vs us : List Value} {ns : List Int} {Q : Value → Shared → Prop} (hl : s.heap.IsList a vs.toArray) (hi : IntsAre vs ns) (hl' : s.heap.IsList b us.toArray) (hi' : IntsAre us ns) (hu : A.units + 64 < cLine)
    (h : Q (.bool false) s) : wpAny (model prog w) A (compareOp .NotEq (.ref a) (.ref b)) Q E s := ne_intsK hl hi hl' hi' hu (by rw [decide_eq_true rfl]; exact h)
theorem powI {prog : Program} {w : World} {A : Around} {E : Value → Shared → Prop} {s : Shared} {a : Int} {n : Nat} {t u : Tok} {Q : Value → Shared → Prop} (h0 : 0 ≤ a) (ha : a ≤ 1000000) (hn : n ≤ 1000) (h : ∀ v : Int, v = a ^ n → Q (.int v s.toks) { s with toks := s.toks + 1 }) :
    wpAny (model prog w) A (binaryOp .Pow (.int a t) (.int (n : Int) u)) Q E s :=
  PyProof.Rows.pow_int_small (by omega) (by omega) (by omega) (by rw [Int.toNat_natCast]; exact h _ rfl)
local macro_rules | `(tactic| walk_at "binaryOp Pow int int") => `(tactic| (refine' powI ?a ?b ?c ?_; (case a => omega); (case b => omega); (case c => omega); intro v' e'))
local macro_rules | `(tactic| k_mem) => `(tactic| first | with_reducible exact List.Mem.head _ | (refine List.Mem.tail _ ?_; k_mem))
set_option maxRecDepth 100000 in
set_option maxHeartbeats 1000000 in
theorem partF (w : World) (p : Program) (loose : List Str) (mean : ExcName → Option Value) (mg mb : Str → Option Value) (fa : Addr) (cd : Value) (base h₀ : Heap) (L : Addr) (m : Str → Option Value) (s : Shared) (Q : Flow → Shared → Prop) (E : Value → Shared → Prop)
    (hE : PassesOwn (model Challenge.rw_pe0122_01.row.prog w) (callerA.deeper (envL L fa cd)) (envL L fa cd) E) (X : (hd.heap_39 w.params).In h₀) (T : Top p loose mean mg mb h₀) (B : Below callerA base [] h₀) (F : Fr h₀ L s.heap m) (rest tabs : List (Addr × Obj))
    (DS : Addr) (oS oU : Obj) (vs : List Value) (k sz wd : Nat) (ts tw : Tok)
    (N : News h₀ L s.heap ((DS, listOf vs.toArray k) :: (L + 1 + 1 + 1, oU) :: (L + 1, oS) :: (rest ++ tabs))) (hT : Tabs tabs) (hF : Dis ((DS, listOf vs.toArray k) :: (L + 1 + 1 + 1, oU) :: (L + 1, oS) :: rest) tabs) (hS : oS.data = .cell (some (.int sz ts))) (hU : oU.data = .cell (some (.ref DS))) (hI : IntsAre vs (row sz))
    (hm : m (Str.ofString "width") = some (.int wd tw)) (hs0 : 3 ≤ sz) (hs1 : sz ≤ 8) (hw0 : 8 ≤ wd) (hw1 : wd ≤ 12)
    (next : ∀ (tabs' : List (Addr × Obj)) (m' : Str → Option Value) (h : Heap) (tk : Nat), Tabs tabs' → Dis ((DS, listOf vs.toArray k) :: (L + 1 + 1 + 1, oU) :: (L + 1, oS) :: rest) tabs' → Fr h₀ L h m' → (∀ z, [Str.ofString "power"].contains z = false → m' z = m z) →
      News h₀ L h ((DS, listOf vs.toArray k) :: (L + 1 + 1 + 1, oU) :: (L + 1, oS) :: (rest ++ tabs')) → wpAny (model Challenge.rw_pe0122_01.row.prog w) (callerA.deeper (envL L fa cd)) (execs (lawBody.drop 15) (envL L fa cd)) Q E { s with heap := h, toks := tk }) :
    wpAny (model Challenge.rw_pe0122_01.row.prog w) (callerA.deeper (envL L fa cd)) (execs (lawBody.drop 13) (envL L fa cd)) Q E s := by
  w_on
  w_strict (
    rw [show lawBody.drop 13 = [_, _, _, _, _, _, _] from rfl]
    rw [show envL L fa cd = envOfC (Str.ofString "law") lawScope L fa cd from rfl, show lawScope = { kind := _, names := _, isGenerator := _, isCoroutine := _, more := _ } from rfl] at *
    revert X
    k_fill
    intro X
    have F0 := fr_kst (ps := [(Str.ofString "width", .int wd tw)]) F (List.forall_mem_cons.mpr ⟨hm, fun _ h => nomatch h⟩)
    clear F
    have hq1 := pow_pos' wd
    have hq2 := pw_lt (t := wd) (by omega)
    k_steps
    unfold Stop
    rename _ = ((_ : Int) + 1) ^ sz => ep
    rename _ = (2 : Int) ^ wd => ew
    rw [ew] at ep
    obtain ⟨hr1, hr2⟩ := rows_all hs0 hs1 hw0 hw1
    have hp0 := pw_pos (sz := sz) (wd := wd)
    have hpS := pw_sm hs1 hw1
    rw [← ep] at hr1 hp0 hpS
    k_dflt (refine' Calls.use (i2d_c w p loose mean mg mb ((DS, listOf vs.toArray k) :: (L + 1 + 1 + 1, oU) :: (L + 1, oS) :: rest) tabs hT hF _ wd _ _ (by omega) (by omega) hp0 hpS) ?B ?F ?X ?N ?T ?hk ?hd ?hu ?_; (case B => k_asm); (case F => k_asm); (case X => k_asm); (case N => k_asm); (case T => k_asm); (case hk => first | exact rfl | assumption); (case hd => decide); (case hu => decide))
    rintro r9 led9 h9 tk9 ⟨l9, vs9, kk9, tabs9, rfl, rfl, hT9, hI9, hD9⟩ F9 N9
    have hv : vI wd (row sz) = _ := hr1 ▸ vI_digs (n := wd) (by omega)
    rw [hr1] at hI9
    generalize (_ : Int) ^ sz = P at *
    k_steps
    unfold Stop
    k_dflt (refine' neL (News.isList ?N (.head _)) hI9 (News.isList ?N (.tail _ (.head _))) hI (by units_room) ?_; (case N => k_asm))
    k_steps
    unfold Stop
    k_dflt (refine' Calls.use (d2i_c w p loose mean mg mb ((l9, listOf vs9.toArray kk9) :: (DS, listOf vs.toArray k) :: (L + 1 + 1 + 1, oU) :: (L + 1, oS) :: rest) tabs9 hT9 hD9 DS vs (row sz) k wd _ (.tail _ (.head _)) hI (by rw [row_len]; omega) hr2 (by rw [hv]; exact hpS) (by omega) (by omega)) ?B ?F ?X ?N ?T ?hk ?hd ?hu ?_; (case B => k_asm); (case F => k_asm); (case X => k_asm); (case N => k_asm); (case T => k_asm); (case hk => first | exact rfl | assumption); (case hd => decide); (case hu => decide))
    rintro r8 led8 h8 tk8 ⟨t8, tabs8, rfl, rfl, hT8, hD8⟩ F8 N8
    rw [hv]
    have fl : HaltAsg := ⟨⟩
    k_steps
    all_goals (try (exfalso; omega))
    unfold Stop
    rename News _ _ _ _ => N1
    rename Fr _ _ _ _ => F1
    refine next tabs8 _ _ _ hT8 hD8.tail F1 (fun z hz => ?_) (News.tail N1)
    simp only [nsc] at hz
    by_cases e1 : z = Str.ofString "width"
    · subst e1; exact hm.symm
    · simp [kstB, hz, e1])
end Mine
end
section
open PySem PySem.W PyProof.Rows
namespace Mine
theorem off1_mem {D : Addr} : ∀ {l : List (Addr × Obj)}, LCg.Off1 D l → ∀ q ∈ l, q.1 ≠ D
  | [], _, _, h => nomatch h
  | _ :: _, x, q, h => by
    rcases List.mem_cons.mp h with rfl | h
    · exact x.1
    · exact off1_mem x.2 q h
local macro_rules | `(tactic| walk_at "exec Assign cons ListComp") => `(tactic| refine Stop.mk ?_)
local macro_rules | `(tactic| walk_at "CompSrc") => `(tactic| refine Stop.mk ?_)
local macro_rules | `(tactic| walk_at "CompEnd") => `(tactic| refine Stop.mk ?_)
local macro_rules | `(tactic| walk_at "subscriptTail") => `(tactic| (k_here; k_dflt (refine' getI ?N ?m ?l ?d ?k ?s ?_; (case N => k_asm); (case m => k_mem); (case l => assumption); (case d => assumption); (case k => assumption); (case s => with_unfolding_all rfl)); intro t'))
local macro_rules | `(tactic| k_mem) => `(tactic| first | with_reducible exact List.Mem.head _ | (refine List.Mem.tail _ ?_; k_mem))
set_option maxRecDepth 100000 in
set_option maxHeartbeats 1000000 in
theorem partG (w : World) (p : Program) (loose : List Str) (mean : ExcName → Option Value) (mg mb : Str → Option Value) (fa : Addr) (cd : Value) (base h₀ : Heap) (L : Addr) (m : Str → Option Value) (s : Shared) (Q : Flow → Shared → Prop) (E : Value → Shared → Prop)
    (hE : PassesOwn (model Challenge.rw_pe0122_01.row.prog w) (callerA.deeper (envL L fa cd)) (envL L fa cd) E) (X : (hd.heap_39 w.params).In h₀) (T : Top p loose mean mg mb h₀) (B : Below callerA base [] h₀) (F : Fr h₀ L s.heap m) (rest : List (Addr × Obj))
    (DS dM : Addr) (oS oU oC oM : Obj) (vs : List Value) (k sz : Nat) (ts : Tok) (f : Int → Int) (ks : List Int)
    (N : News h₀ L s.heap ((DS, listOf vs.toArray k) :: (L + 1 + 1 + 1, oU) :: (L + 1, oS) :: (L + 1 + 1, oC) :: (dM, oM) :: rest)) (hS : oS.data = .cell (some (.int sz ts))) (hC : oC.data = .cell (some (.ref dM))) (hl : (dM == sysModules) = false) (hdI : DictI w oM f ks)
    (hs1 : sz ≤ 8) (hks : ∀ n : Int, 0 ≤ n → n ≤ sz → n ∈ ks)
    (next : ∀ (DT : Addr) (us : List Value) (m' : Str → Option Value) (h : Heap) (tk : Nat), IntsAre us ((rangeKs 0 ((sz : Int) + 1).toNat).map (fun n => f n + f ((sz : Int) - n) - f sz)) → m' (Str.ofString "twos") = some (.ref DT) → (∀ q ∈ (DS, listOf vs.toArray k) :: (L + 1 + 1 + 1, oU) :: (L + 1, oS) :: (L + 1 + 1, oC) :: (dM, oM) :: rest, q.1 ≠ DT) → Fr h₀ L h m' → (∀ z, [Str.ofString "twos"].contains z = false → m' z = m z) →
      News h₀ L h ((DT, listOf us.toArray us.length) :: (DS, listOf vs.toArray k) :: (L + 1 + 1 + 1, oU) :: (L + 1, oS) :: (L + 1 + 1, oC) :: (dM, oM) :: rest) → wpAny (model Challenge.rw_pe0122_01.row.prog w) (callerA.deeper (envL L fa cd)) (execs (lawBody.drop 16) (envL L fa cd)) Q E { s with heap := h, toks := tk }) :
    wpAny (model Challenge.rw_pe0122_01.row.prog w) (callerA.deeper (envL L fa cd)) (execs (lawBody.drop 15) (envL L fa cd)) Q E s := by
  w_on
  w_strict (
    rw [show lawBody.drop 15 = [_, _, _, _, _] from rfl]
    rw [show envL L fa cd = envOfC (Str.ofString "law") lawScope L fa cd from rfl, show lawScope = { kind := _, names := _, isGenerator := _, isCoroutine := _, more := _ } from rfl] at *
    revert X
    k_fill
    intro X
    have hk0 : (sz : Int) ∈ ks := hks sz (by omega) (Int.le_refl _)
    k_steps
    unfold Stop
    k_dflt (refine' LCg.Assign_ListComp_U ?kF ?kL ?k1 ?k2 ?k3 ?k4 ?k5 ?k6 ?k7 ?k8 ?_; (case kF => k_asm); (case kL => exact rfl); (case k1 => with_unfolding_all rfl); (case k2 => with_unfolding_all rfl); (case k3 => decide); (case k4 => rfl); (case k5 => decide); (case k6 => rfl); (case k7 => rfl); (case k8 => rfl))
    k_steps
    unfold Stop
    rename News _ _ _ _ => N1
    rename Fr _ _ _ _ => F1
    rename IsRange _ _ _ _ _ _ _ _ => rg
    k_dflt (refine LCg.CompSrc.range rfl F1 N1 rg (small_one (by omega) (by omega) (by omega) (by omega)) (rangeSize_nat _ _) (by rw [sizeLine_eq]; omega) ?_)
    intro g'
    refine' kcf_range (fun n => f n + f ((sz : Int) - n) - f sz) (fun k' t' I' oI' C' oC' D' m' ys' h' tk' E' hlo' hhi' hC' hx' F' N' off' ne' _ => ?_) ?_
    · clear F1 N1
      have hk1 : k' ∈ ks := hks k' (by omega) (by omega)
      have hk2 : (sz : Int) - k' ∈ ks := hks _ (by omega) (by omega)
      k_steps
      unfold Stop
      rename News _ _ _ _ => N2
      rename Fr _ _ _ _ => F2
      exact LCg.CompEnd.intro F2 N2 _ (fun p hp => hp) off' trivial ⟨rfl, _, rfl⟩
    unfold KPfDone
    intro ys hys
    unfold LCg.FinA
    intro D3 h3 tk3 F3 N3 off3
    rw [show ((sz : Int) + 1 - 0).toNat = ((sz : Int) + 1).toNat from by rw [Int.sub_zero]] at hys
    refine next D3 ys _ _ _ hys (by simp) (off1_mem off3) F3 (fun z hz => ?_) N3
    simp only [nsc] at hz
    simp [hz])
end Mine
end
section
open PySem PySem.W PyProof.Rows
namespace Mine
/-- a number that twos go into that many times and no more -/
structure OddT (a : Int) (t : Nat) : Prop where
  le : t ≤ 16
  lo : 0 ≤ a
  hi : a < 1000000000
  rest : a % 2 ^ t = 0
  odd : a / 2 ^ t % 2 = 1
local macro_rules | `(tactic| walk_at "call ref") => `(tactic| refine Stop.mk ?_)
local macro_rules | `(tactic| walk_at "pyIter ref") => `(tactic| refine Stop.mk ?_)
local macro_rules | `(tactic| walk_at "subscriptTail") => `(tactic| (k_here; k_dflt (refine' item_anyK (News.isList ?N ?m) ?i ?a ?b ?c ?_ ?s; (case N => k_asm); (case m => k_mem); (case i => assumption); (case a => omega); (case b => omega); (case c => omega); (case s => with_unfolding_all rfl)); intro t'))
local macro_rules | `(tactic| k_mem) => `(tactic| first | with_reducible exact List.Mem.head _ | (refine List.Mem.tail _ ?_; k_mem))
set_option maxRecDepth 100000 in
set_option maxHeartbeats 1000000 in
theorem loopH (w : World) (p : Program) (loose : List Str) (mean : ExcName → Option Value) (mg mb : Str → Option Value) (fa : Addr) (cd : Value) (base h₀ : Heap) (L : Addr) (m : Str → Option Value) (s : Shared) (Q : Flow → Shared → Prop) (E : Value → Shared → Prop)
    (hE : PassesOwn (model Challenge.rw_pe0122_01.row.prog w) (callerA.deeper (envL L fa cd)) (envL L fa cd) E) (X : (hd.heap_39 w.params).In h₀) (T : Top p loose mean mg mb h₀) (B : Below callerA base [] h₀) (F : Fr h₀ L s.heap m) (rest tabs : List (Addr × Obj))
    (DT DS : Addr) (oS oU : Obj) (us vs : List Value) (kt k sz : Nat) (ts : Tok) (R U : List Int)
    (N : News h₀ L s.heap ((DT, listOf us.toArray kt) :: (DS, listOf vs.toArray k) :: (L + 1 + 1 + 1, oU) :: (L + 1, oS) :: (rest ++ tabs))) (hT : Tabs tabs) (hF : Dis ((DT, listOf us.toArray kt) :: (DS, listOf vs.toArray k) :: (L + 1 + 1 + 1, oU) :: (L + 1, oS) :: rest) tabs) (hS : oS.data = .cell (some (.int sz ts))) (hU : oU.data = .cell (some (.ref DS))) (hIR : IntsAre vs R) (hIU : IntsAre us U) (hR : R.length = sz + 1) (hUl : U.length = sz + 1)
    (hm : m (Str.ofString "twos") = some (.ref DT)) (hs1 : sz ≤ 8) (hodd : ∀ i : Nat, i ≤ sz → ∃ t : Nat, U.getD i 0 = (t : Int) ∧ OddT (R.getD i 0) t)
    (next : ∀ (tabs' : List (Addr × Obj)) (m' : Str → Option Value) (h : Heap) (tk : Nat), Tabs tabs' → Dis ((DT, listOf us.toArray kt) :: (DS, listOf vs.toArray k) :: (L + 1 + 1 + 1, oU) :: (L + 1, oS) :: rest) tabs' → Fr h₀ L h m' → (∀ z, [Str.ofString "place"].contains z = false → m' z = m z) →
      News h₀ L h ((DT, listOf us.toArray kt) :: (DS, listOf vs.toArray k) :: (L + 1 + 1 + 1, oU) :: (L + 1, oS) :: (rest ++ tabs')) → wpAny (model Challenge.rw_pe0122_01.row.prog w) (callerA.deeper (envL L fa cd)) (execs (lawBody.drop 17) (envL L fa cd)) Q E { s with heap := h, toks := tk }) :
    wpAny (model Challenge.rw_pe0122_01.row.prog w) (callerA.deeper (envL L fa cd)) (execs (lawBody.drop 16) (envL L fa cd)) Q E s := by
  w_on
  w_strict (
    rw [show lawBody.drop 16 = [_, _, _, _] from rfl]
    rw [show envL L fa cd = envOfC (Str.ofString "law") lawScope L fa cd from rfl, show lawScope = { kind := _, names := _, isGenerator := _, isCoroutine := _, more := _ } from rfl] at *
    revert X
    k_fill
    intro X
    have F0 := fr_kst (ps := [(Str.ofString "twos", .ref DT)]) F (List.forall_mem_cons.mpr ⟨hm, fun _ h => nomatch h⟩)
    clear F
    refine wpAny_execs_cons ?_
    (with_unfolding_all refine For_invVF F0 rfl rfl ?_ (by intro _; rfl) hE)
    k_steps
    unfold Stop
    rename News _ _ _ _ => N1
    rename Fr _ _ _ _ => F1
    rename IsRange _ _ _ _ _ _ _ _ => rg
    k_dflt (refine iter_rangeUnr rfl rg (small_one (by omega) (by omega) (by omega) (by omega)) (rangeSize_nat _ _) F1 N1 ?_)
    intro I hlt
    k_dflt (refine' range_go (m₀ := m) (σ := List (Addr × Obj)) (fun c => (DT, listOf us.toArray kt) :: (DS, listOf vs.toArray k) :: (L + 1 + 1 + 1, oU) :: (L + 1, oS) :: (rest ++ c)) (fun _ => [(Str.ofString "twos", .ref DT)]) [] (fun _ c => Tabs c ∧ Dis ((DT, listOf us.toArray kt) :: (DS, listOf vs.toArray k) :: (L + 1 + 1 + 1, oU) :: (L + 1, oS) :: rest) c ∧ ∀ q ∈ c, q.1 ≠ I) ?off ?turn ?done _ 0 (Nat.zero_add _) tabs _ ?hP ?h1 ?h2)
    case h1 => kst_all
    case h2 => (intro z k1 k2 k3; (simp only [List.forall_mem_cons] at k2); simp [kstB, k2])
    case hP => exact ⟨hT, hF, fun q hq => Nat.ne_of_lt (hlt q (.tail _ (.tail _ (.tail _ (.tail _ (List.mem_append_right _ hq))))))⟩
    case off =>
      rintro i c ⟨_, _, hc⟩ q hq
      rcases List.mem_cons.mp hq with rfl | hq
      · exact Nat.ne_of_lt (hlt _ (.head _))
      rcases List.mem_cons.mp hq with rfl | hq
      · exact Nat.ne_of_lt (hlt _ (.tail _ (.head _)))
      rcases List.mem_cons.mp hq with rfl | hq
      · exact Nat.ne_of_lt (hlt _ (.tail _ (.tail _ (.head _))))
      rcases List.mem_cons.mp hq with rfl | hq
      · exact Nat.ne_of_lt (hlt _ (.tail _ (.tail _ (.tail _ (.head _)))))
      rcases List.mem_append.mp hq with hq | hq
      · exact Nat.ne_of_lt (hlt q (.tail _ (.tail _ (.tail _ (.tail _ (List.mem_append_left _ hq))))))
      · exact hc q hq
    case done =>
      rintro c u h tk ⟨hc1, hc2, _⟩ F' N'
      refine next c _ _ _ hc1 hc2 F' (fun z hz => ?_) N'
      simp only [nsc] at hz
      by_cases e1 : z = Str.ofString "twos"
      · subst e1; exact hm.symm
      · simp [kstB, hz, e1]
    case turn =>
      clear F1 N1
      rintro c i t u it h tk hi ⟨hc1, hc2, hc3⟩ F' N'
      obtain ⟨n, hn, ho⟩ := hodd i (by omega)
      have e0 : (0 + (i : Int)).toNat = i := by omega
      k_steps
      unfold Stop
      rw [e0, hn]
      have hDc : Dis ((I, it) :: (DT, listOf us.toArray kt) :: (DS, listOf vs.toArray k) :: (L + 1 + 1 + 1, oU) :: (L + 1, oS) :: rest) c := Dis.cons hc3 hc2
      k_dflt (refine' Calls.use (odd_c w p loose mean mg mb ((I, it) :: (DT, listOf us.toArray kt) :: (DS, listOf vs.toArray k) :: (L + 1 + 1 + 1, oU) :: (L + 1, oS) :: rest) c hc1 hDc (R.getD i 0) n _ _ ho.lo ho.hi ho.le ho.rest ho.odd) ?B ?F ?X ?N ?T ?hk ?hd ?hu ?_; (case B => k_asm); (case F => k_asm); (case X => k_asm); (case N => k_asm); (case T => k_asm); (case hk => first | exact rfl | assumption); (case hd => decide); (case hu => decide))
      rintro r9 led9 h9 tk9 ⟨tabs9, rfl, rfl, hT9, hD9⟩ F9 N9
      k_steps
      rename News _ _ _ _ => N1
      rename Fr _ _ _ _ => F1
      exact GoEnd.intro tabs9 F1 N1 (.head _) (fun q hq => .tail _ hq) (by kst_all) (by (intro z k1 k2 k3; (simp only [List.forall_mem_cons] at k2); simp [kstB, k1, k2])) ⟨hT9, hD9.tail, hD9.head⟩)
end Mine
end
section
open PySem PySem.W PyProof.Rows
namespace Mine
section
variable {prog : Program} {w : World} {A : Around} {h₀ : Heap} {L : Addr} {m : Str → Option Value} {env : Env} {ct elt : Expr} {x : Str} {scope : Scope} {cl : List (Str × Addr)} {s : Shared} {S : List (Addr × Obj) → Prop} {P : Nat → Value → Prop} {Fin : List Value → List (Addr × Obj) → Prop} {news : List (Addr × Obj)}
/-- a comprehension with a test over a list of ints -/
theorem comp_filter {vs : List Value} {ns : List Int} (p : Int → Bool) (hi : IntsAre vs ns)
    (turn : ∀ k t I oI C oC D m₂ ys h tk (E' : Value → Shared → Prop), k ∈ ns → LCg.NsObj oC m₂ → m₂ x = some (.int k t) → Fr h₀ L h m → News h₀ L h ((I, oI) :: (C, oC) :: (D, LCg.lst ys) :: news) → LCg.Off3 I C D news → ((@Ne Nat I C) ∧ (@Ne Nat I D) ∧ (@Ne Nat C D)) →
      wpAny (model prog w) A (isTrue ct (compEnvC scope cl C env) (eval ct (compEnvC scope cl C env))) (fun ok s' => if ok = true then
        wpAny (model prog w) A (eval elt (compEnvC scope cl C env)) (LCg.CompEnd h₀ L m { s with heap := h, toks := tk } I oI C oC D (LCg.lst ys) S (fun y news' => p k = true ∧ KCfEl news k y news')) E' s'
        else LCg.CompEnd h₀ L m { s with heap := h, toks := tk } I oI C oC D (LCg.lst ys) S (fun _ news' => p k = false ∧ news' = news) Value.none s') E' { s with heap := h, toks := tk })
    (fin : ∀ ys, IntsAre ys (ns.filter p) → Fin ys news) : LCt.CompRestT prog w A h₀ L m env ct elt x scope cl s S (fun i v => vs.toArray[i]? = some v) Fin vs.toArray.size 0 [] news := by
  have hn : vs.toArray.size = ns.length := by rw [List.size_toArray]; exact hi.length
  rw [hn]
  have key : ∀ (j i : Nat) (ys : List Value), i + j = ns.length → IntsAre ys ((ns.take i).filter p) → LCt.CompRestT prog w A h₀ L m env ct elt x scope cl s S (fun i v => vs.toArray[i]? = some v) Fin j i ys news := by
    intro j
    induction j with
    | zero =>
      intro i ys hi' hy
      have e : i = ns.length := by omega
      subst e
      rw [List.take_length] at hy
      exact LCt.CompRestT.zero (fin ys hy)
    | succ j ih =>
      intro i ys hi' hy
      refine LCt.CompRestT.succ ?_
      intro v I oI C oC D m₂ h tk E' hv hC hx F N off ne
      obtain ⟨k, t, hv', hk⟩ := IntsAre.at hi i v (by simpa using hv)
      rw [hv'] at hx
      have ht : (ns.take (i + 1)).filter p = (ns.take i).filter p ++ (if p k = true then [k] else []) := by
        rw [List.take_add_one, hk, List.filter_append]
        congr 1
        show List.filter p [k] = _
        cases hp : p k <;> simp [hp]
      refine wpAny_mono (turn k t I oI C oC D m₂ ys h tk E' (List.mem_of_getElem? hk) hC hx F N off ne) (fun ok s₂ hq => ?_) fun _ _ e => e
      cases ok with
      | true =>
        rw [if_pos rfl] at hq ⊢
        refine wpAny_mono hq (fun y s₃ hq => ?_) fun _ _ e => e
        obtain ⟨h', tk', nw, e, F', N', off', hS, hp, hn, t', hy'⟩ := hq
        rw [hn] at N' off' hS
        refine ⟨h', tk', news, e, F', N', off', hS, ?_⟩
        rw [hy']
        refine ih (i + 1) _ (by omega) ?_
        rw [ht, if_pos hp]
        exact IntsAre.append hy (.cons k t' .nil)
      | false =>
        rw [if_neg (by decide)] at hq ⊢
        obtain ⟨h', tk', nw, e, F', N', off', hS, hp, hn⟩ := hq
        rw [hn] at N' off' hS
        refine ⟨h', tk', news, e, F', N', off', hS, ?_⟩
        refine ih (i + 1) _ (by omega) ?_
        rw [ht, hp, if_neg (by decide), List.append_nil]
        exact hy
  exact key ns.length 0 [] (by omega) .nil
end
local macro_rules | `(tactic| walk_at "binaryOp Mod int int") => `(tactic| (refine' modI ?a ?_ ?b; (case a => omega); (case b => omega); intro v' e'))
theorem q_bool {Q : Flow → Shared → Prop} {b : Bool} {s : Shared} (e : b = true) (h : Q (.ret (.bool true)) s) : Q (.ret (.bool b)) s := by rw [e]; exact h
theorem powJ {prog : Program} {w : World} {A : Around} {E : Value → Shared → Prop} {s : Shared} {a b : Int} {n : Nat} {t u : Tok} {Q : Value → Shared → Prop} (hb : b = (n : Int)) (h0 : 0 ≤ a) (ha : a ≤ 1000000) (hn : n ≤ 1000) (h : ∀ v : Int, v = a ^ n → Q (.int v s.toks) { s with toks := s.toks + 1 }) :
    wpAny (model prog w) A (binaryOp .Pow (.int a t) (.int b u)) Q E s := by subst hb; exact powI h0 ha hn h
local macro_rules | `(tactic| walk_at "binaryOp Pow int int") => `(tactic| (refine' powJ ?z ?a ?b ?c ?_; (case z => assumption); (case a => omega); (case b => omega); (case c => omega); intro v' e'))
local macro_rules | `(tactic| walk_at "CompSrcT") => `(tactic| refine Stop.mk ?_)
local macro_rules | `(tactic| walk_at "CompEnd") => `(tactic| refine Stop.mk ?_)
local macro_rules | `(tactic| walk_at "call builtin:len") => `(tactic| refine Stop.mk ?_)
local macro_rules | `(tactic| walk_at "call ref") => `(tactic| refine Stop.mk ?_)
local macro_rules | `(tactic| walk_at "eval ListComp") => `(tactic| refine Stop.mk ?_)
local macro_rules | `(tactic| walk_at "call builtin:max") => `(tactic| refine Stop.mk ?_)
local macro_rules | `(tactic| walk_at "subscriptTail") => `(tactic| (k_here; k_dflt (refine' getI ?N ?m ?l ?d ?k ?s ?_; (case N => k_asm); (case m => k_mem); (case l => assumption); (case d => assumption); (case k => assumption); (case s => with_unfolding_all rfl)); intro t'))
local macro_rules | `(tactic| k_mem) => `(tactic| first | with_reducible exact List.Mem.head _ | (refine List.Mem.tail _ ?_; k_mem))
set_option maxRecDepth 100000 in
set_option maxHeartbeats 1000000 in
theorem partI (w : World) (p : Program) (loose : List Str) (mean : ExcName → Option Value) (mg mb : Str → Option Value) (fa : Addr) (cd : Value) (base h₀ : Heap) (L : Addr) (m : Str → Option Value) (s : Shared) (Q : Flow → Shared → Prop) (E : Value → Shared → Prop)
    (hE : PassesOwn (model Challenge.rw_pe0122_01.row.prog w) (callerA.deeper (envL L fa cd)) (envL L fa cd) E) (X : (hd.heap_39 w.params).In h₀) (T : Top p loose mean mg mb h₀) (B : Below callerA base [] h₀) (F : Fr h₀ L s.heap m) (rest tabs : List (Addr × Obj))
    (DT DS dM dD dL : Addr) (oS oU oC oM oD oL : Obj) (us vs : List Value) (kt k sz : Nat) (ts tp : Tok) (R U : List Int) (f g e : Int → Int) (ks : List Int) (P : Int) (np nf : Nat)
    (N : News h₀ L s.heap ((DT, listOf us.toArray kt) :: (DS, listOf vs.toArray k) :: (L + 1 + 1 + 1, oU) :: (L + 1, oS) :: (L + 1 + 1, oC) :: (dM, oM) :: (dD, oD) :: (dL, oL) :: (rest ++ tabs))) (hT : Tabs tabs) (hF : Dis ((DT, listOf us.toArray kt) :: (DS, listOf vs.toArray k) :: (L + 1 + 1 + 1, oU) :: (L + 1, oS) :: (L + 1 + 1, oC) :: (dM, oM) :: (dD, oD) :: (dL, oL) :: rest) tabs) (hS : oS.data = .cell (some (.int sz ts))) (hU : oU.data = .cell (some (.ref DS))) (hC : oC.data = .cell (some (.ref dM))) (hIR : IntsAre vs R) (hIU : IntsAre us U) (hR : R.length = sz + 1) (hUl : U.length = sz + 1)
    (hlM : (dM == sysModules) = false) (hlD : (dD == sysModules) = false) (hlL : (dL == sysModules) = false) (hdM : DictI w oM f ks) (hdD : DictI w oD g ks) (hdL : DictI w oL e ks) (hk0 : (sz : Int) ∈ ks) (hk1 : (sz : Int) + 1 ∈ ks)
    (hmT : m (Str.ofString "twos") = some (.ref DT)) (hmP : m (Str.ofString "product") = some (.int P tp)) (hmD : m (Str.ofString "dots") = some (.ref dD)) (hmL : m (Str.ofString "last") = some (.ref dL)) (hs1 : sz ≤ 8)
    (hnp : (sz : Int) - f sz = (np : Int)) (hop : OddT P np) (hnf : f sz = (nf : Int)) (hnf1 : nf ≤ 12) (hcnt : ((R.filter fun n => n % 2 == 1).length : Int) = 2 ^ nf) (M0 : Int) (hM0 : M0 ∈ U) (hM1 : ∀ a ∈ U, a ≤ M0) (hM2 : M0 = f ((sz : Int) + 1) + e ((sz : Int) + 1) - g ((sz : Int) + 1) - 1)
    (next : ∀ (tabs' : List (Addr × Obj)) (m' : Str → Option Value) (h : Heap) (tk : Nat), Tabs tabs' → Dis ((DT, listOf us.toArray kt) :: (DS, listOf vs.toArray k) :: (L + 1 + 1 + 1, oU) :: (L + 1, oS) :: (L + 1 + 1, oC) :: (dM, oM) :: (dD, oD) :: (dL, oL) :: rest) tabs' → Fr h₀ L h m' →
      News h₀ L h ((DT, listOf us.toArray kt) :: (DS, listOf vs.toArray k) :: (L + 1 + 1 + 1, oU) :: (L + 1, oS) :: (L + 1 + 1, oC) :: (dM, oM) :: (dD, oD) :: (dL, oL) :: (rest ++ tabs')) → Q (.ret (.bool true)) { s with heap := h, toks := tk }) :
    wpAny (model Challenge.rw_pe0122_01.row.prog w) (callerA.deeper (envL L fa cd)) (execs (lawBody.drop 17) (envL L fa cd)) Q E s := by
  w_on
  w_strict (
    rw [show lawBody.drop 17 = [_, _, _] from rfl]
    rw [show envL L fa cd = envOfC (Str.ofString "law") lawScope L fa cd from rfl, show lawScope = { kind := _, names := _, isGenerator := _, isCoroutine := _, more := _ } from rfl] at *
    revert X
    k_fill
    intro X
    have F0 := fr_kst (ps := [(Str.ofString "twos", .ref DT), (Str.ofString "product", .int P tp), (Str.ofString "dots", .ref dD), (Str.ofString "last", .ref dL)]) F (List.forall_mem_cons.mpr ⟨hmT, List.forall_mem_cons.mpr ⟨hmP, List.forall_mem_cons.mpr ⟨hmD, List.forall_mem_cons.mpr ⟨hmL, fun _ h => nomatch h⟩⟩⟩⟩)
    clear F
    k_steps
    unfold Stop
    rw [hnp]
    k_dflt (refine' Calls.use (odd_c w p loose mean mg mb ((DT, listOf us.toArray kt) :: (DS, listOf vs.toArray k) :: (L + 1 + 1 + 1, oU) :: (L + 1, oS) :: (L + 1 + 1, oC) :: (dM, oM) :: (dD, oD) :: (dL, oL) :: rest) tabs hT hF P np _ _ hop.lo hop.hi hop.le hop.rest hop.odd) ?B ?F ?X ?N ?T ?hk ?hd ?hu ?_; (case B => k_asm); (case F => k_asm); (case X => k_asm); (case N => k_asm); (case T => k_asm); (case hk => first | exact rfl | assumption); (case hd => decide); (case hu => decide))
    rintro r9 led9 h9 tk9 ⟨tabs9, rfl, rfl, hT9, hD9⟩ F9 N9
    k_steps
    unfold Stop
    k_dflt (refine LCt.ListComp_T (F₀ := by k_asm) (by with_unfolding_all rfl) (by decide) (by rfl) (by decide) (by rfl) ?_)
    k_steps
    unfold Stop
    rename News _ _ _ _ => N1
    rename Fr _ _ _ _ => F1
    k_dflt (refine LCt.CompSrcT.ledger rfl F1 N1 (.tail _ (.head _)) (by rw [List.size_toArray, hIR.length, sizeLine_eq]; omega) ?_)
    intro g'
    refine comp_filter (fun n => n % 2 == 1) hIR (fun k' t' I' oI' C' oC' D' m' ys' h' tk' E' hk' hC' hx' F' N' off' ne' => ?_) ?_
    · clear F1 N1
      k_steps
      all_goals (
        unfold Stop
        rename News _ _ _ _ => N2
        rename Fr _ _ _ _ => F2
        first
        | exact LCg.CompEnd.intro F2 N2 _ (fun p hp => hp) off' (.inr ⟨_, .tail _ (.head _), rfl, _, rfl⟩) ⟨by (rw [beq_iff_eq]; omega), rfl, _, rfl⟩
        | exact LCg.CompEnd.intro F2 N2 _ (fun p hp => hp) off' (.inr ⟨_, .tail _ (.head _), rfl, _, rfl⟩) ⟨by (rw [beq_eq_false_iff_ne]; omega), rfl⟩)
    intro ys hys
    unfold LCg.FinE
    intro D3 h3 tk3 F3 N3 off3
    clear F1 N1
    k_steps
    unfold Stop
    k_dflt (refine lenI N3 (.head _) hys (by have := List.length_filter_le (fun n : Int => n % 2 == 1) R; omega) ?_)
    intro v7 e7
    k_steps
    all_goals (try (exfalso; omega))
    unfold Stop
    rename News _ _ _ _ => N1
    rename Fr _ _ _ _ => F1
    k_dflt (refine kso_max F1 N1 (News.isList N1 (.tail _ (.head _))) hIU (by omega) rfl ?_)
    clear F1 N1
    intro h6 M t6 tk6 F6 N6 hM3 hM4
    have eM : M = M0 := Int.le_antisymm (hM1 M hM3) (hM4 M0 hM0)
    k_steps
    have hb : (M == f ((sz : Int) + 1) + e ((sz : Int) + 1) - g ((sz : Int) + 1) - 1) = true := by rw [beq_iff_eq]; omega
    have N5 := News.tail N6
    clear N6
    dsimp only
    refine q_bool (Q := Q) hb ?_
    refine' next tabs9 _ h6 _ ?a ?b ?c ?d
    case a => exact hT9
    case b => exact hD9
    case c => exact F6
    case d => exact N5)
end Mine
end
section
open PySem PySem.W PyProof.Rows
namespace Mine
/-- the twos in the n-th row's entries, by the marks -/
def twosOf (sz : Nat) : List Int := (rangeKs 0 ((sz : Int) + 1).toNat).map fun n => pc n + pc ((sz : Int) - n) - pc sz
def oddB (a t : Int) : Bool := decide (0 ≤ t) && decide (t ≤ 16) && decide (0 ≤ a) && decide (a < 1000000000) && decide (a % 2 ^ t.toNat = 0) && decide (a / 2 ^ t.toNat % 2 = 1)
theorem oddT_of {a t : Int} (h : oddB a t = true) : ∃ n : Nat, t = (n : Int) ∧ OddT a n := by
  unfold oddB at h
  simp only [Bool.and_eq_true, decide_eq_true_eq] at h
  obtain ⟨⟨⟨⟨⟨h1, h2⟩, h3⟩, h4⟩, h5⟩, h6⟩ := h
  obtain ⟨n, rfl⟩ := Int.eq_ofNat_of_zero_le h1
  rw [Int.toNat_natCast] at h5 h6
  exact ⟨n, rfl, by omega, h3, h4, h5, h6⟩
def maxOf (sz : Nat) : Int := pc ((sz : Int) + 1) + fL ((sz : Int) + 1) - fD ((sz : Int) + 1) - 1
def finB (sz : Nat) : Bool := ((List.range (sz + 1)).all fun i => oddB ((row sz).getD i 0) ((twosOf sz).getD i 0)) && oddB (fac sz) ((sz : Int) - pc sz) && decide (pc sz ≤ 12) && decide ((((row sz).filter fun n => n % 2 == 1).length : Int) = 2 ^ (pc sz).toNat) && decide (maxOf sz ∈ twosOf sz) && (twosOf sz).all fun a => decide (a ≤ maxOf sz)
def finAll : Bool := (List.range 6).all fun a => finB (a + 3)
theorem finAll_true : finAll = true := by decide +kernel
structure Fin9 (sz : Nat) : Prop where
  odd : ∀ i : Nat, i ≤ sz → ∃ t : Nat, (twosOf sz).getD i 0 = (t : Int) ∧ OddT ((row sz).getD i 0) t
  prod : ∃ n : Nat, (sz : Int) - pc sz = (n : Int) ∧ OddT (fac sz) n
  cnt : ∃ n : Nat, pc sz = (n : Int) ∧ n ≤ 12 ∧ (((row sz).filter fun n => n % 2 == 1).length : Int) = 2 ^ n
  max0 : maxOf sz ∈ twosOf sz
  max1 : ∀ a ∈ twosOf sz, a ≤ maxOf sz
theorem fin9 {sz : Nat} (h0 : 3 ≤ sz) (h1 : sz ≤ 8) : Fin9 sz := by
  have q := finAll_true
  unfold finAll at q
  have q := List.all_eq_true.mp q (sz - 3) (List.mem_range.mpr (by omega))
  rw [show sz - 3 + 3 = sz from by omega] at q
  unfold finB at q
  simp only [Bool.and_eq_true, decide_eq_true_eq] at q
  obtain ⟨⟨⟨⟨⟨q1, q2⟩, q3⟩, q4⟩, q5⟩, q6⟩ := q
  refine ⟨fun i hi => oddT_of (List.all_eq_true.mp q1 i (List.mem_range.mpr (by omega))), oddT_of q2, ?_, q5, fun a ha => of_decide_eq_true (List.all_eq_true.mp q6 a ha)⟩
  obtain ⟨n, hn⟩ := Int.eq_ofNat_of_zero_le (pc_nonneg (sz : Int))
  rw [hn, Int.toNat_natCast] at q4
  exact ⟨n, hn, by omega, q4⟩
theorem twosOf_len (sz : Nat) : (twosOf sz).length = sz + 1 := by unfold twosOf; rw [List.length_map, rangeKs_length]; omega
/-- the numbers that the law looks at -/
def numsOf (sz : Nat) (a b c d : Int) : List Int := rangeKs 0 (sz + 2) ++ [a - 1, a, b - 1, b, a + b] ++ [c - 1, c, d - 1, d, c + d]
theorem range_mem {sz : Nat} {a b c d n : Int} (h0 : 0 ≤ n) (h1 : n < sz + 2) : n ∈ numsOf sz a b c d := by
  unfold numsOf
  refine List.mem_append_left _ (List.mem_append_left _ ?_)
  unfold rangeKs
  exact List.mem_map.mpr ⟨n.toNat, List.mem_range.mpr (by omega), by omega⟩
theorem nums_mem {sz : Nat} {a b c d n : Int} : n ∈ numsOf sz a b c d ↔ (0 ≤ n ∧ n < sz + 2) ∨ n = a - 1 ∨ n = a ∨ n = b - 1 ∨ n = b ∨ n = a + b ∨ n = c - 1 ∨ n = c ∨ n = d - 1 ∨ n = d ∨ n = c + d := by
  constructor
  · intro h
    unfold numsOf at h
    simp only [List.mem_append, List.mem_cons, List.not_mem_nil, or_false] at h
    rcases h with (h | h) | h
    · have := mem_rangeKs h
      exact .inl (by omega)
    · exact .inr (by omega)
    · exact .inr (by omega)
  · intro h
    rcases h with h | h
    · exact range_mem h.1 h.2
    · unfold numsOf
      simp only [List.mem_append, List.mem_cons, List.not_mem_nil, or_false]
      omega
theorem nums_len (sz : Nat) (a b c d : Int) : (numsOf sz a b c d).length = sz + 12 := by
  unfold numsOf
  simp only [List.length_append, rangeKs_length, List.length_cons, List.length_nil]
end Mine
end
section
open PySem PySem.W PyProof.Rows
namespace Mine
theorem Dis.of {a b tabs : List (Addr × Obj)} (h : Dis a tabs) (hs : ∀ p ∈ b, ∃ q ∈ a, q.1 = p.1) : Dis b tabs := fun z hz q hq => by
  obtain ⟨x, hx, e⟩ := hs z hz
  rw [← e]
  exact h x hx q hq
theorem News.sub {h₀ h : Heap} {L : Addr} {a b : List (Addr × Obj)} (N : News h₀ L h a) (hs : ∀ p ∈ b, p ∈ a) : News h₀ L h b := fun p hp => N p (hs p hp)
theorem kum_pc (a b : Int) : pc a + pc b - pc (a + b) = kum a b 0 := by
  unfold kum
  rw [Int.add_zero, Int.add_zero]
theorem fD_pred {n : Int} (h : 0 < n) : fD n = pc (n - 1) - pc n + 2 := by
  have := pc_pred n.toNat n h (Nat.le_refl _)
  unfold fD
  omega
set_option maxRecDepth 100000 in
set_option maxHeartbeats 1000000 in
theorem lawRest (w : World) (p : Program) (loose : List Str) (mean : ExcName → Option Value) (mg mb : Str → Option Value) (fa : Addr) (cd : Value) (base h₀ : Heap) (L : Addr) (m : Str → Option Value) (s : Shared) (Q : Flow → Shared → Prop) (E : Value → Shared → Prop)
    (hE : PassesOwn (model Challenge.rw_pe0122_01.row.prog w) (callerA.deeper (envL L fa cd)) (envL L fa cd) E) (X : (hd.heap_39 w.params).In h₀) (T : Top p loose mean mg mb h₀) (B : Below callerA base [] h₀) (F : Fr h₀ L s.heap m) (tabs : List (Addr × Obj))
    (dM dD dL DN DP P1 P2 DG : Addr) (oM oD oL oC oU oS : Obj) (ws gs : List Value) (g0 g1 g2 g3 : Int) (t0 t1 t2 t3 : Tok) (c0 c1 sz wd : Nat) (ts tw : Tok) (v₀ : Option Value)
    (N : News h₀ L s.heap ((dL, oL) :: (dD, oD) :: (dM, oM) :: (DN, listOf ws.toArray 0) :: (L + 1 + 1, oC) :: (DP, listOf #[.ref P1, .ref P2] 0) :: (P1, tup2 g0 g1 t0 t1 c0) :: (P2, tup2 g2 g3 t2 t3 c1) :: (DG, listOf gs.toArray 0) :: (L + 1 + 1 + 1, oU) :: (L + 1, oS) :: tabs)) (hT : Tabs tabs) (hF : Dis [(dL, oL), (dD, oD), (dM, oM), (DN, listOf ws.toArray 0), (L + 1 + 1, oC), (DP, listOf #[.ref P1, .ref P2] 0), (P1, tup2 g0 g1 t0 t1 c0), (P2, tup2 g2 g3 t2 t3 c1), (DG, listOf gs.toArray 0), (L + 1 + 1 + 1, oU), (L + 1, oS)] tabs)
    (hC : oC.data = .cell (some (.ref dM))) (hS : oS.data = .cell (some (.int (sz : Int) ts))) (hU : oU.data = .cell v₀)
    (hm1 : m (Str.ofString "numbers") = some (.ref DN)) (hm2 : m (Str.ofString "dots") = some (.ref dD)) (hm3 : m (Str.ofString "last") = some (.ref dL)) (hm4 : m (Str.ofString "pairs") = some (.ref DP)) (hm5 : m (Str.ofString "given") = some (.ref DG)) (hm6 : m (Str.ofString "width") = some (.int (wd : Int) tw))
    (hI : IntsAre ws (numsOf sz g0 g1 g2 g3)) (hG : IntsAre gs [g0, g1, g2, g3]) (hg0 : 1 ≤ g0 ∧ g0 ≤ 512) (hg1 : 1 ≤ g1 ∧ g1 ≤ 512) (hg2 : 1 ≤ g2 ∧ g2 ≤ 512) (hg3 : 1 ≤ g3 ∧ g3 ≤ 512)
    (hdM : DictI w oM pc []) (hdD : DictI w oD fD []) (hdL : DictI w oL fL []) (hlM : (dM == sysModules) = false) (hlD : (dD == sysModules) = false) (hlL : (dL == sysModules) = false)
    (hs0 : 3 ≤ sz) (hs1 : sz ≤ 8) (hw0 : 8 ≤ wd) (hw1 : wd ≤ 12)
    (hlo : dM < dD ∧ dD < dL ∧ DN < dM ∧ L + 1 + 1 + 1 < dM) (hled : ∀ q ∈ [(DP, listOf #[.ref P1, .ref P2] 0), (P1, tup2 g0 g1 t0 t1 c0), (P2, tup2 g2 g3 t2 t3 c1), (DG, listOf gs.toArray 0), (L + 1 + 1 + 1, oU), (L + 1, oS)], q.1 < dM)
    (fin : ∀ (tabs' led' : List (Addr × Obj)) (m' : Str → Option Value) (h : Heap) (tk : Nat), Tabs tabs' → Fr h₀ L h m' → News h₀ L h (led' ++ tabs') → Q (.ret (.bool true)) { s with heap := h, toks := tk }) :
    wpAny (model Challenge.rw_pe0122_01.row.prog w) (callerA.deeper (envL L fa cd)) (execs (lawBody.drop 8) (envL L fa cd)) Q E s := by
  have hns : ∀ n ∈ numsOf sz g0 g1 g2 g3, 0 ≤ n ∧ n ≤ 1024 := by
    intro n hn
    rw [nums_mem] at hn
    omega
  have hlen : (numsOf sz g0 g1 g2 g3).length ≤ 100 := by rw [nums_len]; omega
  have fz := fin9 hs0 hs1
  refine loopB w p loose mean mg mb fa cd base h₀ L m s Q E hE X T B F [(DP, listOf #[.ref P1, .ref P2] 0), (P1, tup2 g0 g1 t0 t1 c0), (P2, tup2 g2 g3 t2 t3 c1), (DG, listOf gs.toArray 0), (L + 1 + 1 + 1, oU), (L + 1, oS)] tabs dM dD dL DN oM oD oL oC ws _ N hC hm1 hm2 hm3 hI hns hlen hdM hdD hdL hT hF ⟨hlo.1, hlo.2.1, hlo.2.2.1, Nat.lt_trans (Nat.lt_succ_self _) hlo.2.2.2⟩ hled ?_
  clear N F hT hF hdM hdD hdL
  intro oM1 oD1 oL1 tabs1 m1 h1 tk1 hdM hdD hdL hT hF F hm N
  have q2 := (hm (Str.ofString "dots") (by decide)).trans hm2
  have q3 := (hm (Str.ofString "last") (by decide)).trans hm3
  have q4 := (hm (Str.ofString "pairs") (by decide)).trans hm4
  have q5 := (hm (Str.ofString "given") (by decide)).trans hm5
  have q6 := (hm (Str.ofString "width") (by decide)).trans hm6
  clear hm hm1 hm2 hm3 hm4 hm5 hm6
  have N1 : News h₀ L h1 ((dM, oM1) :: (DP, listOf #[.ref P1, .ref P2] 0) :: (P1, tup2 g0 g1 t0 t1 c0) :: (P2, tup2 g2 g3 t2 t3 c1) :: (L + 1 + 1, oC) :: (dL, oL1) :: (dD, oD1) :: (DG, listOf gs.toArray 0) :: (L + 1 + 1 + 1, oU) :: (L + 1, oS) :: tabs1) := News.sub N (fun p hp => by
        rcases List.mem_cons.mp hp with rfl | hp
        · exact .tail _ (.tail _ (.head _))
        rcases List.mem_cons.mp hp with rfl | hp
        · exact .tail _ (.tail _ (.tail _ (.tail _ (.tail _ (.head _)))))
        rcases List.mem_cons.mp hp with rfl | hp
        · exact .tail _ (.tail _ (.tail _ (.tail _ (.tail _ (.tail _ (.head _))))))
        rcases List.mem_cons.mp hp with rfl | hp
        · exact .tail _ (.tail _ (.tail _ (.tail _ (.tail _ (.tail _ (.tail _ (.head _)))))))
        rcases List.mem_cons.mp hp with rfl | hp
        · exact .tail _ (.tail _ (.tail _ (.tail _ (.head _))))
        rcases List.mem_cons.mp hp with rfl | hp
        · exact .head _
        rcases List.mem_cons.mp hp with rfl | hp
        · exact .tail _ (.head _)
        rcases List.mem_cons.mp hp with rfl | hp
        · exact .tail _ (.tail _ (.tail _ (.tail _ (.tail _ (.tail _ (.tail _ (.tail _ (.head _))))))))
        rcases List.mem_cons.mp hp with rfl | hp
        · exact .tail _ (.tail _ (.tail _ (.tail _ (.tail _ (.tail _ (.tail _ (.tail _ (.tail _ (.head _)))))))))
        rcases List.mem_cons.mp hp with rfl | hp
        · exact .tail _ (.tail _ (.tail _ (.tail _ (.tail _ (.tail _ (.tail _ (.tail _ (.tail _ (.tail _ (.head _))))))))))
        exact .tail _ (.tail _ (.tail _ (.tail _ (.tail _ (.tail _ (.tail _ (.tail _ (.tail _ (.tail _ (.tail _ (hp)))))))))))
)
  clear N
  refine loopC w p loose mean mg mb fa cd base h₀ L m1 _ Q E hE X T B F [(dL, oL1), (dD, oD1), (DG, listOf gs.toArray 0), (L + 1 + 1 + 1, oU), (L + 1, oS)] tabs1 dM P1 P2 DP oM1 oC pc _ g0 g1 g2 g3 _ _ t0 t1 t2 t3 c0 c1 N1 hC q4 hlM hdM (by omega) (by omega) (by omega) (by omega) (nums_mem.mpr (by omega)) (nums_mem.mpr (by omega)) (nums_mem.mpr (by omega)) (nums_mem.mpr (by omega)) (nums_mem.mpr (by omega)) (nums_mem.mpr (by omega)) rfl rfl (kum_pc _ _) (kum_pc _ _) ?_
  clear N1 F
  intro m2 h2 tk2 F hm N
  have r2 := (hm (Str.ofString "dots") (by decide)).trans q2
  have r3 := (hm (Str.ofString "last") (by decide)).trans q3
  have r5 := (hm (Str.ofString "given") (by decide)).trans q5
  have r6 := (hm (Str.ofString "width") (by decide)).trans q6
  clear hm q2 q3 q4 q5 q6
  have N1 : News h₀ L h2 ((dM, oM1) :: (dD, oD1) :: (DG, listOf gs.toArray 0) :: (L + 1, oS) :: (L + 1 + 1, oC) :: (dL, oL1) :: (L + 1 + 1 + 1, oU) :: tabs1) := News.sub N (fun p hp => by
        rcases List.mem_cons.mp hp with rfl | hp
        · exact .head _
        rcases List.mem_cons.mp hp with rfl | hp
        · exact .tail _ (.tail _ (.tail _ (.tail _ (.tail _ (.tail _ (.head _))))))
        rcases List.mem_cons.mp hp with rfl | hp
        · exact .tail _ (.tail _ (.tail _ (.tail _ (.tail _ (.tail _ (.tail _ (.head _)))))))
        rcases List.mem_cons.mp hp with rfl | hp
        · exact .tail _ (.tail _ (.tail _ (.tail _ (.tail _ (.tail _ (.tail _ (.tail _ (.tail _ (.head _)))))))))
        rcases List.mem_cons.mp hp with rfl | hp
        · exact .tail _ (.tail _ (.tail _ (.tail _ (.head _))))
        rcases List.mem_cons.mp hp with rfl | hp
        · exact .tail _ (.tail _ (.tail _ (.tail _ (.tail _ (.head _)))))
        rcases List.mem_cons.mp hp with rfl | hp
        · exact .tail _ (.tail _ (.tail _ (.tail _ (.tail _ (.tail _ (.tail _ (.tail _ (.head _))))))))
        exact .tail _ (.tail _ (.tail _ (.tail _ (.tail _ (.tail _ (.tail _ (.tail _ (.tail _ (.tail _ (hp))))))))))
)
  clear N
  refine loopD w p loose mean mg mb fa cd base h₀ L m2 _ Q E hE X T B F [(dL, oL1), (L + 1 + 1 + 1, oU)] tabs1 dM dD DG oM1 oD1 oC oS pc fD _ gs _ (sz : Int) ts N1 hC hS r2 r5 hlM hlD hdM hdD hG (show 4 ≤ 10 by decide) (by omega) (by omega) ?_ ?_
  · intro n hn
    have hn1 : 0 < n ∧ n ∈ numsOf sz g0 g1 g2 g3 ∧ n - 1 ∈ numsOf sz g0 g1 g2 g3 := by
      rw [nums_mem, nums_mem]
      rcases hn with hn | hn
      · omega
      · simp only [List.mem_cons, List.not_mem_nil, or_false] at hn
        omega
    exact ⟨hn1.2.1, hn1.2.2, fD_pred hn1.1⟩
  clear N1 F
  intro m3 h3 tk3 F hm N
  have q2 := (hm (Str.ofString "dots") (by decide)).trans r2
  have q3 := (hm (Str.ofString "last") (by decide)).trans r3
  have q6 := (hm (Str.ofString "width") (by decide)).trans r6
  clear hm r2 r3 r5 r6
  have N1 : News h₀ L h3 ((L + 1 + 1 + 1, oU) :: (L + 1, oS) :: (L + 1 + 1, oC) :: (dM, oM1) :: (dD, oD1) :: (dL, oL1) :: tabs1) := News.sub N (fun p hp => by
        rcases List.mem_cons.mp hp with rfl | hp
        · exact .tail _ (.tail _ (.tail _ (.tail _ (.tail _ (.tail _ (.head _))))))
        rcases List.mem_cons.mp hp with rfl | hp
        · exact .tail _ (.tail _ (.tail _ (.head _)))
        rcases List.mem_cons.mp hp with rfl | hp
        · exact .tail _ (.tail _ (.tail _ (.tail _ (.head _))))
        rcases List.mem_cons.mp hp with rfl | hp
        · exact .head _
        rcases List.mem_cons.mp hp with rfl | hp
        · exact .tail _ (.head _)
        rcases List.mem_cons.mp hp with rfl | hp
        · exact .tail _ (.tail _ (.tail _ (.tail _ (.tail _ (.head _)))))
        exact .tail _ (.tail _ (.tail _ (.tail _ (.tail _ (.tail _ (.tail _ (hp)))))))
)
  clear N
  have hall : ∀ q ∈ (L + 1, oS) :: (L + 1 + 1, oC) :: (dM, oM1) :: (dD, oD1) :: (dL, oL1) :: tabs1, q.1 ≠ L + 1 + 1 + 1 := by
    intro q hq
    rcases List.mem_cons.mp hq with rfl | hq
    · exact Nat.ne_of_lt (Nat.lt_trans (Nat.lt_succ_self _) (Nat.lt_succ_self _))
    rcases List.mem_cons.mp hq with rfl | hq
    · exact Nat.ne_of_lt (Nat.lt_succ_self _)
    rcases List.mem_cons.mp hq with rfl | hq
    · exact Nat.ne_of_gt hlo.2.2.2
    rcases List.mem_cons.mp hq with rfl | hq
    · exact Nat.ne_of_gt (Nat.lt_trans hlo.2.2.2 hlo.1)
    rcases List.mem_cons.mp hq with rfl | hq
    · exact Nat.ne_of_gt (Nat.lt_trans (Nat.lt_trans hlo.2.2.2 hlo.1) hlo.2.1)
    · exact hF (L + 1 + 1 + 1, oU) (.tail _ (.tail _ (.tail _ (.tail _ (.tail _ (.tail _ (.tail _ (.tail _ (.tail _ (.head _)))))))))) q hq
  refine loopE w p loose mean mg mb fa cd base h₀ L m3 _ Q E hE X T B F ((L + 1 + 1, oC) :: (dM, oM1) :: (dD, oD1) :: (dL, oL1) :: tabs1) oS oU (sz : Int) ts v₀ N1 hS hU hall (by omega) (by omega) ?_
  clear N1 F hall
  intro oU1 DS vs k tp m4 h4 tk4 hU1 hIV _ hltS hprod F hm N
  rw [Int.toNat_natCast] at hIV hprod
  have r2 := (hm (Str.ofString "dots") (by decide)).trans q2
  have r3 := (hm (Str.ofString "last") (by decide)).trans q3
  have r6 := (hm (Str.ofString "width") (by decide)).trans q6
  clear hm q2 q3 q6
  have hF1 : Dis [(L + 1 + 1 + 1, oU1), (L + 1, oS), (L + 1 + 1, oC), (dM, oM1), (dD, oD1), (dL, oL1)] tabs1 := Dis.of hF (fun p hp => by
        rcases List.mem_cons.mp hp with rfl | hp
        · exact ⟨_, .tail _ (.tail _ (.tail _ (.tail _ (.tail _ (.tail _ (.tail _ (.tail _ (.tail _ (.head _))))))))), rfl⟩
        rcases List.mem_cons.mp hp with rfl | hp
        · exact ⟨_, .tail _ (.tail _ (.tail _ (.tail _ (.tail _ (.tail _ (.tail _ (.tail _ (.tail _ (.tail _ (.head _)))))))))), rfl⟩
        rcases List.mem_cons.mp hp with rfl | hp
        · exact ⟨_, .tail _ (.tail _ (.tail _ (.tail _ (.head _)))), rfl⟩
        rcases List.mem_cons.mp hp with rfl | hp
        · exact ⟨_, .tail _ (.tail _ (.head _)), rfl⟩
        rcases List.mem_cons.mp hp with rfl | hp
        · exact ⟨_, .tail _ (.head _), rfl⟩
        rcases List.mem_cons.mp hp with rfl | hp
        · exact ⟨_, .head _, rfl⟩
        cases hp
)
  have hF2 : Dis [(DS, listOf vs.toArray k), (L + 1 + 1 + 1, oU1), (L + 1, oS), (L + 1 + 1, oC), (dM, oM1), (dD, oD1), (dL, oL1)] tabs1 := Dis.cons (fun q hq => Nat.ne_of_lt (hltS q (.tail _ (.tail _ (.tail _ (.tail _ (hq))))))) hF1
  clear hF hF1 hltS
  refine partF w p loose mean mg mb fa cd base h₀ L m4 _ Q E hE X T B F [(L + 1 + 1, oC), (dM, oM1), (dD, oD1), (dL, oL1)] tabs1 DS oS oU1 vs k sz wd ts tw N hT hF2 hS hU1 hIV r6 hs0 hs1 hw0 hw1 ?_
  clear N F hT hF2
  intro tabs2 m5 h5 tk5 hT hF F hm N
  have q2 := (hm (Str.ofString "dots") (by decide)).trans r2
  have q3 := (hm (Str.ofString "last") (by decide)).trans r3
  have q7 := (hm (Str.ofString "product") (by decide)).trans hprod
  clear hm r2 r3 r6 hprod
  refine partG w p loose mean mg mb fa cd base h₀ L m5 _ Q E hE X T B F ((dD, oD1) :: (dL, oL1) :: tabs2) DS dM oS oU1 oC oM1 vs k sz ts pc _ N hS hC hlM hdM hs1 (fun n a b => range_mem a (by omega)) ?_
  clear N F
  intro DT us m6 h6 tk6 hIU hmT hneT F hm N
  have r2 := (hm (Str.ofString "dots") (by decide)).trans q2
  have r3 := (hm (Str.ofString "last") (by decide)).trans q3
  have r7 := (hm (Str.ofString "product") (by decide)).trans q7
  clear hm q2 q3 q7
  have hF2 : Dis [(DT, listOf us.toArray us.length), (DS, listOf vs.toArray k), (L + 1 + 1 + 1, oU1), (L + 1, oS), (L + 1 + 1, oC), (dM, oM1), (dD, oD1), (dL, oL1)] tabs2 := Dis.cons (fun q hq => hneT q (.tail _ (.tail _ (.tail _ (.tail _ (.tail _ (.tail _ (.tail _ (hq))))))))) hF
  clear hF hneT
  refine loopH w p loose mean mg mb fa cd base h₀ L m6 _ Q E hE X T B F [(L + 1 + 1, oC), (dM, oM1), (dD, oD1), (dL, oL1)] tabs2 DT DS oS oU1 us vs us.length k sz ts (row sz) (twosOf sz) N hT hF2 hS hU1 hIV hIU (row_len sz) (twosOf_len sz) hmT hs1 fz.odd ?_
  clear N F hT hF2
  intro tabs3 m7 h7 tk7 hT hF F hm N
  have q2 := (hm (Str.ofString "dots") (by decide)).trans r2
  have q3 := (hm (Str.ofString "last") (by decide)).trans r3
  have q7 := (hm (Str.ofString "product") (by decide)).trans r7
  have q8 := (hm (Str.ofString "twos") (by decide)).trans hmT
  clear hm r2 r3 r7 hmT
  obtain ⟨np, hnp, hop⟩ := fz.prod
  obtain ⟨nf, hnf, hnf1, hcnt⟩ := fz.cnt
  refine partI w p loose mean mg mb fa cd base h₀ L m7 _ Q E hE X T B F [] tabs3 DT DS dM dD dL oS oU1 oC oM1 oD1 oL1 us vs us.length k sz ts tp (row sz) (twosOf sz) pc fD fL _ (fac sz) np nf N hT hF hS hU1 hC hIV hIU (row_len sz) (twosOf_len sz) hlM hlD hlL hdM hdD hdL (range_mem (by omega) (by omega)) (range_mem (by omega) (by omega)) q8 q7 q2 q3 hs1 hnp hop hnf hnf1 hcnt (maxOf sz) fz.max0 fz.max1 rfl ?_
  clear N F hT hF
  intro tabs4 m8 h8 tk8 hT _ F N
  exact fin tabs4 [(DT, listOf us.toArray us.length), (DS, listOf vs.toArray k), (L + 1 + 1 + 1, oU1), (L + 1, oS), (L + 1 + 1, oC), (dM, oM1), (dD, oD1), (dL, oL1)] m8 h8 tk8 hT F N
theorem grown_of {h₀ h : Heap} {L : Addr} {led tabs : List (Addr × Obj)} (N : News h₀ L h (led ++ tabs)) (hT : Tabs tabs) : GrownAll [(58, 54), (51, 47)] h := by
  have at_ : ∀ {P ln co : Nat} {q : Str}, TabOK tabs P ln co q → GrownAt P h := by
    intro P ln co q hP
    rcases hP with h | ⟨c, oc, vs, t, h, _⟩
    · exact .of N (List.mem_append_right _ h)
    · exact .of N (List.mem_append_right _ h)
  exact ⟨at_ hT.two, at_ hT.one, trivial⟩
theorem tabs0 : Tabs [(54, tabObj #[]), (47, tabObj #[])] := by
  refine ⟨fun p hp => ?_, .inl (.tail _ (.head _)), .inl (.head _)⟩
  rcases List.mem_cons.mp hp with rfl | hp
  · exact ⟨_, rfl⟩
  · rcases List.mem_cons.mp hp with rfl | hp
    · exact ⟨_, rfl⟩
    · cases hp
theorem tup2_eq (a b : Int) (t u : Tok) (c : Nat) : tup2 a b t u c = { cls := .type "tuple", data := .seq #[.int a t, .int b u] c } := rfl
theorem dictI0 {w : World} {o : Obj} {f : Int → Int} (h1 : o.IsDictOf (intKind Challenge.rw_pe0122_01.row.prog w) []) : DictI w o f [] := ⟨[], [], h1, .nil, Nat.le_refl _, fun _ h => nomatch h⟩
theorem nums_eq {sz : Nat} {k : Int} {a b c d : Int} (e : k = (sz : Int)) : rangeKs 0 (k + 2 - 0).toNat ++ [a - 1, a, b - 1, b, a + b] ++ [c - 1, c, d - 1, d, c + d] = numsOf sz a b c d := by
  subst e
  unfold numsOf
  rw [show ((sz : Int) + 2 - 0).toNat = sz + 2 from by omega]
set_option maxRecDepth 100000 in
set_option maxHeartbeats 1000000 in
theorem lawRest2 (w : World) (p : Program) (loose : List Str) (mean : ExcName → Option Value) (mg mb : Str → Option Value) (fa : Addr) (cd : Value) (base h₀ : Heap) (L : Addr) (m : Str → Option Value) (s : Shared) (Q : Flow → Shared → Prop) (E : Value → Shared → Prop)
    (hE : PassesOwn (model Challenge.rw_pe0122_01.row.prog w) (callerA.deeper (envL L fa cd)) (envL L fa cd) E) (X : (hd.heap_39 w.params).In h₀) (T : Top p loose mean mg mb h₀) (B : Below callerA base [] h₀) (F : Fr h₀ L s.heap m) (x0 a1 a2 a3 a4 b1 b2 b3 b4 : Addr × Obj) (szv wdv : Int)
    (dM dD dL DN DP P1 P2 DG : Addr) (oM oD oL oC oU oS : Obj) (ws gs : List Value) (g0 g1 g2 g3 : Int) (t0 t1 t2 t3 : Tok) (c0 c1 sz wd : Nat) (ts tw : Tok) (v₀ : Option Value)
    (N : News h₀ L s.heap (x0 :: (dL, oL) :: (dD, oD) :: (dM, oM) :: (DN, listOf ws.toArray 0) :: a1 :: a2 :: a3 :: a4 :: (DP, listOf #[.ref P1, .ref P2] 0) :: (P2, tup2 g2 g3 t2 t3 c1) :: (P1, tup2 g0 g1 t0 t1 c0) :: (DG, listOf gs.toArray 0) :: b1 :: b2 :: b3 :: b4 :: (L + 1 + 1 + 1, oU) :: (L + 1 + 1, oC) :: (L + 1, oS) :: [(54, tabObj #[]), (47, tabObj #[])]))
    (hC : oC.data = .cell (some (.ref dM))) (hS : oS.data = .cell (some (.int szv ts))) (hU : oU.data = .cell v₀)
    (hm1 : m (Str.ofString "numbers") = some (.ref DN)) (hm2 : m (Str.ofString "dots") = some (.ref dD)) (hm3 : m (Str.ofString "last") = some (.ref dL)) (hm4 : m (Str.ofString "pairs") = some (.ref DP)) (hm5 : m (Str.ofString "given") = some (.ref DG)) (hm6 : m (Str.ofString "width") = some (.int wdv tw))
    (hI : IntsAre ws (numsOf sz g0 g1 g2 g3)) (hG : IntsAre gs [g0, g1, g2, g3]) (hg0 : 1 ≤ g0 ∧ g0 ≤ 512) (hg1 : 1 ≤ g1 ∧ g1 ≤ 512) (hg2 : 1 ≤ g2 ∧ g2 ≤ 512) (hg3 : 1 ≤ g3 ∧ g3 ≤ 512)
    (hdM : oM.IsDictOf (intKind Challenge.rw_pe0122_01.row.prog w) []) (hdD : oD.IsDictOf (intKind Challenge.rw_pe0122_01.row.prog w) []) (hdL : oL.IsDictOf (intKind Challenge.rw_pe0122_01.row.prog w) []) (hlM : (dM == sysModules) = false) (hlD : (dD == sysModules) = false) (hlL : (dL == sysModules) = false)
    (hs0 : 3 ≤ sz) (hs1 : sz ≤ 8) (hw0 : 8 ≤ wd) (hw1 : wd ≤ 12)
    (hszv : szv = (sz : Int)) (hwdv : wdv = (wd : Int)) (hbig : 54 < dL ∧ 54 < dD ∧ 54 < dM ∧ 54 < DN ∧ 54 < L + 1 + 1 ∧ 54 < DP ∧ 54 < P1 ∧ 54 < P2 ∧ 54 < DG ∧ 54 < L + 1 + 1 + 1 ∧ 54 < L + 1)
    (hlo : dM < dD ∧ dD < dL ∧ DN < dM ∧ L + 1 + 1 + 1 < dM) (hled : ∀ q ∈ [(DP, listOf #[.ref P1, .ref P2] 0), (P1, tup2 g0 g1 t0 t1 c0), (P2, tup2 g2 g3 t2 t3 c1), (DG, listOf gs.toArray 0), (L + 1 + 1 + 1, oU), (L + 1, oS)], q.1 < dM)
    (fin : ∀ (tabs' led' : List (Addr × Obj)) (m' : Str → Option Value) (h : Heap) (tk : Nat), Tabs tabs' → Fr h₀ L h m' → News h₀ L h (led' ++ tabs') → Q (.ret (.bool true)) { s with heap := h, toks := tk }) :
    wpAny (model Challenge.rw_pe0122_01.row.prog w) (callerA.deeper (envL L fa cd)) (execs (lawBody.drop 8) (envL L fa cd)) Q E s := by
  have hd0 : Dis [(dL, oL), (dD, oD), (dM, oM), (DN, listOf ws.toArray 0), (L + 1 + 1, oC), (DP, listOf #[.ref P1, .ref P2] 0), (P1, tup2 g0 g1 t0 t1 c0), (P2, tup2 g2 g3 t2 t3 c1), (DG, listOf gs.toArray 0), (L + 1 + 1 + 1, oU), (L + 1, oS)] [(54, tabObj #[]), (47, tabObj #[])] := by
    intro p hp q hq
    have hq' : q.1 = 54 ∨ q.1 = 47 := by
      rcases List.mem_cons.mp hq with rfl | hq
      · exact .inl rfl
      · rcases List.mem_cons.mp hq with rfl | hq
        · exact .inr rfl
        · cases hq
    have hp' : 54 < p.1 := by
      simp only [List.mem_cons, List.not_mem_nil, or_false] at hp
      obtain ⟨i1, i2, i3, i4, i5, i6, i7, i8, i9, i10, i11⟩ := hbig
      rcases hp with rfl | rfl | rfl | rfl | rfl | rfl | rfl | rfl | rfl | rfl | rfl
      all_goals assumption
    rcases hq' with e | e
    · rw [e]; exact Nat.ne_of_lt hp'
    · rw [e]; exact Nat.ne_of_lt (Nat.lt_trans (by decide) hp')
  have N1 : News h₀ L s.heap ((dL, oL) :: (dD, oD) :: (dM, oM) :: (DN, listOf ws.toArray 0) :: (L + 1 + 1, oC) :: (DP, listOf #[.ref P1, .ref P2] 0) :: (P1, tup2 g0 g1 t0 t1 c0) :: (P2, tup2 g2 g3 t2 t3 c1) :: (DG, listOf gs.toArray 0) :: (L + 1 + 1 + 1, oU) :: (L + 1, oS) :: [(54, tabObj #[]), (47, tabObj #[])]) := News.sub N (fun p hp => by
    rcases List.mem_cons.mp hp with rfl | hp
    · exact .tail _ (.head _)
    rcases List.mem_cons.mp hp with rfl | hp
    · exact .tail _ (.tail _ (.head _))
    rcases List.mem_cons.mp hp with rfl | hp
    · exact .tail _ (.tail _ (.tail _ (.head _)))
    rcases List.mem_cons.mp hp with rfl | hp
    · exact .tail _ (.tail _ (.tail _ (.tail _ (.head _))))
    rcases List.mem_cons.mp hp with rfl | hp
    · exact .tail _ (.tail _ (.tail _ (.tail _ (.tail _ (.tail _ (.tail _ (.tail _ (.tail _ (.tail _ (.tail _ (.tail _ (.tail _ (.tail _ (.tail _ (.tail _ (.tail _ (.tail _ (.head _))))))))))))))))))
    rcases List.mem_cons.mp hp with rfl | hp
    · exact .tail _ (.tail _ (.tail _ (.tail _ (.tail _ (.tail _ (.tail _ (.tail _ (.tail _ (.head _)))))))))
    rcases List.mem_cons.mp hp with rfl | hp
    · exact .tail _ (.tail _ (.tail _ (.tail _ (.tail _ (.tail _ (.tail _ (.tail _ (.tail _ (.tail _ (.tail _ (.head _)))))))))))
    rcases List.mem_cons.mp hp with rfl | hp
    · exact .tail _ (.tail _ (.tail _ (.tail _ (.tail _ (.tail _ (.tail _ (.tail _ (.tail _ (.tail _ (.head _))))))))))
    rcases List.mem_cons.mp hp with rfl | hp
    · exact .tail _ (.tail _ (.tail _ (.tail _ (.tail _ (.tail _ (.tail _ (.tail _ (.tail _ (.tail _ (.tail _ (.tail _ (.head _))))))))))))
    rcases List.mem_cons.mp hp with rfl | hp
    · exact .tail _ (.tail _ (.tail _ (.tail _ (.tail _ (.tail _ (.tail _ (.tail _ (.tail _ (.tail _ (.tail _ (.tail _ (.tail _ (.tail _ (.tail _ (.tail _ (.tail _ (.head _)))))))))))))))))
    rcases List.mem_cons.mp hp with rfl | hp
    · exact .tail _ (.tail _ (.tail _ (.tail _ (.tail _ (.tail _ (.tail _ (.tail _ (.tail _ (.tail _ (.tail _ (.tail _ (.tail _ (.tail _ (.tail _ (.tail _ (.tail _ (.tail _ (.tail _ (.head _)))))))))))))))))))
    exact .tail _ (.tail _ (.tail _ (.tail _ (.tail _ (.tail _ (.tail _ (.tail _ (.tail _ (.tail _ (.tail _ (.tail _ (.tail _ (.tail _ (.tail _ (.tail _ (.tail _ (.tail _ (.tail _ (.tail _ (hp)))))))))))))))))))))
  subst hszv hwdv
  exact lawRest w p loose mean mg mb fa cd base h₀ L m s Q E hE X T B F [(54, tabObj #[]), (47, tabObj #[])] dM dD dL DN DP P1 P2 DG oM oD oL oC oU oS ws gs g0 g1 g2 g3 t0 t1 t2 t3 c0 c1 sz wd ts tw v₀ N1 tabs0 hd0 hC hS hU hm1 hm2 hm3 hm4 hm5 hm6 hI hG hg0 hg1 hg2 hg3 (dictI0 hdM) (dictI0 hdD) (dictI0 hdL) hlM hlD hlL hs0 hs1 hw0 hw1 hlo hled fin
end Mine
end
section
open PySem PySem.W PyProof.Rows
namespace Mine
local macro_rules | `(tactic| walk_at "subscriptTail") => `(tactic| ((with_reducible show wpAny _ _ (subscriptTail (PySem.Expr.List _ _) _ _ _) _ _ _); refine Stop.mk ?_))
local macro_rules | `(tactic| walk_at "pyIter ref") => `(tactic| ((have hgo9 : HaltIter := by assumption); clear hgo9; refine Stop.mk ?_))
local macro_rules | `(tactic| walk_at "execs cons") => `(tactic| ((with_reducible show wpAny _ _ (execs (Stmt.For (PySem.Expr.Name _ _) (PySem.Expr.Name _ _) _ _ _ :: _) _) _ _ _); refine Stop.mk ?_))
local macro_rules | `(tactic| walk_at "exec For Name Name cons nil") => `(tactic| ((have hgo9 : HaltFor := by assumption); clear hgo9; refine Stop.mk ?_))
theorem slice4 {vs : List Value} (hI : IntsAre vs [13, 7, 22, 9]) {k : Int} (h0 : 0 ≤ k) (hk : k ≤ 4) : IntsAre (slicePick vs.toArray (some k) none none).toList (List.drop k.toNat [13, 7, 22, 9]) := by
  obtain ⟨n, rfl⟩ := Int.eq_ofNat_of_zero_le h0
  rw [kms_pick_eq]
  match n, (show n ≤ 4 by omega) with
  | 0, _ => match hI with | .cons _ _ (.cons _ _ (.cons _ _ (.cons _ _ .nil))) => exact .cons _ _ (.cons _ _ (.cons _ _ (.cons _ _ .nil)))
  | 1, _ => match hI with | .cons _ _ (.cons _ _ (.cons _ _ (.cons _ _ .nil))) => exact .cons _ _ (.cons _ _ (.cons _ _ .nil))
  | 2, _ => match hI with | .cons _ _ (.cons _ _ (.cons _ _ (.cons _ _ .nil))) => exact .cons _ _ (.cons _ _ .nil)
  | 3, _ => match hI with | .cons _ _ (.cons _ _ (.cons _ _ (.cons _ _ .nil))) => exact .cons _ _ .nil
  | 4, _ => match hI with | .cons _ _ (.cons _ _ (.cons _ _ (.cons _ _ .nil))) => exact .nil
theorem ints4 {vs : List Value} {a b c d : Int} (h : IntsAre vs [a, b, c, d]) : ∃ t0 t1 t2 t3, vs = [.int a t0, .int b t1, .int c t2, .int d t3] := by
  match h with | .cons _ t0 (.cons _ t1 (.cons _ t2 (.cons _ t3 .nil))) => exact ⟨t0, t1, t2, t3, rfl⟩
theorem md (x : Int) : 1 ≤ 1 + x.fmod 512 ∧ 1 + x.fmod 512 ≤ 512 := by
  rw [Int.fmod_eq_emod_of_nonneg _ (by decide)]; omega
/-- the four numbers that the law takes from its script -/
theorem four {vs : List Value} {w : List Int} (h : IntsAre vs (List.map (fun k' : Int => 1 + k'.fmod 512) (List.take 4 w) ++ List.drop ((List.map (fun k' : Int => 1 + k'.fmod 512) (List.take 4 w)).length : Int).toNat [13, 7, 22, 9])) :
    ∃ a b c d t0 t1 t2 t3, vs = [.int a t0, .int b t1, .int c t2, .int d t3] ∧ (1 ≤ a ∧ a ≤ 512) ∧ (1 ≤ b ∧ b ≤ 512) ∧ (1 ≤ c ∧ c ≤ 512) ∧ 1 ≤ d ∧ d ≤ 512 := by
  match w, h with
  | [], h => obtain ⟨t0, t1, t2, t3, e⟩ := ints4 h; exact ⟨_, _, _, _, _, _, _, _, e, by decide, by decide, by decide, by decide⟩
  | [x], h => obtain ⟨t0, t1, t2, t3, e⟩ := ints4 h; exact ⟨_, _, _, _, _, _, _, _, e, md x, by decide, by decide, by decide⟩
  | [x, y], h => obtain ⟨t0, t1, t2, t3, e⟩ := ints4 h; exact ⟨_, _, _, _, _, _, _, _, e, md x, md y, by decide, by decide⟩
  | [x, y, z], h => obtain ⟨t0, t1, t2, t3, e⟩ := ints4 h; exact ⟨_, _, _, _, _, _, _, _, e, md x, md y, md z, by decide⟩
  | x :: y :: z :: u :: r, h => obtain ⟨t0, t1, t2, t3, e⟩ := ints4 h; exact ⟨_, _, _, _, _, _, _, _, e, md x, md y, md z, md u⟩
theorem md6 (x : Int) : 3 + x.fmod 6 = (((3 + x.fmod 6).toNat : Nat) : Int) ∧ 3 ≤ (3 + x.fmod 6).toNat ∧ (3 + x.fmod 6).toNat ≤ 8 := by
  rw [Int.fmod_eq_emod_of_nonneg _ (by decide)]; omega
theorem md5 (x : Int) : 8 + x.fmod 5 = (((8 + x.fmod 5).toNat : Nat) : Int) ∧ 8 ≤ (8 + x.fmod 5).toNat ∧ (8 + x.fmod 5).toNat ≤ 12 := by
  rw [Int.fmod_eq_emod_of_nonneg _ (by decide)]; omega
set_option maxRecDepth 100000 in
set_option maxHeartbeats 8000000 in
theorem t0 : PySem.Challenge.rw_pe0122_01.Holds := hd (by
  w_on
  w_strict (
    k_go0
    (all_goals try k_fold)
    k_steps
    unfold Stop
    have hml : (List.map (fun k' : Int => 1 + k'.fmod 512) (List.take 4 (by assumption))).length ≤ 4 := by rw [List.length_map, List.length_take]; exact Nat.min_le_left _ _
    have h13 : ∀ t1 t2 t3 t4 : Tok, IntsAre [.int 13 t1, .int 7 t2, .int 22 t3, .int 9 t4] [13, 7, 22, 9] := fun _ _ _ _ => .cons _ _ (.cons _ _ (.cons _ _ (.cons _ _ .nil)))
    k_dflt (refine kba_turn (value' := PySem.Expr.Name (PySem.Str.ofString "_") ⟨0, 0, 0, 0⟩) (fun _ => rfl) ?_)
    k_dflt (refine' kmk_slice_ints (c := (List.drop _ [13, 7, 22, 9]).length) ?kF ?kN ?kl ?kp ?kq (h13 _ _ _ _) (slice4 (h13 _ _ _ _) ?kp1 ?kp2) rfl ?_ ?ks ?kt ?kz; (case kF => k_asm); (case kN => k_asm); (case kl => kmk_list); (case kp => kmk_part); (case kq => kmk_part); (case ks => with_unfolding_all rfl); (case kt => kmk_pure); (case kz => kmk_size); (case kp1 => omega); (case kp2 => omega))
    intro D5 ws5 h5 F5 N5 hl5 hI5 hc5 hle5
    k_lt hl5
    k_dflt (refine' kmk_add_ints ?kF ?kN ?ka ?kb ?ki hI5 ?_ ?kz; (case kF => k_asm); (case kN => k_asm); (case ka => kmk_list); (case kb => kmk_list); (case ki => l_ints); (case kz => kmk_sum))
    intro D6 ws6 h6 F6 N6 hl6 hI6
    k_lt hl6
    obtain ⟨g0, g1, g2, g3, t0, t1, t2, t3, rfl, hg0, hg1, hg2, hg3⟩ := four hI6
    clear hI6 hI5
    k_steps
    unfold Stop
    rename News _ _ _ _ => NN
    rename Fr _ _ _ _ => FF
    rename (ghostOf _ _).IsList _ _ => hLst
    rename Top _ _ _ _ _ _ => TT9
    rename Below _ _ _ _ => BB9
    rename Frag.In _ _ => XX9
    rename IntsAre _ (_ ++ _ ++ _) => hI9
    rename (_ : Shared).gens = #[] => hgens
    k_dflt (refine' lawRest2 _ _ _ _ _ _ _ _ _ _ _ _ _ _ _ ?hE XX9 TT9 BB9 FF _ _ _ _ _ _ _ _ _ _ _ _ _ _ _ _ _ _ _ _ _ _ _ _ _ _ _ g0 g1 g2 g3 _ _ _ _ _ _ _ _ _ _ _ NN ?hC ?hS ?hU ?m1 ?m2 ?m3 ?m4 ?m5 ?m6 ?hI ?hG hg0 hg1 hg2 hg3 ?dM ?dD ?dL ?lM ?lD ?lL ?s0 ?s1 ?w0 ?w1 ?sv ?wv ?big ?lo ?led ?fin)
    case hC => assumption
    case hS => assumption
    case hU => assumption
    case hE => passes_own
    case m1 => exact rfl
    case m2 => exact rfl
    case m3 => exact rfl
    case m4 => exact rfl
    case m5 => exact rfl
    case m6 => exact rfl
    case dM => assumption
    case dD => assumption
    case dL => assumption
    case lM => assumption
    case lD => assumption
    case lL => assumption
    case sv => exact (md6 _).1
    case wv => exact (md5 _).1
    case s0 => exact (md6 _).2.1
    case s1 => exact (md6 _).2.2
    case w0 => exact (md5 _).2.1
    case w1 => exact (md5 _).2.2
    case hG => exact .cons _ _ (.cons _ _ (.cons _ _ (.cons _ _ .nil)))
    case hI => exact (congrArg (IntsAre _) (nums_eq (md6 _).1)).mp hI9
    case big => (refine ⟨?_, ?_, ?_, ?_, ?_, ?_, ?_, ?_, ?_, ?_, ?_⟩ <;> (refine ltN ?_; omega))
    case lo => (refine ⟨?_, ?_, ?_, ?_⟩ <;> (refine ltN ?_; omega))
    case led => (repeat' (first | exact List.forall_mem_nil _ | refine List.forall_mem_cons.mpr ⟨?_, ?_⟩)) <;> (refine ltN ?_; dsimp only; omega)
    case fin =>
      intro tabs' led' m' h tk hT F N
      refine ⟨goodW_bool F hgens (raisesW_false ?_) ?_, grown_of N hT⟩
      · wrow_none_raised
      · wrow_post))
end Mine
end
set_option maxRecDepth 100000 in
set_option maxHeartbeats 8000000 in
theorem PySem.Challenge.cw_pe0122_01_holds : PySem.Challenge.rw_pe0122_01.Holds := by
  exact Mine.t0

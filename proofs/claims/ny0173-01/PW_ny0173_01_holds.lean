import PyProof.Rows.All
import Wide.All
import OpenK.AllK
import Wide.FinOn
import PySem.Sre
import PySem.Challenge.RW_ny0173_01
set_option Elab.async false
set_option linter.unusedVariables false
set_option linter.unusedSimpArgs false
section
open PySem PySem.Sre
namespace Mine
def code1 : Array Nat := #[14, 4, 0, 1, 1, 6, 1, 16, 46, 1]
def code3 : Array Nat := #[14, 9, 4, 1, 2, 16, 10, 16, 13, 0, 7, 7, 16, 13, 16, 10, 15, 18, 5, 16, 10, 15, 13, 11, 16, 13, 5, 5, 0, 16, 10, 1, 15, 2, 0, 1]

def goN : Nat → M → M
  | 0, m => m
  | n + 1, m => goN n m.step
theorem step_done {m : M} (h : m.outcome.isSome = true) : m.step = m := by
  unfold M.step; rw [if_pos h]
theorem goN_done {m : M} (h : m.outcome.isSome = true) : ∀ n, goN n m = m
  | 0 => rfl
  | n + 1 => by rw [goN, step_done h, goN_done h n]
theorem runFor_eq : ∀ (n : Nat) (m : M), m.runFor n = goN n m
  | 0, _ => rfl
  | n + 1, m => by
    unfold M.runFor
    by_cases h : m.outcome.isSome = true
    · rw [if_pos h, goN_done h]
    · rw [if_neg h, runFor_eq n m.step]; rfl
theorem goN_add : ∀ (a b : Nat) (m : M), goN (a + b) m = goN b (goN a m)
  | 0, b, m => by rw [Nat.zero_add]; rfl
  | a + 1, b, m => by rw [Nat.succ_add]; exact goN_add a b m.step

/-- what a search has come to: found at q (one sign wide), or nothing -/
def Ended (m : M) (r : Option Nat) : Prop := match r with
  | some q => m.outcome = some .matched ∧ m.start = q ∧ m.handed = q + 1
  | none => m.outcome = some .failed
theorem Ended.isSome {m : M} {r : Option Nat} (h : Ended m r) : m.outcome.isSome = true := by
  cases r with
  | none => have : m.outcome = _ := h; rw [this]; rfl
  | some q => rw [h.1]; rfl

/-- the first place from p on, below lim, at which c holds -/
def firstFrom (c : Nat → Bool) : (fuel p : Nat) → Option Nat
  | 0, _ => none
  | n + 1, p => if c p then some p else firstFrom c n (p + 1)

/-- the machine that stands at the start of a try at p -/
def st1 (text : Array Nat) (lim p : Nat) (first : Bool) (seen : Seen) : M :=
  { code := code1, text, lim, start := p, lastStart := lim, pc := 5, pos := p, handed := p, outermost := first, marks := #[],
    frames := [{ wait := .nextStart, pc := 5, pos := p, outermost := first }], weight := 1, seen }
def isBeg (text : Array Nat) (p : Nat) : Bool := p == 0 || text.getD (p - 1) 0 == 10
def cond1 (text : Array Nat) (p : Nat) : Bool := isBeg text p && text.getD p 0 == 46

theorem st1_at (text : Array Nat) (lim p : Nat) (first : Bool) (seen : Seen) : (st1 text lim p first seen).step =
    (if isBeg text p = true then { st1 text lim p first seen with seen := (seen.add 6).add 44, pc := 7 } else { st1 text lim p first seen with seen := (seen.add 6).add 44, answer := some false }) := by
  have e2 : (st1 text lim p first seen).step = (if isBeg text p = true then { st1 text lim p first seen with seen := (seen.add 6).add 44, pc := 7 } else M.say { st1 text lim p first seen with seen := (seen.add 6).add 44 } false) := rfl
  rw [e2]; rfl
/-- a try that has failed, whatever has been seen -/
theorem st1_fail (text : Array Nat) (lim p : Nat) (first : Bool) (seen : Seen) (pc pos : Nat) : M.step { st1 text lim p first seen with seen := seen, answer := some false, pc := pc, pos := pos } =
    (if p < lim then st1 text lim (p + 1) false seen else M.say { st1 text lim p first seen with seen := seen, frames := [], weight := 0 } false) := rfl
theorem st1_lit (text : Array Nat) (lim p : Nat) (first : Bool) (seen : Seen) : M.step { st1 text lim p first seen with seen := seen, pc := 7 } =
    (if p ≥ lim then M.say { st1 text lim p first seen with seen := seen.add 16, pc := 7 } false
     else match (text.getD p 0 == 46) with
      | false => M.say { st1 text lim p first seen with seen := seen.add 16, pc := 7 } false
      | true => { st1 text lim p first seen with seen := seen.add 16, pc := 9, pos := p + 1 }) := by
  have e : M.step { st1 text lim p first seen with seen := seen, pc := 7 } = (if p ≥ lim then M.say { st1 text lim p first seen with seen := seen.add 16, pc := 7 } false
     else match (Except.ok (text.getD p 0 == 46, seen.add 16) : Except String (Bool × Seen)) with
      | .error why => M.stick { st1 text lim p first seen with seen := seen.add 16, pc := 7 } why
      | .ok (false, seen) => M.say { st1 text lim p first seen with seen := seen, pc := 7 } false
      | .ok (true, seen) => { st1 text lim p first seen with seen := seen, pc := 9, pos := p + 1 }) := rfl
  rw [e]
  split
  · rfl
  · cases (text.getD p 0 == 46) <;> rfl
theorem st1_end (text : Array Nat) (lim p : Nat) (first : Bool) (seen : Seen) : (goN 2 (M.say { st1 text lim p first seen with seen := seen, frames := [], weight := 0 } false)).outcome = some .failed := rfl
theorem st1_won (text : Array Nat) (lim p : Nat) (first : Bool) (seen : Seen) : Ended (goN 3 { st1 text lim p first seen with seen := seen, pc := 9, pos := p + 1 }) (some p) := by
  cases first <;> exact ⟨rfl, rfl, rfl⟩
theorem search1 (text : Array Nat) (lim : Nat) : ∀ (k p : Nat) (first : Bool) (seen : Seen), p + k = lim →
    ∃ n, n ≤ 4 * k + 8 ∧ Ended (goN n (st1 text lim p first seen)) (firstFrom (cond1 text) k p)
  | 0, p, first, seen, e => by
    have hp : ¬ p < lim := by omega
    cases hb : isBeg text p with
    | false =>
      refine ⟨1 + 1 + 2, by omega, ?_⟩
      show (goN (1 + 1 + 2) _).outcome = _
      rw [goN_add, goN_add]
      show (goN 2 (M.step (M.step _))).outcome = _
      rw [st1_at, hb, if_neg (by decide)]
      have := st1_fail text lim p first ((seen.add 6).add 44) 5 p
      rw [if_neg hp] at this
      exact this ▸ rfl
    | true =>
      refine ⟨1 + 1 + 1 + 2, by omega, ?_⟩
      show (goN (1 + 1 + 1 + 2) _).outcome = _
      rw [goN_add, goN_add, goN_add]
      show (goN 2 (M.step (M.step (M.step _)))).outcome = _
      rw [st1_at, hb, if_pos rfl]
      have h1 := st1_lit text lim p first ((seen.add 6).add 44)
      rw [if_pos (by omega)] at h1
      have h2 := st1_fail text lim p first (((seen.add 6).add 44).add 16) 7 p
      rw [if_neg hp] at h2
      have h3 : M.step { st1 text lim p first seen with seen := (seen.add 6).add 44, pc := 7 } = { st1 text lim p first (((seen.add 6).add 44).add 16) with answer := some false, pc := 7 } := h1
      rw [h3]
      exact h2 ▸ rfl
  | k + 1, p, first, seen, e => by
    have hp : p < lim := by omega
    cases hb : isBeg text p with
    | false =>
      obtain ⟨n, hn, H⟩ := search1 text lim k (p + 1) false ((seen.add 6).add 44) (by omega)
      refine ⟨1 + 1 + n, by omega, ?_⟩
      rw [goN_add, goN_add]
      show Ended (goN n (M.step (M.step _))) _
      rw [st1_at, hb, if_neg (by decide)]
      have := st1_fail text lim p first ((seen.add 6).add 44) 5 p
      rw [if_pos hp] at this
      have t2 : M.step { st1 text lim p first seen with seen := (seen.add 6).add 44, answer := some false } = st1 text lim (p + 1) false ((seen.add 6).add 44) := this
      rw [t2]
      have hc : cond1 text p = false := by unfold cond1; rw [hb]; rfl
      rw [firstFrom, if_neg (by rw [hc]; decide)]
      exact H
    | true =>
      have h1 := st1_lit text lim p first ((seen.add 6).add 44)
      rw [if_neg (by omega)] at h1
      cases hd : (text.getD p 0 == 46) with
      | false =>
        obtain ⟨n, hn, H⟩ := search1 text lim k (p + 1) false (((seen.add 6).add 44).add 16) (by omega)
        refine ⟨1 + 1 + 1 + n, by omega, ?_⟩
        rw [goN_add, goN_add, goN_add]
        show Ended (goN n (M.step (M.step (M.step _)))) _
        rw [st1_at, hb, if_pos rfl]
        rw [hd] at h1
        have h2 := st1_fail text lim p first (((seen.add 6).add 44).add 16) 7 p
        rw [if_pos hp] at h2
        have h3 : M.step { st1 text lim p first seen with seen := (seen.add 6).add 44, pc := 7 } = { st1 text lim p first (((seen.add 6).add 44).add 16) with answer := some false, pc := 7 } := h1
        rw [h3]
        have h4 : M.step { st1 text lim p first (((seen.add 6).add 44).add 16) with answer := some false, pc := 7 } = st1 text lim (p + 1) false (((seen.add 6).add 44).add 16) := h2
        rw [h4]
        have hc : cond1 text p = false := by unfold cond1; rw [hd, Bool.and_false]
        rw [firstFrom, if_neg (by rw [hc]; decide)]
        exact H
      | true =>
        refine ⟨1 + 1 + 3, by omega, ?_⟩
        rw [goN_add, goN_add]
        show Ended (goN 3 (M.step (M.step _))) _
        rw [st1_at, hb, if_pos rfl]
        rw [hd] at h1
        have h3 : M.step { st1 text lim p first seen with seen := (seen.add 6).add 44, pc := 7 } = { st1 text lim p first (((seen.add 6).add 44).add 16) with pc := 9, pos := p + 1 } := h1
        rw [h3]
        have hc : cond1 text p = true := by unfold cond1; rw [hb, hd]; rfl
        rw [firstFrom, if_pos hc]
        exact st1_won text lim p first (((seen.add 6).add 44).add 16)
/-- the search for a full stop at a line's start -/
theorem find1 (text : Array Nat) (pos : Nat) (hpos : pos ≤ text.size) : ∃ n, n ≤ 4 * (text.size - pos) + 8 ∧
    Ended (goN n (forSearch code1 text 0 pos text.size false)) (firstFrom (cond1 text) (text.size - pos) pos) := by
  by_cases h : pos < text.size
  · have e : forSearch code1 text 0 pos text.size false = st1 text text.size pos true (({} : Seen).add 14) := by
      unfold forSearch
      have hd : header code1 = (1, 5) := rfl
      simp only [hd]
      rw [if_neg (by simp; omega), if_neg (by simp)]
      rfl
    rw [e]
    exact search1 text text.size (text.size - pos) pos true _ (by omega)
  · have hp : pos = text.size := by omega
    subst hp
    refine ⟨1, by omega, ?_⟩
    rw [Nat.sub_self]
    have e : forSearch code1 text 0 text.size text.size false = M.say { st1 text text.size text.size true (({} : Seen).add 14) with lastStart := 0, frames := [], weight := 0 } false := by
      unfold forSearch
      have hd : header code1 = (1, 5) := rfl
      simp only [hd]
      rw [if_pos (by simp)]
      rfl
    rw [e]
    rfl

/- the line ends -/
def cond3 (text : Array Nat) (p : Nat) : Bool := text.getD p 0 == 10
theorem inSet3 (c : Nat) (hc : c ≠ 13) (seen : Seen) : inSet code3 c code3.size 5 true seen = .ok (c == 10, if c == 10 then seen.add 16 else ((seen.add 16).add 16).add 0) := by
  have e : inSet code3 c code3.size 5 true seen = (if (c == 10) = true then .ok (true, seen.add 16) else if (c == 13) = true then .ok (true, (seen.add 16).add 16) else .ok (false, ((seen.add 16).add 16).add 0)) := rfl
  rw [e]
  have h13 : (c == 13) = false := by simpa using hc
  rw [h13]
  cases h : (c == 10) <;> simp
def ad3 (text : Array Nat) (lim p : Nat) (seen : Seen) : M :=
  { code := code3, text, lim, start := p, lastStart := lim, pc := 10, pos := p, handed := p, marks := #[], seen }
theorem admitted3 (m : M) (hm : m.code = code3) (no : ∀ i, i < m.lim → m.text.getD i 0 ≠ 13) : ∀ (k p : Nat) (seen : Seen), p + k = m.lim + 1 →
    ∃ seen', M.admitted m k p seen = .ok (firstFrom (cond3 m.text) (k - 1) p, seen')
  | 0, p, seen, e => ⟨seen, rfl⟩
  | 1, p, seen, e => ⟨seen, by
      have : p ≥ m.lim := by omega
      unfold M.admitted
      rw [if_pos this]; rfl⟩
  | k + 2, p, seen, e => by
    have hp : ¬ p ≥ m.lim := by omega
    unfold M.admitted
    rw [if_neg hp, hm, inSet3 _ (no p (by omega))]
    cases hc : (m.text.getD p 0 == 10) with
    | true =>
      have : firstFrom (cond3 m.text) (k + 2 - 1) p = some p := by
        show firstFrom _ (k + 1) p = _
        rw [firstFrom, if_pos (show cond3 m.text p = true from hc)]
      rw [this]
      exact ⟨_, rfl⟩
    | false =>
      obtain ⟨s', h'⟩ := admitted3 m hm no (k + 1) (p + 1) (((seen.add 16).add 16).add 0) (by omega)
      refine ⟨s', ?_⟩
      have : firstFrom (cond3 m.text) (k + 2 - 1) p = firstFrom (cond3 m.text) (k + 1 - 1) (p + 1) := by
        show firstFrom _ (k + 1) p = firstFrom _ k (p + 1)
        rw [firstFrom, if_neg (by show ¬ (m.text.getD p 0 == 10) = true; rw [hc]; decide)]
      rw [this]
      exact h'
def tr3 (text : Array Nat) (lim p : Nat) (seen : Seen) : M :=
  { code := code3, text, lim, start := p, lastStart := lim, pc := 10, pos := p, handed := p, outermost := true, marks := #[],
    frames := [{ wait := .nextStart, pc := 10, pos := p, outermost := true }], weight := 1, seen }
theorem tr3_a (text : Array Nat) (lim p : Nat) (seen : Seen) (hp : p < lim) (hc : text.getD p 0 = 10) : ∃ seen', goN 3 (tr3 text lim p seen) =
    { tr3 text lim p seen with seen := seen', pc := 19, frames := [{ wait := .nextBranch, pc := 18, pos := p, outermost := true }, { wait := .nextStart, pc := 10, pos := p, outermost := true }], weight := 2 } := by
  have e : goN 3 (tr3 text lim p seen) = M.step (M.step { tr3 text lim p seen with seen := seen.add 7, pc := 12, frames := [{ wait := .nextBranch, pc := 11, pos := p, outermost := true }, { wait := .nextStart, pc := 10, pos := p, outermost := true }], weight := 2 }) := rfl
  have e2 : M.step { tr3 text lim p seen with seen := seen.add 7, pc := 12, frames := [{ wait := .nextBranch, pc := 11, pos := p, outermost := true }, { wait := .nextStart, pc := 10, pos := p, outermost := true }], weight := 2 } =
     (if p ≥ lim then M.say { tr3 text lim p seen with seen := (seen.add 7).add 16, pc := 12, frames := [{ wait := .nextBranch, pc := 11, pos := p, outermost := true }, { wait := .nextStart, pc := 10, pos := p, outermost := true }], weight := 2 } false
     else match (Except.ok (text.getD p 0 == 13, (seen.add 7).add 16) : Except String (Bool × Seen)) with
      | .error why => M.stick { tr3 text lim p seen with seen := (seen.add 7).add 16, pc := 12, frames := [{ wait := .nextBranch, pc := 11, pos := p, outermost := true }, { wait := .nextStart, pc := 10, pos := p, outermost := true }], weight := 2 } why
      | .ok (false, sn) => M.say { tr3 text lim p seen with seen := sn, pc := 12, frames := [{ wait := .nextBranch, pc := 11, pos := p, outermost := true }, { wait := .nextStart, pc := 10, pos := p, outermost := true }], weight := 2 } false
      | .ok (true, sn) => { tr3 text lim p seen with seen := sn, pc := 14, pos := p + 1, frames := [{ wait := .nextBranch, pc := 11, pos := p, outermost := true }, { wait := .nextStart, pc := 10, pos := p, outermost := true }], weight := 2 }) := rfl
  rw [e, e2, if_neg (by omega), hc]
  exact ⟨_, rfl⟩
theorem tr3_b (text : Array Nat) (lim p : Nat) (seen : Seen) (hp : p < lim) (hc : text.getD p 0 = 10) : Ended (goN 6
    { tr3 text lim p seen with seen := seen, pc := 19, frames := [{ wait := .nextBranch, pc := 18, pos := p, outermost := true }, { wait := .nextStart, pc := 10, pos := p, outermost := true }], weight := 2 }) (some p) := by
  have e2 : M.step { tr3 text lim p seen with seen := seen, pc := 19, frames := [{ wait := .nextBranch, pc := 18, pos := p, outermost := true }, { wait := .nextStart, pc := 10, pos := p, outermost := true }], weight := 2 } =
     (if p ≥ lim then M.say { tr3 text lim p seen with seen := seen.add 16, pc := 19, frames := [{ wait := .nextBranch, pc := 18, pos := p, outermost := true }, { wait := .nextStart, pc := 10, pos := p, outermost := true }], weight := 2 } false
     else match (Except.ok (text.getD p 0 == 10, seen.add 16) : Except String (Bool × Seen)) with
      | .error why => M.stick { tr3 text lim p seen with seen := seen.add 16, pc := 19, frames := [{ wait := .nextBranch, pc := 18, pos := p, outermost := true }, { wait := .nextStart, pc := 10, pos := p, outermost := true }], weight := 2 } why
      | .ok (false, sn) => M.say { tr3 text lim p seen with seen := sn, pc := 19, frames := [{ wait := .nextBranch, pc := 18, pos := p, outermost := true }, { wait := .nextStart, pc := 10, pos := p, outermost := true }], weight := 2 } false
      | .ok (true, sn) => { tr3 text lim p seen with seen := sn, pc := 21, pos := p + 1, frames := [{ wait := .nextBranch, pc := 18, pos := p, outermost := true }, { wait := .nextStart, pc := 10, pos := p, outermost := true }], weight := 2 }) := rfl
  have e3 : M.step { tr3 text lim p seen with seen := seen.add 16, pc := 21, pos := p + 1, frames := [{ wait := .nextBranch, pc := 18, pos := p, outermost := true }, { wait := .nextStart, pc := 10, pos := p, outermost := true }], weight := 2 } =
     { tr3 text lim p seen with seen := (seen.add 16).add 15, pc := 35, pos := p + 1, frames := [{ wait := .nextBranch, pc := 18, pos := p, outermost := true }, { wait := .nextStart, pc := 10, pos := p, outermost := true }], weight := 2 } := rfl
  have e4 : M.step { tr3 text lim p seen with seen := (seen.add 16).add 15, pc := 35, pos := p + 1, frames := [{ wait := .nextBranch, pc := 18, pos := p, outermost := true }, { wait := .nextStart, pc := 10, pos := p, outermost := true }], weight := 2 } =
     { tr3 text lim p seen with seen := ((seen.add 16).add 15).add 1, pc := 35, pos := p + 1, handed := p + 1, answer := some true, frames := [{ wait := .nextBranch, pc := 18, pos := p, outermost := true }, { wait := .nextStart, pc := 10, pos := p, outermost := true }], weight := 2 } := rfl
  show Ended (M.step (M.step (M.step (M.step (M.step (M.step _)))))) _
  rw [e2, if_neg (by omega), hc]
  show Ended (M.step (M.step (M.step (M.step (M.step { tr3 text lim p seen with seen := seen.add 16, pc := 21, pos := p + 1, frames := [{ wait := .nextBranch, pc := 18, pos := p, outermost := true }, { wait := .nextStart, pc := 10, pos := p, outermost := true }], weight := 2 }))))) _
  rw [e3, e4]
  exact ⟨rfl, rfl, rfl⟩
theorem find3 (text : Array Nat) (pos : Nat) (hpos : pos ≤ text.size) (no : ∀ i, i < text.size → text.getD i 0 ≠ 13) : ∃ n, n ≤ 9 ∧
    Ended (goN n (forSearch code3 text 0 pos text.size false)) (firstFrom (cond3 text) (text.size - pos) pos) := by
  by_cases h : pos < text.size
  · let m0 : M := { code := code3, text, lim := text.size, start := pos, lastStart := text.size, pc := 10, pos, handed := pos, marks := #[], seen := ({} : Seen).add 14 }
    have e : forSearch code3 text 0 pos text.size false = M.attemptFrom m0 pos true := by
      unfold forSearch
      have hd : header code3 = (1, 10) := rfl
      simp only [hd]
      rw [if_neg (by simp; omega), if_neg (by simp)]
      rfl
    obtain ⟨s', ha⟩ := admitted3 m0 rfl no (text.size + 1 - pos) pos (({} : Seen).add 14) (by show pos + (text.size + 1 - pos) = text.size + 1; omega)
    have e2 : M.attemptFrom m0 pos true = (match M.admitted m0 (m0.lim + 1 - pos) pos m0.seen with
      | .ok (some s, seen) => M.attemptAt { m0 with mustAdvance := false, seen } s true
      | .ok (none, seen) => M.say { m0 with seen } false
      | .error why => m0.stick why) := rfl
    have e3 : M.admitted m0 (m0.lim + 1 - pos) pos m0.seen = .ok (firstFrom (cond3 text) (text.size - pos) pos, s') := by
      have : text.size + 1 - pos - 1 = text.size - pos := by omega
      rw [this] at ha
      exact ha
    rw [e, e2, e3]
    cases hf : firstFrom (cond3 text) (text.size - pos) pos with
    | none => exact ⟨1, by omega, rfl⟩
    | some q =>
      have hq : q < text.size ∧ text.getD q 0 = 10 := by
        have gen : ∀ k p, p + k ≤ text.size → firstFrom (cond3 text) k p = some q → q < text.size ∧ text.getD q 0 = 10 := by
          intro k
          induction k with
          | zero => intro p _ h; cases h
          | succ k ih =>
            intro p hk h
            rw [firstFrom] at h
            split at h
            · rename_i hc
              cases h
              exact ⟨by omega, by simpa [cond3] using hc⟩
            · exact ih (p + 1) (by omega) h
        exact gen _ _ (by omega) hf
      obtain ⟨s2, h2⟩ := tr3_a text text.size q s' hq.1 hq.2
      refine ⟨3 + 6, by omega, ?_⟩
      have e4 : M.attemptAt { m0 with mustAdvance := false, seen := s' } q true = tr3 text text.size q s' := rfl
      show Ended (goN (3 + 6) (M.attemptAt { m0 with mustAdvance := false, seen := s' } q true)) _
      rw [e4, goN_add, h2]
      exact tr3_b text text.size q s2 hq.1 hq.2
  · have hp : pos = text.size := by omega
    subst hp
    refine ⟨1, by omega, ?_⟩
    rw [Nat.sub_self]
    have e : forSearch code3 text 0 text.size text.size false = M.say { code := code3, text, lim := text.size, start := text.size, pc := 10, pos := text.size, handed := text.size, marks := #[], seen := ({} : Seen).add 14 } false := by
      unfold forSearch
      have hd : header code3 = (1, 10) := rfl
      simp only [hd]
      rw [if_pos (by simp)]
      rfl
    rw [e]
    rfl
end Mine
end
section
open PySem PySem.Builtin PySem.Builtin.Re PyProof.Rows PySem.W
namespace Mine
section
variable {prog : Program} {w : World} {A : Around} {E : Value → Shared → Prop} {s : Shared} {M : Model}
theorem both_done {m : Sre.M} {a b : Nat} (ha : (goN a m).outcome.isSome = true) (hb : (goN b m).outcome.isSome = true) : goN a m = goN b m := by
  rcases Nat.le_total a b with h | h
  · obtain ⟨c, rfl⟩ := Nat.exists_eq_add_of_le h
    rw [goN_add, goN_done ha]
  · obtain ⟨c, rfl⟩ := Nat.exists_eq_add_of_le h
    rw [goN_add, goN_done hb]
theorem reDrive_rule {Q : Sre.M → Shared → Prop} : ∀ (turns n : Nat) (m : Sre.M), 1 ≤ turns → n ≤ 4 * turns → (goN n m).outcome.isSome = true → Q (goN n m) s → wpAny M A (reDrive turns m) Q E s
  | 0, n, m, h, _, _, _ => absurd h (by omega)
  | k + 1, n, m, _, hn, hd, hq => by
    unfold reDrive
    have e : m.runFor reTurnSteps = goN 4 m := runFor_eq 4 m
    simp only [e]
    by_cases h4 : (goN 4 m).outcome.isSome = true
    · rw [if_pos h4]
      rw [both_done hd h4] at hq
      exact wpAny_pure hq
    · rw [if_neg h4]
      have hn4 : 4 < n := by
        apply Nat.lt_of_not_le
        intro hle
        obtain ⟨c, hc⟩ := Nat.exists_eq_add_of_le hle
        apply h4
        rw [hc, goN_add, goN_done hd]; exact hd
      have e2 : goN n m = goN (n - 4) (goN 4 m) := by rw [← goN_add]; congr 1; omega
      rw [e2] at hd hq
      exact wpAny_bind (wpAny_rule (reDrive_rule k (n - 4) (goN 4 m) (by omega) (by omega) hd hq))
theorem reRun_rule {Q : Option Sre.M → Shared → Prop} {m : Sre.M} {n : Nat} {r : Option Nat} (hn : n ≤ 2 ^ 60) (he : Ended (goN n m) r)
    (h0 : r = none → Q none s) (h : ∀ q, r = some q → ∀ m', m'.start = q → m'.handed = q + 1 → Q (some m') s) : wpAny M A (reRunToEnd m) Q E s := by
  unfold reRunToEnd
  refine wpAny_bind (reDrive_rule (2 ^ 64) n m (by decide) (by omega) he.isSome ?_)
  refine wpAny_bind (wpAny_forIn_list _ (fun _ _ s' => s' = s) _ ?_ ?_ _ _ rfl)
  · rintro i rest b s' rfl
    split
    · exact wpAny_bind (wpAny_rule (wpAny_pure rfl))
    · exact wpAny_pure rfl
  · rintro b s' rfl
    cases r with
    | none =>
      have h1 : (goN n m).outcome = some .failed := he
      rw [h1]
      exact wpAny_pure (h0 rfl)
    | some q =>
      obtain ⟨h1, h2, h3⟩ := he
      rw [h1]
      exact wpAny_pure (h q rfl _ h2 h3)
end

/- the pattern's object -/
def patObj (txt : Value) (flags : Int) (tf : Tok) (q : Addr) (kind : Nat) : Obj :=
  { cls := .type "re.Pattern", data := .fields #[txt, .int flags tf, .int 0 0, .none, .none, .ref q, .int kind 0] }
structure PatAt (h : Heap) (p : Addr) (code : Array Nat) (kind : Nat) : Prop where
  at' : ∃ txt flags tf q n, h.get? p = some (patObj txt flags tf q kind) ∧ h.get? q = some { cls := .type "tuple", data := .seq (code.map fun (c : Nat) => Value.int c 0) n }
theorem PatAt.keep {h h' : Heap} {p : Addr} {code : Array Nat} {kind : Nat} (P : PatAt h p code kind) (k : ∀ b o, h.get? b = some o → h'.get? b = some o) : PatAt h' p code kind := by
  obtain ⟨txt, flags, tf, q, n, a, b⟩ := P.at'
  exact ⟨txt, flags, tf, q, n, k _ _ a, k _ _ b⟩
theorem raw_items (code : Array Nat) : ((code.map fun (c : Nat) => Value.int c 0).map reRawOf).map (·.toNat) = code := by
  apply Array.ext
  · simp
  · intro i h1 h2
    simp [reRawOf]
theorem slot_sub : Slot "re.Pattern" "sub" "re.Pattern.sub" :=
  .of (owner := "re.Pattern") (n := "sub") (by rw [typeLookup_type, builtinLookup_eq_fast]; kernel_rfl) (by decide +kernel) (by decide +kernel) (by decide +kernel)
    (by first | exact .inl (by decide +kernel) | exact .inr (by decide +kernel)) (by rw [isSubtype_type]; kernel_rfl)
theorem type_sub : typeOf (.builtin "re.Pattern.sub") = pure (.type "method_descriptor") := by show builtinType _ = _; rw [builtinType_eq_fast]; kernel_rfl
theorem entry_sub : entryFor table "re.Pattern.sub" = some Builtin.«re.Pattern.sub» := entryFor_of_tree (by kernel_rfl)
theorem entry_loop : entryFor table "re.Pattern.sub.loop" = some Builtin.«re.Pattern.sub.loop» := entryFor_of_tree (by kernel_rfl)
theorem args_sub_3 (a b c : Value) : argsOk "re.Pattern.sub" ⟨[a, b, c], []⟩ := by
  unfold argsOk
  first | kernel_rfl | rfl
theorem plain_loop : plainId "re.Pattern.sub.loop" = true := by decide +kernel
theorem attrs_pat : PlainAttrs "re.Pattern" := ⟨⟨"object.__getattribute__", by rw [typeLookup_type, builtinLookup_eq_fast]; kernel_rfl, by decide +kernel⟩, by rw [typeLookup_type, builtinLookup_eq_fast]; kernel_rfl⟩
section
variable {prog : Program} {w : World} {A : Around} {E : Value → Shared → Prop} {s : Shared} {p : Addr} {code : Array Nat} {kind : Nat}
theorem PatAt.typeIs (P : PatAt s.heap p code kind) : s.TypeIs (.ref p) "re.Pattern" := by
  obtain ⟨txt, flags, tf, q, n, a, b⟩ := P.at'
  exact ⟨_, a, rfl⟩
theorem gm_sub {M : Model} {pl : Sem Bool} {Q : Value × List Value → Shared → Prop} (P : PatAt s.heap p code kind) (h : Q (.builtin "re.Pattern.sub", [.ref p]) s) : wpAny M A (getMethod (.ref p) "sub" pl) Q E s :=
  getMethod_builtin P.typeIs attrs_pat slot_sub type_sub (fun a e => by cases e; obtain ⟨txt, flags, tf, q, n, a, b⟩ := P.at'; exact ⟨_, a, rfl⟩) h
def tgtS (p : Addr) (x : PySem.Str) (t : Tok) (code : Array Nat) : ReTarget := { pattern := .ref p, string := .str x t, code, text := x.cps, kind := 0, groups := 0, pos := 0, lim := x.cps.size }
def tgtB (p : Addr) (x : Array UInt8) (t : Tok) (code : Array Nat) : ReTarget := { pattern := .ref p, string := .bytes x t, code, text := x.map (·.toNat), kind := 1, groups := 0, pos := 0, lim := (x.map (·.toNat)).size }
theorem wholeS {M : Model} {x : PySem.Str} {t : Tok} {Q : ReTarget → Shared → Prop} (P : PatAt s.heap p code 0) (h : Q (tgtS p x t code) s) : wpAny M A (reWholeTarget (.ref p) (.str x t)) Q E s := by
  obtain ⟨txt, flags, tf, q, n, a, b⟩ := P.at'
  unfold reWholeTarget
  refine wpAny_bind ?_
  unfold fieldsOf
  refine wpAny_bind (wpAny_load a ?_)
  refine wpAny_pure ?_
  refine wpAny_bind (wpAny_pure ?_)
  dsimp only
  refine bm_if_false rfl ?_
  refine bm_if_false rfl ?_
  refine wpAny_bind (bm_if_false rfl (wpAny_pure ?_))
  refine wpAny_bind ?_
  unfold reRawItems
  refine wpAny_bind ?_
  show wpAny _ _ (seqItems? (.ref q)) _ _ _
  unfold seqItems?
  refine wpAny_bind (wpAny_load b (wpAny_pure (wpAny_pure (wpAny_pure ?_))))
  show Q { pattern := .ref p, string := .str x t, code := ((code.map fun (c : Nat) => Value.int c 0).map reRawOf).map (·.toNat), text := x.cps, kind := 0, groups := 0, pos := 0, lim := x.cps.size } s
  rw [raw_items]
  exact h
theorem wholeB {M : Model} {x : Array UInt8} {t : Tok} {Q : ReTarget → Shared → Prop} (P : PatAt s.heap p code 1) (h : Q (tgtB p x t code) s) : wpAny M A (reWholeTarget (.ref p) (.bytes x t)) Q E s := by
  obtain ⟨txt, flags, tf, q, n, a, b⟩ := P.at'
  unfold reWholeTarget
  refine wpAny_bind ?_
  unfold fieldsOf
  refine wpAny_bind (wpAny_load a ?_)
  refine wpAny_pure ?_
  refine wpAny_bind ?_
  unfold reTextOf
  refine wpAny_bind (wpAny_pure ?_)
  refine wpAny_bind (wpAny_of_eq KBy.quiet_eq ?_)
  refine wpAny_pure ?_
  dsimp only
  refine bm_if_false rfl ?_
  refine bm_if_false rfl ?_
  refine wpAny_bind ?_
  unfold reNoCollectionInside
  refine bm_if_true rfl ?_
  refine wpAny_bind (wpAny_of_eq KBy.isInstance_eq (wpAny_pure ?_))
  refine wpAny_bind ?_
  unfold reRawItems
  refine wpAny_bind ?_
  show wpAny _ _ (seqItems? (.ref q)) _ _ _
  unfold seqItems?
  refine wpAny_bind (wpAny_load b (wpAny_pure (wpAny_pure (wpAny_pure ?_))))
  show Q { pattern := .ref p, string := .bytes x t, code := ((code.map fun (c : Nat) => Value.int c 0).map reRawOf).map (·.toNat), text := x.map (·.toNat), kind := 1, groups := 0, pos := 0, lim := (x.map (·.toNat)).size } s
  rw [raw_items]
  exact h
end
end Mine
end
section
open PySem PySem.Builtin PySem.Builtin.Re PyProof.Rows PySem.W
namespace Mine
/-- a text with each place where c holds replaced by r -/
def subF (c : Nat → Bool) (r : List Nat) (x : Array Nat) : (k p : Nat) → List Nat
  | 0, _ => []
  | k + 1, p => (if c p then r else [x.getD p 0]) ++ subF c r x k (p + 1)
theorem extract_one {x : Array Nat} {p : Nat} (hp : p < x.size) : x.extract p (p + 1) = #[x[p]] := by
  apply Array.ext'
  simp only [Array.toList_extract]
  rw [List.extract_eq_drop_take', List.drop_eq_getElem_cons (by simp; omega)]
  simp
theorem firstFrom_none {c : Nat → Bool} {r : List Nat} {x : Array Nat} : ∀ {k p : Nat}, p + k ≤ x.size → firstFrom c k p = none → subF c r x k p = (x.extract p (p + k)).toList
  | 0, p, _, _ => by simp [subF]
  | k + 1, p, hk, h => by
    rw [firstFrom] at h
    split at h
    · cases h
    · rename_i hc
      rw [subF, if_neg hc, firstFrom_none (by omega) h]
      have hp : p < x.size := by omega
      have e : x.extract p (p + (k + 1)) = x.extract p (p + 1) ++ x.extract (p + 1) (p + 1 + k) := by
        rw [Array.extract_append_extract]
        congr 1 <;> omega
      have e1 : x.extract p (p + 1) = #[x[p]] := extract_one hp
      rw [e, e1]
      simp [Array.getD, hp]
theorem firstFrom_some {c : Nat → Bool} {r : List Nat} {x : Array Nat} : ∀ {k p q : Nat}, p + k ≤ x.size → firstFrom c k p = some q → p ≤ q ∧ q < p + k ∧ subF c r x k p = (x.extract p q).toList ++ r ++ subF c r x (k - (q + 1 - p)) (q + 1)
  | 0, p, q, _, h => by cases h
  | k + 1, p, q, hk, h => by
    rw [firstFrom] at h
    split at h
    · rename_i hc
      cases h
      refine ⟨Nat.le_refl _, by omega, ?_⟩
      rw [subF, if_pos hc]
      have : k + 1 - (p + 1 - p) = k := by omega
      rw [this]; simp
    · rename_i hc
      obtain ⟨h1, h2, h3⟩ := firstFrom_some (r := r) (x := x) (show p + 1 + k ≤ x.size by omega) h
      refine ⟨by omega, by omega, ?_⟩
      rw [subF, if_neg hc, h3]
      have hp : p < x.size := by omega
      have e : x.extract p q = x.extract p (p + 1) ++ x.extract (p + 1) q := by
        rw [Array.extract_append_extract]
        congr 1 <;> omega
      have e1 : x.extract p (p + 1) = #[x[p]] := extract_one hp
      have e2 : k + 1 - (q + 1 - p) = k - (q + 1 - (p + 1)) := by omega
      rw [e, e1, e2]
      simp [Array.getD, hp]
theorem glued_empty (g : PySem.Str) (hg : g.cps = #[]) (ts : List PySem.Str) : (Txt.join g ts).cps.toList = ts.flatMap fun t => t.cps.toList := by
  unfold Txt.join Builtin.Str.glued
  cases ts with
  | nil => simp [PySem.Str.empty]
  | cons a r =>
    simp only [List.drop_succ_cons, List.drop_zero, List.headD_cons, hg, Array.append_empty]
    have : ∀ (l : List PySem.Str) (b : Array Nat), (l.foldl (fun acc p => acc ++ p.cps) b).toList = b.toList ++ l.flatMap fun t => t.cps.toList := by
      intro l
      induction l with
      | nil => intro b; simp
      | cons p l ih => intro b; rw [List.foldl_cons, ih]; simp
    rw [this]; simp
theorem joinOk_empty (g : PySem.Str) (hg : g.cps = #[]) (ts : List PySem.Str) (h : (ts.flatMap fun t => t.cps.toList).length ≤ 16000000) : JoinOk g ts = true := by
  unfold JoinOk Builtin.Str.tooLong
  have e : ∀ (l : List PySem.Str) (b : Nat), l.foldl (fun acc p => acc + p.length + g.length) b = b + (l.flatMap fun t => t.cps.toList).length := by
    intro l
    induction l with
    | nil => intro b; simp
    | cons p l ih =>
      intro b
      rw [List.foldl_cons, ih]
      have : g.length = 0 := by simp [PySem.Str.length, hg]
      simp [PySem.Str.length, hg]; omega
  rw [List.foldl_toArray, e]
  have : sizeLine = 16777216 := rfl
  simp only [Bool.not_eq_true', decide_eq_false_iff_not]
  omega
theorem PatAt.keep' {h h' : Heap} {p L : Addr} {code : Array Nat} {kind : Nat} (P : PatAt h p code kind) (hp : p ≠ L) (k : ∀ b o, b ≠ L → h.get? b = some o → h'.get? b = some o) (hlist : ∀ xs n, h.get? L ≠ some { cls := .type "tuple", data := .seq xs n }) : PatAt h' p code kind := by
  obtain ⟨txt, flags, tf, q, n, a, b⟩ := P.at'
  exact ⟨txt, flags, tf, q, n, k _ _ hp a, k _ _ (fun e => hlist _ _ (e ▸ b)) b⟩
section
variable {prog : Program} {w : World} {A : Around} {s : Shared} {p : Addr} {code : Array Nat}
def texts (l : List (PySem.Str × Tok)) : List Nat := (l.map (·.1)).flatMap fun t => t.cps.toList
theorem texts_push (l : List (PySem.Str × Tok)) (x : PySem.Str) (t : Tok) : texts (l ++ [(x, t)]) = texts l ++ x.cps.toList := by simp [texts]
theorem strs_push (l : List (PySem.Str × Tok)) (x : PySem.Str) (t : Tok) : (strValues l).toArray.push (.str x t) = (strValues (l ++ [(x, t)])).toArray := by simp [strValues]
def lst (xs : Array Value) (n : Nat) : Obj := { cls := .type "list", data := .seq xs n }
theorem lst_push (xs : Array Value) (n : Nat) (v : Value) : Obj.mapSeq (·.push v) (lst xs n) = lst (xs.push v) (n + 1) := by
  unfold Obj.mapSeq lst
  simp
/-- a push onto a list: the heap behind it -/
theorem push_wp {M : Model} {E : Value → Shared → Prop} {Q : Unit → Shared → Prop} {L : Addr} {xs : Array Value} {n : Nat} {v : Value} (ho : s.heap.get? L = some (lst xs n)) (hz : xs.size < 16000000)
    (h : ∀ h', h'.get? L = some (lst (xs.push v) (n + 1)) → (∀ b o, b ≠ L → s.heap.get? b = some o → h'.get? b = some o) → Q () { s with heap := h' }) : wpAny M A (updateSeq L (·.push v)) Q E s := by
  have hsl : sizeLine = 16777216 := rfl
  refine wpAny_updateSeq ho rfl ?_ (by omega) (by simp only [Array.size_push]; omega)
  refine h _ ?_ fun b o hb e => ?_
  · have := Heap.get?_update_self (Obj.mapSeq (·.push v)) ho (by rw [lst_push]; rfl)
    rw [this, lst_push]
  · exact (Heap.SameBut.update (h := s.heap) (a := L) (f := Obj.mapSeq (·.push v))).2 b hb |>.trans e

def Finds (code text : Array Nat) (c : Nat → Bool) : Prop := ∀ pos, pos ≤ text.size → ∃ n, n ≤ 2 ^ 60 ∧ Ended (goN n (Sre.forSearch code text 0 pos text.size false)) (firstFrom c (text.size - pos) pos)
def loopArgs (p : Addr) (x r : Value) (n done : Nat) (L : Addr) : Args := ⟨[.ref p, x, r, rawInt 0, rawInt 0, rawInt n, rawInt done, rawInt done, .bool false, .ref L, .bool false], []⟩
theorem wp_pos {α : Type} {M : Model} {E : Value → Shared → Prop} {c : Prop} [Decidable c] {a b : Sem α} {Q : α → Shared → Prop} (hc : c) (h : wpAny M A a Q E s) : wpAny M A (if c then a else b) Q E s := by rw [if_pos hc]; exact h
theorem wp_neg {α : Type} {M : Model} {E : Value → Shared → Prop} {c : Prop} [Decidable c] {a b : Sem α} {Q : α → Shared → Prop} (hc : ¬ c) (h : wpAny M A b Q E s) : wpAny M A (if c then a else b) Q E s := by rw [if_neg hc]; exact h
theorem lst_not {h : Heap} {L : Addr} {xs : Array Value} {n : Nat} (ho : h.get? L = some (lst xs n)) (ys : Array Value) (m : Nat) : h.get? L ≠ some { cls := .type "tuple", data := .seq ys m } := by
  rw [ho]
  intro e
  have := congrArg (fun o => o.map Obj.cls) e
  simp [lst] at this
theorem lst_isList {h : Heap} {L : Addr} {xs : Array Value} {n : Nat} (ho : h.get? L = some (lst xs n)) : h.IsList L xs := ⟨_, ho, rfl, n, rfl⟩
theorem subS_loop {R : Result → Shared → Prop} {x r : PySem.Str} {t tr : Tok} {L : Addr} {c : Nat → Bool} (hf : Finds code x.cps c) (hr : r.cps.size ≤ 2) (hx : x.cps.size ≤ 1000000) (hpL : p ≠ L) :
    ∀ (k done n ep : Nat) (l : List (PySem.Str × Tok)) (s : Shared), done + k = x.cps.size → PatAt s.heap p code 0 → s.heap.get? L = some (lst (strValues l).toArray ep) → l.length ≤ 2 * done → (texts l).length ≤ 2 * done →
      (∀ h' t' k', (∀ b o, b ≠ L → s.heap.get? b = some o → h'.get? b = some o) → R (.ok (.ret (.str ⟨(texts l ++ subF c r.cps.toList x.cps k done).toArray⟩ t'))) { s with heap := h', toks := k' }) →
      codeAny (model prog w) A (.builtin "re.Pattern.sub.loop" (loopArgs p (.str x t) (.str r tr) n done L)) R s := by
  intro k
  induction k using Nat.strongRecOn with
  | _ k ih =>
  intro done n ep l s hk P ho hl ht hR
  have hsl : sizeLine = 16777216 := rfl
  have hsz : ∀ a b, (⟨x.cps.extract a b⟩ : PySem.Str).length ≤ sizeLine := fun a b => by
    show (x.cps.extract a b).size ≤ _
    rw [Array.size_extract]; omega
  have hvs : (strValues l).toArray.size = l.length := by simp [strValues]
  have h00 : (⟨x.cps.extract 0 0⟩ : PySem.Str).cps = #[] := by simp
  refine codeAny_builtin entry_loop ?_
  rw [Around.under_plainId plain_loop _]
  unfold loopArgs
  unfold Builtin.«re.Pattern.sub.loop»
  dsimp only
  refine wpAny_bind (wholeS P ?_)
  dsimp only
  refine bm_if_true rfl ?_
  refine wpAny_bind (wpAny_of_eq (a := ()) rfl ?_)
  refine wpAny_bind (bm_if_false rfl ?_)
  unfold reNextFound
  obtain ⟨N, hN, he⟩ := hf done (by omega)
  have hkk : x.cps.size - done = k := by omega
  rw [hkk] at he
  refine reRun_rule hN he (fun hff => ?_) (fun q hff m' hst hhd => ?_)
  · dsimp only
    have hsub := firstFrom_none (r := r.cps.toList) (x := x.cps) (by omega) hff
    by_cases hlt : done < x.cps.size
    · refine wp_pos hlt ?_
      refine wpAny_bind (bm_if_true rfl (wpAny_mkStr ?_ (hsz _ _)))
      refine wpAny_bind (push_wp (s := { s with toks := s.toks + 1 }) (xs := (strValues l).toArray) (n := ep) ho (by omega) fun h1 hL1 hk1 => ?_)
      refine wpAny_bind (bm_if_true rfl (wpAny_mkStr ?_ (hsz _ _)))
      rw [strs_push] at hL1
      refine wpAny_bind ?_
      unfold seqItems?
      refine wpAny_bind (wpAny_load hL1 (wpAny_pure ?_))
      refine bm_if_false (by simp [strValues]) ?_
      refine wpAny_bind ?_
      refine SC.join (l := l ++ [((⟨x.cps.extract done x.cps.size⟩ : PySem.Str), s.toks)]) (texts := (l ++ [((⟨x.cps.extract done x.cps.size⟩ : PySem.Str), s.toks)]).map Prod.fst) (lst_isList hL1) rfl (joinOk_empty _ h00 _ ?_) fun t' k' => ?_
      · have := texts_push l ⟨x.cps.extract done x.cps.size⟩ s.toks
        have e : (((l ++ [((⟨x.cps.extract done x.cps.size⟩ : PySem.Str), s.toks)]).map Prod.fst).flatMap fun t => t.cps.toList) = texts l ++ (x.cps.extract done x.cps.size).toList := this
        show (((l ++ [((⟨x.cps.extract done x.cps.size⟩ : PySem.Str), s.toks)]).map Prod.fst).flatMap fun t => t.cps.toList).length ≤ _
        rw [e]
        simp only [List.length_append, Array.length_toList, Array.size_extract]
        omega
      · refine bm_if_false rfl (wpAny_pure ?_)
        have e2 := glued_empty ⟨x.cps.extract 0 0⟩ h00 ((l ++ [((⟨x.cps.extract done x.cps.size⟩ : PySem.Str), s.toks)]).map Prod.fst)
        have e3 := texts_push l ⟨x.cps.extract done x.cps.size⟩ s.toks
        have e4 : done + k = x.cps.size := hk
        rw [e4] at hsub
        have e5 : (Txt.join ⟨x.cps.extract 0 0⟩ ((l ++ [((⟨x.cps.extract done x.cps.size⟩ : PySem.Str), s.toks)]).map Prod.fst)) = ⟨(texts l ++ subF c r.cps.toList x.cps k done).toArray⟩ := by
          have : ∀ (a : PySem.Str) (b : List Nat), a.cps.toList = b → a = ⟨b.toArray⟩ := fun a b h => by
            cases a; rename_i cps; subst h; simp
          apply this
          rw [e2, hsub]; exact e3
        have := hR h1 t' k' (fun b o hb e => hk1 b o hb e)
        rw [← e5] at this
        exact this
    · refine wp_neg hlt ?_
      have hk0 : k = 0 := by omega
      subst hk0
      refine wpAny_bind (bm_if_true rfl (wpAny_mkStr ?_ (hsz _ _)))
      refine wpAny_bind ?_
      unfold seqItems?
      refine wpAny_bind (wpAny_load ho (wpAny_pure ?_))
      cases l with
      | nil =>
        refine bm_if_true rfl ?_
        refine wpAny_bind (wpAny_pure ?_)
        refine bm_if_false rfl (wpAny_pure ?_)
        have := hR s.heap s.toks (s.toks + 1) (fun b o _ e => e)
        have e5 : (⟨(texts [] ++ subF c r.cps.toList x.cps 0 done).toArray⟩ : PySem.Str) = ⟨x.cps.extract 0 0⟩ := by simp [texts, subF]
        rw [e5] at this
        exact this
      | cons a l' =>
        refine bm_if_false rfl ?_
        refine wpAny_bind ?_
        refine SC.join (texts := (a :: l').map (·.1)) (lst_isList ho) rfl (joinOk_empty _ h00 _ ?_) fun t' k' => ?_
        · show (texts (a :: l')).length ≤ _
          omega
        · refine bm_if_false rfl (wpAny_pure ?_)
          have e2 := glued_empty ⟨x.cps.extract 0 0⟩ h00 ((a :: l').map (·.1))
          have e5 : (Txt.join ⟨x.cps.extract 0 0⟩ ((a :: l').map (·.1))) = ⟨(texts (a :: l') ++ subF c r.cps.toList x.cps 0 done).toArray⟩ := by
            have : ∀ (a : PySem.Str) (b : List Nat), a.cps.toList = b → a = ⟨b.toArray⟩ := fun a b h => by
              cases a; rename_i cps; subst h; simp
            apply this
            rw [e2]; simp [texts, subF]
          have := hR s.heap t' k' (fun b o _ e => e)
          rw [← e5] at this
          exact this
  · dsimp only
    obtain ⟨hq1, hq2, hsub⟩ := firstFrom_some (r := r.cps.toList) (x := x.cps) (by omega) hff
    have hx2 : (texts l ++ (x.cps.extract done q).toList ++ r.cps.toList).length ≤ 2 * (q + 1) := by
      simp only [List.length_append, Array.length_toList, Array.size_extract]
      omega
    by_cases hlt : done < q
    · refine wp_pos (show done < m'.start by rw [hst]; exact hlt) ?_
      refine wpAny_bind (bm_if_true rfl (wpAny_mkStr ?_ (hsz _ _)))
      refine wpAny_bind (push_wp (s := { s with toks := s.toks + 1 }) (xs := (strValues l).toArray) (n := ep) ho (by omega) fun h1 hL1 hk1 => ?_)
      refine bm_if_true rfl ?_
      refine wpAny_bind (wpAny_pure ?_)
      refine bm_if_true rfl ?_
      rw [strs_push] at hL1
      refine wpAny_bind (push_wp (s := { s with toks := s.toks + 1, heap := h1 }) (L := L) (v := .str r tr) hL1 (by simp [strValues]; omega) fun h2 hL2 hk2 => ?_)
      rw [strs_push] at hL2
      refine wpAny_pure ⟨plainId_quiet plain_loop _, ?_⟩
      have hmh : (m'.handed == m'.start) = false := by rw [hst, hhd]; simp
      rw [hmh, hhd, hst] at *
      have := ih (k - (q + 1 - done)) (by omega) (q + 1) (n + 1) (ep + 1 + 1) (l ++ [(⟨x.cps.extract done q⟩, s.toks)] ++ [(r, tr)]) { s with toks := s.toks + 1, heap := h2 } (by omega)
        (P.keep' hpL (fun b o hb e => hk2 b o hb (hk1 b o hb e)) (lst_not ho)) hL2 (by simp; omega) (by rw [texts_push, texts_push]; exact hx2)
        (fun h' t' k' hkk => by
          have := hR h' t' k' (fun b o hb e => hkk b o hb (hk2 b o hb (hk1 b o hb e)))
          rw [texts_push, texts_push]
          rw [hsub] at this
          simpa using this)
      exact this
    · refine wp_neg (show ¬ done < m'.start by rw [hst]; exact hlt) ?_
      refine bm_if_true rfl ?_
      refine wpAny_bind (wpAny_pure ?_)
      refine bm_if_true rfl ?_
      refine wpAny_bind (push_wp (s := s) (L := L) (v := .str r tr) ho (by omega) fun h2 hL2 hk2 => ?_)
      rw [strs_push] at hL2
      refine wpAny_pure ⟨plainId_quiet plain_loop _, ?_⟩
      have hmh : (m'.handed == m'.start) = false := by rw [hst, hhd]; simp
      rw [hmh, hhd]
      obtain rfl : done = q := by omega
      have := ih (k - (done + 1 - done)) (by omega) (done + 1) (n + 1) (ep + 1) (l ++ [(r, tr)]) { s with heap := h2 } (by omega)
        (P.keep' hpL hk2 (lst_not ho)) hL2 (by simp; omega) (by rw [texts_push]; simp only [List.length_append, Array.length_toList]; omega)
        (fun h' t' k' hkk => by
          have := hR h' t' k' (fun b o hb e => hkk b o hb (hk2 b o hb e))
          rw [texts_push]
          rw [hsub] at this
          simpa using this)
      exact this
end
end Mine
end
section
open PySem PySem.Builtin PySem.Builtin.Re PyProof.Rows PySem.W
namespace Mine
abbrev Keeps (h h' : Heap) : Prop := ∀ b o, h.get? b = some o → h'.get? b = some o
section
variable {prog : Program} {w : World} {A : Around} {E : Value → Shared → Prop} {s : Shared} {p : Addr} {code : Array Nat}
theorem no_call_str : typeLookup (.type "str") "__call__" = pure none := by rw [typeLookup_type, builtinLookup_eq_fast]; kernel_rfl
theorem no_call_bytes : typeLookup (.type "bytes") "__call__" = pure none := by rw [typeLookup_type, builtinLookup_eq_fast]; kernel_rfl
theorem named3 (a b : Value) : reNamed "re.Pattern.sub" "sub" ["repl", "string", "count"] 2 [a, b] [] = pure [some a, some b, none] := by
  first | rfl | kernel_rfl
theorem subS_meets {x r : PySem.Str} {t tr : Tok} {c : Nat → Bool} (hf : Finds code x.cps c) (hr : r.cps.size ≤ 2) (hrb : r.cps.contains 92 = false) (hx : x.cps.size ≤ 1000000) :
    Meets («re.Pattern.sub» ⟨[.ref p, .str r tr, .str x t], []⟩) (fun _ R s => PatAt s.heap p code 0 ∧ ∀ h' t' k', Keeps s.heap h' → R (.ok (.ret (.str ⟨(subF c r.cps.toList x.cps x.cps.size 0).toArray⟩ t'))) { s with heap := h', toks := k' }) := by
  intro prog w A R s ⟨P, hR⟩
  unfold «re.Pattern.sub» reSubstitute
  dsimp only
  refine wpAny_bind (wpAny_of_eq (named3 _ _) ?_)
  dsimp only
  refine wpAny_bind (wpAny_pure ?_)
  refine wpAny_bind (wpAny_specialOf (typeIs_str _ _ _) no_call_str ?_)
  refine bm_if_false rfl ?_
  refine wpAny_bind (wpAny_pure ?_)
  dsimp only
  refine wpAny_bind (wpAny_pure ?_)
  refine bm_if_false rfl ?_
  refine bm_if_true (by rw [hrb]; rfl) ?_
  refine wpAny_bind (wpAny_pure ?_)
  refine wpAny_bind (wpAny_holding (wholeS P ?_))
  refine bm_if_false rfl ?_
  refine wpAny_bind (wpAny_newList ?_ (by decide))
  have hp : p ≠ s.heap.objs.size := by
    obtain ⟨txt, flags, tf, q, n, a, b⟩ := P.at'
    exact Nat.ne_of_lt (Heap.lt_size a)
  refine wpAny_pure ⟨plainId_quiet plain_loop _, ?_⟩
  refine subS_loop (l := []) (ep := 0) (done := 0) (n := 0) hf hr hx hp x.cps.size (s := { s with heap := s.heap.push { cls := .type "list", data := .seq #[] } }) (by omega) (P.keep fun b o e => Heap.get?_push_of_some _ e) (Heap.get?_push_size _ rfl) (by simp) (by simp [texts]) fun h' t' k' hk => ?_
  have := hR h' t' k' (fun b o e => hk b o (Nat.ne_of_lt (Heap.lt_size e)) (Heap.get?_push_of_some _ e))
  simpa [texts] using this
theorem call_subS {x r : PySem.Str} {t tr : Tok} {c : Nat → Bool} {Q : Value → Shared → Prop} (P : PatAt s.heap p code 0) (hf : Finds code x.cps c) (hr : r.cps.size ≤ 2) (hrb : r.cps.contains 92 = false) (hx : x.cps.size ≤ 1000000)
    (h : ∀ h' t' k', Keeps s.heap h' → Q (.str ⟨(subF c r.cps.toList x.cps x.cps.size 0).toArray⟩ t') { s with heap := h', toks := k' }) :
    wpAny (model prog w) A (call (.builtin "re.Pattern.sub") [.ref p, .str r tr, .str x t]) Q E s :=
  call_meets slot_sub P.typeIs entry_sub (args_sub_3 _ _ _) (subS_meets hf hr hrb hx) ⟨P, h⟩
end
end Mine
end
section
open PySem PySem.Builtin PySem.Builtin.Re PyProof.Rows PySem.W
namespace Mine
theorem slot_bjoin : Slot "bytes" "join" "bytes.join" :=
  .of (owner := "bytes") (n := "join") (by rw [typeLookup_type, builtinLookup_eq_fast]; kernel_rfl) (by decide +kernel) (by decide +kernel) (by decide +kernel)
    (by first | exact .inl (by decide +kernel) | exact .inr (by decide +kernel)) (by rw [isSubtype_type]; kernel_rfl)
theorem entry_bjoin : entryFor table "bytes.join" = some Builtin.«bytes.join» := entryFor_of_tree (by kernel_rfl)
theorem args_bjoin (a b : Value) : argsOk "bytes.join" ⟨[a, b], []⟩ := by
  unfold argsOk
  first | kernel_rfl | rfl
def bytesValues (l : List (Array UInt8 × Tok)) : List Value := l.map fun p => .bytes p.1 p.2
def octs (l : List (Array UInt8 × Tok)) : List UInt8 := (l.map (·.1)).flatMap fun t => t.toList
theorem buffer_eqf {id : String} {b : Array UInt8} {t : Tok} {f : Bool} : Bytes.buffer? id (.bytes b t) f = pure (some b) := by
  unfold Bytes.buffer?
  rw [KBy.special_eq KBy.look_buffer, KBy.own_buffer, KBy.own_release]
  kernel_rfl
theorem take_eq {id : String} {b : Array UInt8} {t : Tok} {fl : Int} : Bytes.takeBufferQuiet? id (.bytes b t) fl = pure (some (b, none)) := by
  unfold Bytes.takeBufferQuiet? Bytes.takeBuffer?
  rw [KBy.special_eq KBy.look_buffer, KBy.own_buffer, buffer_eqf]
  rfl
section
variable {prog : Program} {w : World} {A : Around} {E : Value → Shared → Prop} {s : Shared}
theorem letGo_none {M : Model} {Q : Unit → Shared → Prop} (h : Q () s) : ∀ (taken : List (Value × Option Value)) (keep : List Value), (∀ x ∈ taken, x.2 = none ∧ x.1.onHeap = false) → wpAny M A (Bytes.joinLetGo taken keep) Q E s
  | [], _, _ => wpAny_pure h
  | (x, w) :: rest, keep, ht => by
    have hw : w = none := (ht (x, w) (by simp)).1
    subst hw
    unfold Bytes.joinLetGo
    dsimp only
    exact wpAny_bind (wpAny_letGo (letGo_none h rest keep fun y hy => ht y (by simp [hy])))
theorem range_at : ∀ (n k : Nat) (done rest : List Nat) (x : Nat), List.range' k n = done ++ x :: rest → x = k + done.length ∧ done.length < n
  | 0, _, done, rest, x, h => by simp at h
  | n + 1, k, done, rest, x, h => by
    rw [List.range'_succ] at h
    cases done with
    | nil => simp at h; exact ⟨by simp [h.1], by simp⟩
    | cons d ds =>
      simp at h
      obtain ⟨a, b⟩ := range_at n (k + 1) ds rest x h.2
      exact ⟨by simp; omega, by simp; omega⟩
theorem joined_flat (ps : List (Array UInt8)) : Bytes.joined #[] ps = (ps.flatMap fun p => p.toList).toArray := by
  unfold Bytes.joined
  have : ∀ (l : List (Array UInt8)) (k : Nat) (b : Array UInt8), ((l.zipIdx k).foldl (fun out x => (if x.2 > 0 then out ++ #[] else out) ++ x.1) b) = b ++ (l.flatMap fun p => p.toList).toArray := by
    intro l
    induction l with
    | nil => intro k b; simp
    | cons p l ih => intro k b; rw [List.zipIdx_cons, List.foldl_cons, ih]; apply Array.ext'; simp
  have h := this ps 0 #[]
  simpa using h
theorem tooLong_sum (ps : List (Array UInt8)) (h : (ps.flatMap fun p => p.toList).length ≤ 16000000) : Bytes.tooLong (ps.toArray.foldl (fun a b => a + b.size) 0) = false := by
  have : ∀ (l : List (Array UInt8)) (b : Nat), l.foldl (fun a b => a + b.size) b = b + (l.flatMap fun p => p.toList).length := by
    intro l
    induction l with
    | nil => intro b; simp
    | cons p l ih => intro b; rw [List.foldl_cons, ih]; simp; omega
  rw [List.foldl_toArray, this]
  exact KBy.tooLong_not (by omega)
theorem bv_getD (ll : List (Array UInt8 × Tok)) (i : Nat) (h : i < ll.length) : (bytesValues ll).toArray.getD i Value.none = .bytes ll[i].1 ll[i].2 := by simp [bytesValues, Array.getD, h]
theorem take_push (ll : List (Array UInt8 × Tok)) (i : Nat) (h : i < ll.length) : ((ll.take i).map Prod.fst).toArray.push ll[i].1 = ((ll.take (i + 1)).map Prod.fst).toArray := by
  have e : ll.take (i + 1) = ll.take i ++ [ll[i]] := by rw [List.take_add_one, List.getElem?_eq_getElem h]; rfl
  rw [e]
  simp only [List.map_append, List.map_cons, List.map_nil]
  simp
theorem bjoin_meets (D : Addr) (l : List (Array UInt8 × Tok)) (ep : Nat) (t : Tok) (hne : l ≠ []) (hz : (octs l).length ≤ 16000000) :
    Meets («bytes.join» ⟨[.bytes #[] t, .ref D], []⟩) (fun _ R s => s.heap.get? D = some (lst (bytesValues l).toArray ep) ∧ ∀ t' k, R (.ok (.ret (.bytes (octs l).toArray t'))) { s with toks := k }) := by
  refine .of_wp fun prog w A R s h => ?_
  obtain ⟨hD, hR⟩ := h
  have hT : s.TypeIs (.ref D) "list" := ⟨_, hD, rfl⟩
  unfold «bytes.join» Bytes.joinM
  dsimp only
  refine wpAny_bind (wpAny_of_eq (a := (Value.bytes #[] t, Value.ref D)) rfl ?_)
  dsimp only
  refine bm_if_true rfl ?_
  refine wpAny_bind ?_
  unfold Bytes.joinItems
  refine wpAny_bind (wpAny_typeOf hT ?_)
  refine bm_if_true rfl (wpAny_pure ?_)
  refine wpAny_bind ?_
  unfold seqItems?
  refine wpAny_bind (wpAny_load hD (wpAny_pure ?_))
  dsimp only
  refine bm_if_true rfl ?_
  cases l with
  | nil => exact absurd rfl hne
  | cons a l =>
    cases l with
    | nil =>
      refine wpAny_bind (wpAny_typeOf (s := s) (W.typeIs_bytes _ _ _) ?_)
      refine bm_if_true rfl ?_
      refine wpAny_bind (wpAny_rule (wpAny_pure ⟨_, rfl, ?_⟩))
      have := hR a.2 s.toks
      have e : (octs [a]).toArray = a.1 := by simp [octs]
      rw [e] at this
      exact this
    | cons a2 l2 =>
      dsimp only [bytesValues, List.map]
      refine wpAny_bind ?_
      rw [Std.Legacy.Range.forIn_eq_forIn_range']
      have hn : (bytesValues (a :: a2 :: l2)).toArray.size = (a :: a2 :: l2).length := by simp [bytesValues]
      refine wpAny_forIn_list _ (fun rest b s' => s' = s ∧ ∃ done, List.range' 0 (a :: a2 :: l2).length = done ++ rest ∧ b.1 = (((a :: a2 :: l2).take done.length).map Prod.fst).toArray ∧ ∀ x ∈ b.2, x.2 = none ∧ x.1.onHeap = false) _ ?turn ?fin _ _ ?start
      case start =>
        refine ⟨rfl, [], ?_, rfl, by simp⟩
        simp [Std.Legacy.Range.size]
      case fin =>
        rintro ⟨parts, taken⟩ s' ⟨rfl, done, hd, hp, ht⟩
        have hdl : done.length = (a :: a2 :: l2).length := by
          have := congrArg List.length hd
          simpa using this.symm
        rw [hdl, List.take_length] at hp
        dsimp only at hp ht ⊢
        subst hp
        refine wpAny_bind (wpAny_pure ?_)
        refine bm_if_false ?_ ?_
        · show Bytes.tooLong (Array.foldl (fun x1 x2 => x1 + x2.size) (0 * (((a :: a2 :: l2).map Prod.fst).toArray.size - 1)) ((a :: a2 :: l2).map Prod.fst).toArray) = false
          rw [Nat.zero_mul]
          exact tooLong_sum _ hz
        · refine wpAny_bind (wpAny_mkBytes ?_ ?_)
          · refine wpAny_bind (wpAny_holding (wpAny_point ?_))
            refine wpAny_bind (letGo_none ?_ _ _ ht)
            refine wpAny_pure ⟨_, rfl, ?_⟩
            have := hR s'.toks (s'.toks + 1)
            have e : (octs (a :: a2 :: l2)).toArray = Bytes.joined #[] (((a :: a2 :: l2).map Prod.fst).toArray.toList) := by rw [joined_flat]; simp [octs]
            rw [e] at this
            exact this
          · show (Bytes.joined #[] (((a :: a2 :: l2).map Prod.fst).toArray.toList)).size ≤ sizeLine
            rw [joined_flat]
            have : sizeLine = 16777216 := rfl
            have h2 : (((a :: a2 :: l2).map Prod.fst).toArray.toList.flatMap fun p => p.toList) = octs (a :: a2 :: l2) := rfl
            rw [h2, List.size_toArray]; omega
      case turn =>
        rintro x rest ⟨parts, taken⟩ s' ⟨rfl, done, hd, hp, ht⟩
        obtain ⟨hx, hlt⟩ := range_at _ _ _ _ _ hd
        rw [Nat.zero_add] at hx
        subst hx
        dsimp only at hp ht ⊢
        have hany : (taken.any fun x => x.fst.onHeap) = false := by
          rw [List.any_eq_false]
          intro y hy
          rw [(ht y hy).2]; decide
        have hitem := bv_getD (a :: a2 :: l2) done.length hlt
        refine wpAny_bind (wpAny_bind (wpAny_load hD (wpAny_pure ?_)))
        dsimp only
        refine bm_if_false (by rw [hany]; rfl) ?_
        rw [hitem]
        refine wpAny_bind (wpAny_holding (wpAny_of_eq take_eq ?_))
        dsimp only
        refine wpAny_bind (wpAny_bind (wpAny_load hD (wpAny_pure ?_)))
        dsimp only
        refine bm_if_false (by simp [bytesValues]) ?_
        refine wpAny_pure ⟨rfl, done ++ [done.length], by rw [hd]; simp, ?_, ?_⟩
        · show parts.push _ = _
          rw [hp]
          have hl1 : (done ++ [done.length]).length = done.length + 1 := by simp
          rw [hl1]
          exact take_push _ _ hlt
        · intro y hy
          rcases List.mem_append.mp hy with h | h
          · exact ht y h
          · rw [List.mem_singleton.mp h]; exact ⟨rfl, rfl⟩
theorem call_bjoin {D : Addr} {l : List (Array UInt8 × Tok)} {ep : Nat} {t : Tok} {Q : Value → Shared → Prop} (hD : s.heap.get? D = some (lst (bytesValues l).toArray ep)) (hne : l ≠ []) (hz : (octs l).length ≤ 16000000)
    (h : ∀ t' k, Q (.bytes (octs l).toArray t') { s with toks := k }) : wpAny (model prog w) A (call (.builtin "bytes.join") [.bytes #[] t, .ref D]) Q E s :=
  call_meets slot_bjoin (W.typeIs_bytes _ _ _) entry_bjoin (args_bjoin _ _) (bjoin_meets D l ep t hne hz) ⟨hD, h⟩
end
end Mine
end
section
open PySem PySem.Builtin PySem.Builtin.Re PyProof.Rows PySem.W
namespace Mine
theorem octs_push (l : List (Array UInt8 × Tok)) (x : Array UInt8) (t : Tok) : octs (l ++ [(x, t)]) = octs l ++ x.toList := by simp [octs]
theorem bvals_push (l : List (Array UInt8 × Tok)) (x : Array UInt8) (t : Tok) : (bytesValues l).toArray.push (.bytes x t) = (bytesValues (l ++ [(x, t)])).toArray := by simp [bytesValues]
theorem nat8 (u : UInt8) : u.toNat.toUInt8 = u := by simp
theorem map8 (l : List UInt8) : (l.map (·.toNat)).map Nat.toUInt8 = l := by
  rw [List.map_map]
  have : (Nat.toUInt8 ∘ fun u : UInt8 => u.toNat) = _root_.id := by funext u; exact nat8 u
  rw [this, List.map_id]
def cutB (N : Array Nat) (a b : Nat) : Array UInt8 := (N.extract a b).map (·.toUInt8)
theorem cutB_list (N : Array Nat) (a b : Nat) : (cutB N a b).toList = (N.extract a b).toList.map Nat.toUInt8 := by simp [cutB]
theorem cutB_size (N : Array Nat) (a b : Nat) : (cutB N a b).size = min b N.size - a := by simp [cutB]
section
variable {prog : Program} {w : World} {A : Around} {s : Shared} {p : Addr} {code : Array Nat}
theorem subB_loop {R : Result → Shared → Prop} {x r : Array UInt8} {t tr : Tok} {L : Addr} {c : Nat → Bool} {N : Array Nat} (hN : N = x.map (·.toNat)) (hf : Finds code N c) (hr : r.size ≤ 2) (hx : N.size ≤ 1000000) (hpL : p ≠ L) :
    ∀ (k done n ep : Nat) (l : List (Array UInt8 × Tok)) (s : Shared), done + k = N.size → PatAt s.heap p code 1 → s.heap.get? L = some (lst (bytesValues l).toArray ep) → l.length ≤ 2 * done → (octs l).length ≤ 2 * done →
      (∀ h' t' k', (∀ b o, b ≠ L → s.heap.get? b = some o → h'.get? b = some o) → R (.ok (.ret (.bytes (octs l ++ (subF c (r.toList.map (·.toNat)) N k done).map Nat.toUInt8).toArray t'))) { s with heap := h', toks := k' }) →
      codeAny (model prog w) A (.builtin "re.Pattern.sub.loop" (loopArgs p (.bytes x t) (.bytes r tr) n done L)) R s := by
  intro k
  induction k using Nat.strongRecOn with
  | _ k ih =>
  intro done n ep l s hk P ho hl ht hR
  have hsl : sizeLine = 16777216 := rfl
  have hsz : ∀ a b, (cutB N a b).size ≤ sizeLine := fun a b => by
    rw [cutB_size]; omega
  have hvs : (bytesValues l).toArray.size = l.length := by simp [bytesValues]
  have h00 : cutB N 0 0 = #[] := by simp [cutB]
  refine codeAny_builtin entry_loop ?_
  rw [Around.under_plainId plain_loop _]
  unfold loopArgs
  unfold Builtin.«re.Pattern.sub.loop»
  dsimp only
  refine wpAny_bind (wholeB P ?_)
  dsimp only
  refine bm_if_true rfl ?_
  refine wpAny_bind ?_
  unfold reLiteralCannotBeTurned
  refine wpAny_bind (wpAny_pure ?_)
  refine bm_if_true rfl ?_
  refine wpAny_bind (wpAny_of_eq KBy.isInstance_eq (wpAny_pure ?_))
  refine wpAny_bind (bm_if_false rfl ?_)
  unfold reNextFound
  obtain ⟨M, hM, he⟩ := hf done (by omega)
  have hkk : N.size - done = k := by omega
  rw [hkk] at he
  have et : (tgtB p x t code) = { pattern := .ref p, string := .bytes x t, code, text := N, kind := 1, groups := 0, pos := 0, lim := N.size } := by rw [hN]; rfl
  rw [et]
  refine reRun_rule hM he (fun hff => ?_) (fun q hff m' hst hhd => ?_)
  · dsimp only
    have hsub := firstFrom_none (r := r.toList.map (·.toNat)) (x := N) (by omega) hff
    by_cases hlt : done < N.size
    · refine wp_pos hlt ?_
      refine wpAny_bind (bm_if_false rfl (wpAny_mkBytes ?_ (hsz _ _)))
      refine wpAny_bind (push_wp (s := { s with toks := s.toks + 1 }) (xs := (bytesValues l).toArray) (n := ep) ho (by omega) fun h1 hL1 hk1 => ?_)
      refine wpAny_bind (bm_if_false rfl (wpAny_mkBytes ?_ (hsz _ _)))
      have hL1' : h1.get? L = some (lst (bytesValues (l ++ [(cutB N done N.size, s.toks)])).toArray (ep + 1)) := by rw [← bvals_push]; exact hL1
      refine wpAny_bind ?_
      unfold seqItems?
      refine wpAny_bind (wpAny_load hL1' (wpAny_pure ?_))
      refine bm_if_false (by simp [bytesValues]) ?_
      refine wpAny_bind ?_
      have h00' : ((N.extract 0 0).map (·.toUInt8)) = #[] := h00
      have hz : (octs (l ++ [(cutB N done N.size, s.toks)])).length ≤ 16000000 := by
        rw [octs_push]
        simp only [List.length_append, Array.length_toList, cutB_size]
        omega
      rw [h00']
      refine call_bjoin (s := { s with toks := s.toks + 1 + 1, heap := h1 }) (l := l ++ [(cutB N done N.size, s.toks)]) hL1' (by simp) hz fun t' k' => ?_
      refine bm_if_false rfl (wpAny_pure ?_)
      have := hR h1 t' k' (fun b o hb e => hk1 b o hb e)
      have e4 : done + k = N.size := hk
      rw [hsub, e4] at this
      rw [octs_push, cutB_list]
      exact this
    · refine wp_neg hlt ?_
      have hk0 : k = 0 := by omega
      subst hk0
      refine wpAny_bind (bm_if_false rfl (wpAny_mkBytes ?_ (hsz _ _)))
      refine wpAny_bind ?_
      unfold seqItems?
      refine wpAny_bind (wpAny_load ho (wpAny_pure ?_))
      have h00' : ((N.extract 0 0).map (·.toUInt8)) = #[] := h00
      rw [h00']
      cases l with
      | nil =>
        refine bm_if_true rfl ?_
        refine wpAny_bind (wpAny_pure ?_)
        refine bm_if_false rfl (wpAny_pure ?_)
        have := hR s.heap s.toks (s.toks + 1) (fun b o _ e => e)
        simpa [octs, subF] using this
      | cons a l' =>
        refine bm_if_false rfl ?_
        refine wpAny_bind ?_
        refine call_bjoin (s := { s with toks := s.toks + 1 }) (l := a :: l') ho (by simp) (by omega) fun t' k' => ?_
        refine bm_if_false rfl (wpAny_pure ?_)
        have := hR s.heap t' k' (fun b o _ e => e)
        simpa [subF] using this
  · dsimp only
    obtain ⟨hq1, hq2, hsub⟩ := firstFrom_some (r := r.toList.map (·.toNat)) (x := N) (by omega) hff
    by_cases hlt : done < q
    · refine wp_pos (show done < m'.start by rw [hst]; exact hlt) ?_
      refine wpAny_bind (bm_if_false rfl (wpAny_mkBytes ?_ (hsz _ _)))
      refine wpAny_bind (push_wp (s := { s with toks := s.toks + 1 }) (xs := (bytesValues l).toArray) (n := ep) ho (by omega) fun h1 hL1 hk1 => ?_)
      refine bm_if_true rfl ?_
      refine wpAny_bind (wpAny_pure ?_)
      refine bm_if_true rfl ?_
      rw [hst] at hL1
      have hL1' : h1.get? L = some (lst (bytesValues (l ++ [(cutB N done q, s.toks)])).toArray (ep + 1)) := by rw [← bvals_push]; exact hL1
      refine wpAny_bind (push_wp (s := { s with toks := s.toks + 1, heap := h1 }) (L := L) (v := .bytes r tr) hL1' (by simp [bytesValues]; omega) fun h2 hL2 hk2 => ?_)
      rw [bvals_push] at hL2
      refine wpAny_pure ⟨plainId_quiet plain_loop _, ?_⟩
      have hmh : (m'.handed == m'.start) = false := by rw [hst, hhd]; simp
      rw [hmh, hhd]
      have := ih (k - (q + 1 - done)) (by omega) (q + 1) (n + 1) (ep + 1 + 1) (l ++ [(cutB N done q, s.toks)] ++ [(r, tr)]) { s with toks := s.toks + 1, heap := h2 } (by omega)
        (P.keep' hpL (fun b o hb e => hk2 b o hb (hk1 b o hb e)) (lst_not ho)) hL2 (by simp; omega)
        (by
          rw [octs_push, octs_push]
          simp only [List.length_append, Array.length_toList, cutB_size]
          omega)
        (fun h' t' k' hkk => by
          have := hR h' t' k' (fun b o hb e => hkk b o hb (hk2 b o hb (hk1 b o hb e)))
          rw [octs_push, octs_push, cutB_list]
          rw [hsub] at this
          simp only [List.map_append, map8] at this
          simpa using this)
      exact this
    · refine wp_neg (show ¬ done < m'.start by rw [hst]; exact hlt) ?_
      refine bm_if_true rfl ?_
      refine wpAny_bind (wpAny_pure ?_)
      refine bm_if_true rfl ?_
      refine wpAny_bind (push_wp (s := s) (L := L) (v := .bytes r tr) ho (by omega) fun h2 hL2 hk2 => ?_)
      rw [bvals_push] at hL2
      refine wpAny_pure ⟨plainId_quiet plain_loop _, ?_⟩
      have hmh : (m'.handed == m'.start) = false := by rw [hst, hhd]; simp
      rw [hmh, hhd]
      obtain rfl : done = q := by omega
      have := ih (k - (done + 1 - done)) (by omega) (done + 1) (n + 1) (ep + 1) (l ++ [(r, tr)]) { s with heap := h2 } (by omega)
        (P.keep' hpL hk2 (lst_not ho)) hL2 (by simp; omega) (by rw [octs_push]; simp only [List.length_append, Array.length_toList]; omega)
        (fun h' t' k' hkk => by
          have := hR h' t' k' (fun b o hb e => hkk b o hb (hk2 b o hb e))
          rw [octs_push]
          rw [hsub] at this
          simp only [List.map_append, map8] at this
          simpa using this)
      exact this
end
section
variable {prog : Program} {w : World} {A : Around} {E : Value → Shared → Prop} {s : Shared} {p : Addr} {code : Array Nat}
theorem subB_meets {x r : Array UInt8} {t tr : Tok} {c : Nat → Bool} (hf : Finds code (x.map (·.toNat)) c) (hr : r.size ≤ 2) (hrb : r.contains 92 = false) (hx : (x.map (·.toNat)).size ≤ 1000000) :
    Meets («re.Pattern.sub» ⟨[.ref p, .bytes r tr, .bytes x t], []⟩) (fun _ R s => PatAt s.heap p code 1 ∧ ∀ h' t' k', Keeps s.heap h' → R (.ok (.ret (.bytes ((subF c (r.toList.map (·.toNat)) (x.map (·.toNat)) (x.map (·.toNat)).size 0).map Nat.toUInt8).toArray t'))) { s with heap := h', toks := k' }) := by
  intro prog w A R s ⟨P, hR⟩
  unfold «re.Pattern.sub» reSubstitute
  dsimp only
  refine wpAny_bind (wpAny_of_eq (named3 _ _) ?_)
  dsimp only
  refine wpAny_bind (wpAny_pure ?_)
  refine wpAny_bind (wpAny_specialOf (W.typeIs_bytes _ _ _) no_call_bytes ?_)
  refine bm_if_false rfl ?_
  refine wpAny_bind (wpAny_pure ?_)
  dsimp only
  refine wpAny_bind (wpAny_of_eq KBy.quiet_eq ?_)
  dsimp only
  refine wpAny_bind (wpAny_pure ?_)
  refine bm_if_false rfl ?_
  refine bm_if_true (by rw [hrb]; rfl) ?_
  refine wpAny_bind (wpAny_pure ?_)
  refine wpAny_bind (wpAny_holding (wholeB P ?_))
  refine bm_if_false rfl ?_
  refine wpAny_bind (wpAny_newList ?_ (by decide))
  have hp : p ≠ s.heap.objs.size := by
    obtain ⟨txt, flags, tf, q, n, a, b⟩ := P.at'
    exact Nat.ne_of_lt (Heap.lt_size a)
  refine wpAny_pure ⟨plainId_quiet plain_loop _, ?_⟩
  refine subB_loop (l := []) (ep := 0) (done := 0) (n := 0) rfl hf hr hx hp (x.map (·.toNat)).size (s := { s with heap := s.heap.push { cls := .type "list", data := .seq #[] } }) (by omega) (P.keep fun b o e => Heap.get?_push_of_some _ e) (Heap.get?_push_size _ rfl) (by simp) (by simp [octs]) fun h' t' k' hk => ?_
  have := hR h' t' k' (fun b o e => hk b o (Nat.ne_of_lt (Heap.lt_size e)) (Heap.get?_push_of_some _ e))
  have e0 : octs [] = [] := rfl
  rw [e0, List.nil_append]
  exact this
theorem call_subB {x r : Array UInt8} {t tr : Tok} {c : Nat → Bool} {Q : Value → Shared → Prop} (P : PatAt s.heap p code 1) (hf : Finds code (x.map (·.toNat)) c) (hr : r.size ≤ 2) (hrb : r.contains 92 = false) (hx : (x.map (·.toNat)).size ≤ 1000000)
    (h : ∀ h' t' k', Keeps s.heap h' → Q (.bytes ((subF c (r.toList.map (·.toNat)) (x.map (·.toNat)) (x.map (·.toNat)).size 0).map Nat.toUInt8).toArray t') { s with heap := h', toks := k' }) :
    wpAny (model prog w) A (call (.builtin "re.Pattern.sub") [.ref p, .bytes r tr, .bytes x t]) Q E s :=
  call_meets slot_sub P.typeIs entry_sub (args_sub_3 _ _ _) (subB_meets hf hr hrb hx) ⟨P, h⟩
theorem finds1 (text : Array Nat) (h : text.size ≤ 1000000) : Finds code1 text (cond1 text) := fun pos hp => by
  obtain ⟨n, hn, he⟩ := find1 text pos hp
  exact ⟨n, by omega, he⟩
theorem finds3 (text : Array Nat) (no : ∀ i, i < text.size → text.getD i 0 ≠ 13) : Finds code3 text (cond3 text) := fun pos hp => by
  obtain ⟨n, hn, he⟩ := find3 text pos hp no
  exact ⟨n, by omega, he⟩
end
end Mine
end
section
open PySem PySem.Builtin PySem.Builtin.Str PyProof.Rows PySem.W
namespace Mine

/-- a list of texts, one for each sign below 256 -/
def TabAt (h : Heap) (l : Addr) (g : Nat → List Nat) : Prop :=
  ∃ items, h.IsList l items ∧ ∀ c, c < 256 → ∃ t, items[c]? = some (.str ⟨(g c).toArray⟩ t)
theorem TabAt.same {h : Heap} {l : Addr} {g : Nat → List Nat} (T : TabAt h l g) {s : Shared} {k : Nat} (e : s.heap = h) : TabAt ({ s with toks := k } : Shared).heap l g := by
  show TabAt s.heap l g
  rw [e]; exact T

section
variable {prog : Program} {w : World} {A : Around} {E : Value → Shared → Prop} {s : Shared} {g : Nat → List Nat} {l : Addr}
theorem tableLookup_at {c : Nat} {Q : Mapped → Shared → Prop} (T : TabAt s.heap l g) (hc : c < 256) (h : ∀ k, Q (.text ⟨(g c).toArray⟩) { s with toks := k }) :
    wpAny (model prog w) A (tableLookup (.ref l) c) Q E s := by
  obtain ⟨items, hl, ht⟩ := T
  obtain ⟨t, hx⟩ := ht c hc
  unfold tableLookup
  refine wpAny_bind (wpAny_attempt (wpAny_bind (wpAny_mkInt ?_)))
  refine wpAny_getItem_list (s := { s with toks := s.toks + 1 }) (items := items) (x := .str ⟨(g c).toArray⟩ t) hl (by omega) (by omega) (by simpa using hx) ?_
  have e : wpAny (model prog w) A (do
      if let some i ← asInt? (.str ⟨(g c).toArray⟩ t) then
        if i < 0 || i > 0x10FFFF then
          rule "str.translate.out-of-range"; raiseError "ValueError" "character mapping must be in range(0x110000)"
        return .char i.toNat
      if let some t ← asStr? (.str ⟨(g c).toArray⟩ t) then return .text t
      rule "str.translate.bad-value"; raiseError "TypeError" "character mapping must return integer, None or str") Q E { s with toks := s.toks + 1 } := wpAny_pure (h _)
  exact e
theorem flat_rev (ps : List Str) (t : Str) : ((t :: ps).reverse.flatMap fun p => p.cps.toList) = (ps.reverse.flatMap fun p => p.cps.toList) ++ t.cps.toList := by
  simp [List.flatMap_append]
theorem len_flat3 {g : Nat → List Nat} (hg : ∀ c, c < 256 → (g c).length ≤ 3) : ∀ (l : List Nat), (∀ c ∈ l, c < 256) → (l.flatMap g).length ≤ 3 * l.length
  | [], _ => by simp
  | c :: r, h => by
    have h1 := hg c (h c (by simp))
    have h2 := len_flat3 hg r (fun d hd => h d (by simp [hd]))
    simp only [List.flatMap_cons, List.length_append, List.length_cons]
    omega
theorem foldl_cps (ps : List Str) : ∀ a : Array Nat, (ps.foldl (fun acc p => acc ++ p.cps) a).toList = a.toList ++ ps.flatMap fun p => p.cps.toList := by
  induction ps with
  | nil => intro a; simp
  | cons p r ih => intro a; rw [List.foldl_cons, ih]; simp
def KnownOk (g : Nat → List Nat) (known : List (Nat × Option Nat)) : Prop := ∀ c a, known.lookup c = some a → ∃ d, a = some d ∧ g c = [d]
theorem KnownOk.cons {g : Nat → List Nat} {known : List (Nat × Option Nat)} {c d : Nat} (h : KnownOk g known) (e : g c = [d]) : KnownOk g ((c, some d) :: known) := by
  intro c' a h'
  rw [List.lookup_cons] at h'
  cases q : (c' == c) with
  | true => rw [q] at h'; cases h'; have : c' = c := by simpa using q
            subst this; exact ⟨d, rfl, e⟩
  | false => rw [q] at h'; exact h c' a h'
def TrInv (s : Shared) (g : Nat → List Nat) (all : List Nat) (rest : List Nat) (b : List Str × Nat × Bool × List (Nat × Option Nat) × Bool) (s' : Shared) : Prop :=
  ∃ done k, all = done ++ rest ∧ s' = { s with toks := k } ∧ b.2.2.2.2 = false ∧ KnownOk g b.2.2.2.1 ∧ (b.1.reverse.flatMap fun p => p.cps.toList) = done.flatMap g ∧ b.2.1 = (done.flatMap g).length
theorem TrInv.more {s : Shared} {g : Nat → List Nat} {all rest done : List Nat} {c : Nat} {ps : List Str} {t : Str} {tot k : Nat} {fast : Bool} {known : List (Nat × Option Nat)} (e : all = done ++ c :: rest) (hk : KnownOk g known)
    (h1 : (ps.reverse.flatMap fun p => p.cps.toList) = done.flatMap g) (h2 : tot = (done.flatMap g).length) (ht : t.cps.toList = g c) {n : Nat} (hn : n = t.cps.size) : TrInv s g all rest (t :: ps, tot + n, fast, known, false) { s with toks := k } := by
  refine ⟨done ++ [c], k, by simp [e], rfl, rfl, hk, ?_, ?_⟩
  · show ((t :: ps).reverse.flatMap fun p => p.cps.toList) = _
    rw [flat_rev, h1, ht]; simp
  · show tot + n = _
    have h3 : t.cps.size = (g c).length := by rw [← ht]; simp
    rw [hn, h2, h3]; simp
theorem translate_meets (x : Str) (t : Tok) (l : Addr) (g : Nat → List Nat) (hx : ∀ c ∈ x.cps.toList, c < 256) (hg : ∀ c, c < 256 → (g c).length ≤ 3) (hne : x.length ≠ 0) (hsz : x.length ≤ 100000) :
    Meets («str.translate» ⟨[.str x t, .ref l], []⟩) (fun _ R s => TabAt s.heap l g ∧ ∀ t' k, R (.ok (.ret (.str ⟨(x.cps.toList.flatMap g).toArray⟩ t'))) { s with toks := k }) := by
  refine .of_wp fun prog w A R s h => ?_
  obtain ⟨T, hR⟩ := h
  have hall := len_flat3 hg x.cps.toList hx
  have hxl : x.cps.toList.length = x.length := by simp [Str.length]
  unfold «str.translate»
  refine wpAny_bind ?_
  show wpAny _ _ (pure (Value.str x t, x, Value.ref l)) _ _ _
  refine wpAny_pure ?_
  dsimp only
  rw [if_neg (by simpa using hne)]
  refine wpAny_bind (wpAny_forIn_array' _ (TrInv s g x.cps.toList) _ ?turn ?fin _ _ ?start)
  case start => exact ⟨[], s.toks, rfl, rfl, rfl, (fun c a h => by simp at h), rfl, rfl⟩
  case fin =>
    rintro ⟨ps, tot, fast, known, ad⟩ s' ⟨done, k, e, rfl, _, _, h1, h2⟩
    have hd : done = x.cps.toList := by simpa using e.symm
    subst hd
    dsimp only at h1 h2 ⊢
    have hsmall : ¬ tooLong tot = true := by
      unfold tooLong
      have : sizeLine = 16777216 := rfl
      simp only [decide_eq_true_eq]
      omega
    rw [if_neg hsmall]
    have hcps : (ps.reverse.foldl (fun acc p => acc ++ p.cps) #[]) = (x.cps.toList.flatMap g).toArray := by
      apply Array.ext'
      rw [foldl_cps, h1]; simp
    rw [hcps]
    refine wpAny_bind (wpAny_mkStr (wpAny_pure ⟨_, rfl, hR _ _⟩) ?_)
    show ((x.cps.toList.flatMap g).toArray).size ≤ sizeLine
    have : sizeLine = 16777216 := rfl
    simp only [List.size_toArray]
    omega
  case turn =>
    rintro c rest ⟨ps, tot, fast, known, ad⟩ s' ⟨done, k, e, rfl, had, hkn, h1, h2⟩
    dsimp only at had hkn h1 h2 ⊢
    subst had
    have hc : c < 256 := hx c (by rw [e]; simp)
    have T' : TabAt ({ s with toks := k } : Shared).heap l g := T
    have hdl : (done.flatMap g).length ≤ 3 * done.length := len_flat3 hg done (fun d hd => hx d (by rw [e]; simp [hd]))
    have hdn : done.length ≤ x.length := by rw [← hxl, e]; simp
    have hsmall : ¬ tooLong tot = true := by
      unfold tooLong
      have : sizeLine = 16777216 := rfl
      simp only [decide_eq_true_eq]
      omega
    rw [if_neg hsmall]
    simp only [Bool.false_eq_true, if_false]
    cases fast with
    | false =>
      simp only [Bool.false_eq_true, if_false]
      refine wpAny_bind (tableLookup_at T' hc fun k' => ?_)
      exact wpAny_pure (TrInv.more e hkn h1 h2 (by simp) rfl)
    | true =>
      simp only [if_true]
      cases hlk : known.lookup c with
      | some a =>
        obtain ⟨d, rfl, hd⟩ := hkn c a hlk
        refine wpAny_bind (wpAny_pure ?_)
        exact wpAny_pure (TrInv.more e hkn h1 h2 (by simp [hd]) rfl)
      | none =>
        refine wpAny_bind (tableLookup_at T' hc fun k' => ?_)
        dsimp only
        cases hone : ((⟨(g c).toArray⟩ : Str).length == 1 && (⟨(g c).toArray⟩ : Str).cps.all fun x => decide (x < 128)) with
        | true =>
          have h1' : (g c).length = 1 := by
            have := (Bool.and_eq_true_iff.mp hone).1
            simpa [Str.length] using this
          obtain ⟨d, hd⟩ : ∃ d, g c = [d] := List.length_eq_one_iff.mp h1'
          simp only [if_true, hd]
          refine wpAny_bind (wpAny_pure ?_)
          exact wpAny_pure (TrInv.more e (hkn.cons hd) h1 h2 (by simp [hd]) rfl)
        | false =>
          simp only [Bool.false_eq_true, if_false]
          refine wpAny_bind (wpAny_pure ?_)
          refine wpAny_bind (wpAny_rule ?_)
          refine wpAny_bind (tableLookup_at T' hc fun k'' => ?_)
          exact wpAny_pure (TrInv.more e hkn h1 h2 (by simp) rfl)
theorem call_translate {x : Str} {t : Tok} {Q : Value → Shared → Prop} (T : TabAt s.heap l g) (hx : ∀ c ∈ x.cps.toList, c < 256) (hg : ∀ c, c < 256 → (g c).length ≤ 3) (hne : x.length ≠ 0) (hsz : x.length ≤ 100000)
    (h : ∀ t' k, Q (.str ⟨(x.cps.toList.flatMap g).toArray⟩ t') { s with toks := k }) : wpAny (model prog w) A (call (.builtin "str.translate") [.str x t, .ref l]) Q E s :=
  call_meets F.slot_str_translate (typeIs_str _ _ _) F.entry_str_translate (F.args_str_translate_2 _ _) (translate_meets x t l g hx hg hne hsz) ⟨T, h⟩
end
end Mine
end
section
open PySem PySem.W PyProof.Rows
namespace Mine
/- the hexadecimal digits -/
def hexs : List Nat := [48, 49, 50, 51, 52, 53, 54, 55, 56, 57, 97, 98, 99, 100, 101, 102, 65, 66, 67, 68, 69, 70]
def hexV (c : Nat) : Nat := if c ≤ 57 then c - 48 else if c ≤ 70 then c - 55 else c - 87
def at_ (x : Str) (i : Nat) : Nat := x.cps.getD i 0
/-- one line, decoded: what is behind it is a line's end, but for a soft break -/
def decT : List Nat → List Nat
  | [] => []
  | c :: r => if c ≠ 61 then c :: (if r.isEmpty then [10] else decT r)
    else match r with
      | [] => []
      | [x] => 61 :: decT [x]
      | x :: y :: r' => if hexs.contains x && hexs.contains y then (hexV x * 16 + hexV y) :: (if r'.isEmpty then [10] else decT r') else 61 :: decT (x :: y :: r')
theorem decT_ne {c : Nat} {r : List Nat} (h : c ≠ 61) : decT (c :: r) = c :: (if r.isEmpty then [10] else decT r) := by
  rw [decT.eq_def]
  simp [h]
theorem decT_soft : decT [61] = [] := by
  rw [decT.eq_def]; simp
theorem decT_one {x : Nat} : decT [61, x] = 61 :: decT [x] := by
  rw [decT.eq_def]; simp
theorem decT_two {x y : Nat} {r : List Nat} : decT (61 :: x :: y :: r) = if hexs.contains x && hexs.contains y then (hexV x * 16 + hexV y) :: (if r.isEmpty then [10] else decT r) else 61 :: decT (x :: y :: r) := by
  rw [decT.eq_def]; simp
/-- what holds between the turns of the inner loop -/
structure DP (r d0 : Str) (i : Nat) (d : Str) : Prop where
  le : i ≤ r.length
  len : d.length ≤ d0.length + 2 * i
  on : i < r.length → d.cps.toList ++ decT (r.cps.toList.drop i) = d0.cps.toList ++ decT r.cps.toList
  fin : i = r.length → d.cps.toList = d0.cps.toList ++ decT r.cps.toList
theorem drop_at {r : Str} {i : Nat} (h : i < r.length) : r.cps.toList.drop i = at_ r i :: r.cps.toList.drop (i + 1) := by
  have h' : i < r.cps.toList.length := by simpa [Str.length] using h
  have h2 : i < r.cps.size := h
  rw [List.drop_eq_getElem_cons h']
  simp [at_, Array.getD, h2]
theorem drop_end {r : Str} {i : Nat} (h : i = r.length) : r.cps.toList.drop i = [] := by
  apply List.drop_eq_nil_of_le
  simp [Str.length] at h
  simp [h]
theorem drop_not {r : Str} {i : Nat} (h : i < r.length) : (r.cps.toList.drop i).isEmpty = false := by
  rw [drop_at h]; rfl
theorem cps_app (a b : Str) : (a ++ b).cps.toList = a.cps.toList ++ b.cps.toList := by
  show (a.cps ++ b.cps).toList = _
  simp
theorem len_app (a b : Str) : (a ++ b).length = a.length + b.length := by
  show (a.cps ++ b.cps).size = _
  simp [Str.length]
theorem DP.start {r d0 : Str} (h : r.length ≠ 0) : DP r d0 0 d0 := ⟨by omega, by omega, fun _ => rfl, fun e => absurd e.symm h⟩
/-- a plain sign, the line goes on -/
theorem DP.a {r d0 d : Str} {i : Nat} (P : DP r d0 i d) (h : i + 1 < r.length) (ha : at_ r i ≠ 61) : DP r d0 (i + 1) (d ++ ⟨#[at_ r i]⟩) := by
  refine ⟨by omega, ?_, fun _ => ?_, fun e => by omega⟩
  · rw [len_app]; have := P.len; show _ + 1 ≤ _; omega
  · have := P.on (by omega)
    rw [drop_at (by omega : i < r.length)] at this
    rw [decT_ne ha, drop_not h] at this
    rw [cps_app]
    simpa using this
/-- a plain sign at the line's end -/
theorem DP.az {r d0 d e : Str} {i : Nat} (P : DP r d0 i d) (h : i + 1 = r.length) (ha : at_ r i ≠ 61) (he : e.cps = #[10]) : DP r d0 (i + 1) (d ++ ⟨#[at_ r i]⟩ ++ e) := by
  refine ⟨by omega, ?_, fun h' => by omega, fun _ => ?_⟩
  · rw [len_app, len_app]; have := P.len
    have : e.length = 1 := by simp [Str.length, he]
    show _ + 1 + _ ≤ _; omega
  · have := P.on (by omega)
    rw [drop_at (by omega : i < r.length)] at this
    rw [decT_ne ha, drop_end h] at this
    rw [cps_app, cps_app, he]
    simpa using this
/-- a soft break -/
theorem DP.b {r d0 d : Str} {i : Nat} (P : DP r d0 i d) (h : i + 1 = r.length) (ha : at_ r i = 61) : DP r d0 (i + 1) d := by
  refine ⟨by omega, by have := P.len; omega, fun h' => by omega, fun _ => ?_⟩
  have := P.on (by omega)
  rw [drop_at (by omega : i < r.length)] at this
  rw [ha, drop_end h, decT_soft] at this
  simpa using this
theorem decT_hex {r : Str} {i : Nat} (h : i + 2 < r.length) (ha : at_ r i = 61) (h1 : at_ r (i + 1) ∈ hexs) (h2 : at_ r (i + 2) ∈ hexs) :
    decT (r.cps.toList.drop i) = (hexV (at_ r (i + 1)) * 16 + hexV (at_ r (i + 2))) :: (if (r.cps.toList.drop (i + 3)).isEmpty then [10] else decT (r.cps.toList.drop (i + 3))) := by
  rw [drop_at (by omega : i < r.length), drop_at (by omega : i + 1 < r.length), drop_at (by omega : i + 1 + 1 < r.length)]
  rw [ha, decT_two]
  have e : (hexs.contains (at_ r (i + 1)) && hexs.contains (at_ r (i + 1 + 1))) = true := by
    simp only [Bool.and_eq_true, List.contains_iff_mem]
    exact ⟨h1, h2⟩
  simp only [e, if_true]
/-- a quoted sign, the line goes on -/
theorem DP.c {r d0 d : Str} {i : Nat} (P : DP r d0 i d) (h : i + 3 < r.length) (ha : at_ r i = 61) (h1 : at_ r (i + 1) ∈ hexs) (h2 : at_ r (i + 2) ∈ hexs) :
    DP r d0 (i + 3) (d ++ ⟨#[hexV (at_ r (i + 1)) * 16 + hexV (at_ r (i + 2))]⟩) := by
  refine ⟨by omega, ?_, fun _ => ?_, fun e => by omega⟩
  · rw [len_app]; have := P.len; show _ + 1 ≤ _; omega
  · have := P.on (by omega)
    rw [decT_hex (by omega) ha h1 h2, drop_not h] at this
    rw [cps_app]
    simpa using this
theorem DP.cz {r d0 d e : Str} {i : Nat} (P : DP r d0 i d) (h : i + 3 = r.length) (ha : at_ r i = 61) (h1 : at_ r (i + 1) ∈ hexs) (h2 : at_ r (i + 2) ∈ hexs) (he : e.cps = #[10]) :
    DP r d0 (i + 3) (d ++ ⟨#[hexV (at_ r (i + 1)) * 16 + hexV (at_ r (i + 2))]⟩ ++ e) := by
  refine ⟨by omega, ?_, fun h' => by omega, fun _ => ?_⟩
  · rw [len_app, len_app]; have := P.len
    have : e.length = 1 := by simp [Str.length, he]
    show _ + 1 + _ ≤ _; omega
  · have := P.on (by omega)
    rw [decT_hex (by omega) ha h1 h2, drop_end h] at this
    rw [cps_app, cps_app, he]
    simpa using this
/-- an = that quotes nothing -/
theorem DP.d {r d0 d : Str} {i : Nat} (P : DP r d0 i d) (h : i + 1 < r.length) (ha : at_ r i = 61) (hn : ¬ (i + 2 < r.length ∧ at_ r (i + 1) ∈ hexs ∧ at_ r (i + 2) ∈ hexs)) : DP r d0 (i + 1) (d ++ ⟨#[at_ r i]⟩) := by
  refine ⟨by omega, ?_, fun _ => ?_, fun e => by omega⟩
  · rw [len_app]; have := P.len; show _ + 1 ≤ _; omega
  · have := P.on (by omega)
    rw [drop_at (by omega : i < r.length)] at this
    rw [ha] at this ⊢
    rw [cps_app]
    by_cases h2 : i + 2 < r.length
    · rw [drop_at h, drop_at h2] at this ⊢
      have e : ¬ (hexs.contains (at_ r (i + 1)) && hexs.contains (at_ r (i + 1 + 1))) = true := by
        simp only [Bool.and_eq_true, List.contains_iff_mem]
        exact fun q => hn ⟨h2, q⟩
      rw [decT_two, if_neg e] at this
      simpa using this
    · rw [drop_at h, drop_end (by omega : i + 1 + 1 = r.length)] at this ⊢
      rw [decT_one] at this
      simpa using this
theorem decT_len : ∀ (n : Nat) (l : List Nat), l.length ≤ n → (decT l).length ≤ l.length + 1
  | _, [], _ => by simp [decT]
  | 0, _ :: _, h => by simp at h
  | n + 1, c :: r, h => by
    have hr : r.length ≤ n := by simpa using h
    by_cases hc : c = 61
    · subst hc
      match r, hr with
      | [], _ => simp [decT_soft]
      | [x], hr => have := decT_len n [x] hr; rw [decT_one]; simp at this ⊢; omega
      | x :: y :: r', hr =>
        have h1 := decT_len n (x :: y :: r') hr
        have h2 := decT_len n r' (by simp at hr; omega)
        rw [decT_two]
        split
        · split <;> simp <;> omega
        · simp at h1 ⊢; omega
    · have := decT_len n r hr
      rw [decT_ne hc]
      split <;> simp <;> omega
end Mine
end
section
open PySem PySem.W PyProof.Rows
namespace Mine
def plainC (c : Nat) : Bool := (Nat.ble 32 c && Nat.ble c 126 && !(Nat.beq c 61)) || Nat.beq c 9 || Nat.beq c 10 || Nat.beq c 13
def hexU (d : Nat) : Nat := if Nat.ble d 9 = true then 48 + d else 55 + d
def enc1 (c : Nat) : List Nat := if plainC c then [c] else [61, hexU (c / 16), hexU (c % 16)]
theorem enc1_len (c : Nat) : (enc1 c).length ≤ 3 := by unfold enc1; split <;> simp
end Mine
end
section
open PySem PySem.W PyProof.Rows
namespace Mine
theorem item_nat {x : Str} {i : Int} (h0 : 0 ≤ i) (h1 : i < x.length) : Txt.item x i = ⟨#[at_ x i.toNat]⟩ := by
  unfold Txt.item Txt.charAt seqIndex?
  obtain ⟨n, rfl⟩ := Int.eq_ofNat_of_zero_le h0
  have hn : n < x.cps.size := by
    have : x.length = x.cps.size := rfl
    omega
  have e1 : ¬ ((n : Int) < 0) := by omega
  simp only [if_neg e1]
  have e2 : (decide (0 ≤ (n : Int)) && decide ((n : Int) < (x.length : Int))) = true := by simp; omega
  rw [if_pos e2]
  simp [at_, Array.getD, hn]
theorem item_last {x : Str} (h1 : x.length ≠ 0) : Txt.item x (-1) = ⟨#[at_ x (x.length - 1)]⟩ := by
  unfold Txt.item Txt.charAt seqIndex?
  have hl : x.length = x.cps.size := rfl
  have hn : x.cps.size - 1 < x.cps.size := by omega
  have e1 : ((-1 : Int) < 0) := by omega
  simp only [if_pos e1]
  have e2 : (decide (0 ≤ (-1 : Int) + (x.length : Int)) && decide ((-1 : Int) + (x.length : Int) < (x.length : Int))) = true := by simp; omega
  rw [if_pos e2]
  have e3 : ((-1 : Int) + (x.length : Int)).toNat = x.length - 1 := by omega
  rw [e3]
  simp [at_, Array.getD, hn, hl]
section
variable {prog : Program} {w : World} {A : Around} {E : Value → Shared → Prop} {s : Shared} {x y : Str} {t u : Tok} {Q : Value → Shared → Prop}
theorem fits_len {x : Str} {i : Int} (hx : x.length ≤ 16777216) (h0 : -(x.length : Int) ≤ i) (h1 : i < x.length) : fitsSsize i = true :=
  fitsSsize_of (N := 9223372036854775808) (by omega) (by omega) (Int.le_refl _)
theorem at_tail {value slice : Expr} {i : Int} (hx : x.length ≤ 16777216) (h0 : 0 ≤ i) (h1 : i < x.length) (h : Q (.str ⟨#[at_ x i.toNat]⟩ s.toks) { s with toks := s.toks + 1 })
    (hs : subscripted slice false (.str x t) (.int i u) = operate [.str x t, .int i u] (getItem (.str x t) (.int i u)) := by with_unfolding_all rfl)
    (ht : ∀ r, letTemporaryGo value (.str x t) r = pure () := by intro _; with_unfolding_all rfl) :
    wpAny (model prog w) A (subscriptTail value slice (.str x t) (.int i u)) Q E s :=
  item_str (fits_len hx (by omega) h1) (by omega) h1 (fun _ => by rw [item_nat h0 h1]; exact h) hs ht
theorem last_tail {value slice : Expr} (hx : x.length ≤ 16777216) (h1 : x.length ≠ 0) (h : Q (.str ⟨#[at_ x (x.length - 1)]⟩ s.toks) { s with toks := s.toks + 1 })
    (hs : subscripted slice false (.str x t) (.int (-1) u) = operate [.str x t, .int (-1) u] (getItem (.str x t) (.int (-1) u)) := by with_unfolding_all rfl)
    (ht : ∀ r, letTemporaryGo value (.str x t) r = pure () := by intro _; with_unfolding_all rfl) :
    wpAny (model prog w) A (subscriptTail value slice (.str x t) (.int (-1) u)) Q E s :=
  item_str (by decide) (by omega) (by omega) (fun _ => by rw [item_last h1]; exact h) hs ht
theorem in_one {a : Nat} (h : Q (.bool (decide (a ∈ x.cps.toList))) s) : wpAny (model prog w) A (compareOp .In (.str ⟨#[a]⟩ u) (.str x t)) Q E s := by
  refine in_str ?_
  rw [StrLaws.found_one]; exact h
theorem notin_one {a : Nat} (h : Q (.bool (!decide (a ∈ x.cps.toList))) s) : wpAny (model prog w) A (compareOp .NotIn (.str ⟨#[a]⟩ u) (.str x t)) Q E s := by
  refine notIn_str ?_
  have := StrLaws.found_one x a
  rw [← this] at h
  simpa using h
theorem ne_one {a b : Nat} (h : Q (.bool (decide (a ≠ b))) s) : wpAny (model prog w) A (compareOp .NotEq (.str ⟨#[a]⟩ u) (.str ⟨#[b]⟩ t)) Q E s := by
  refine ne_str ?_
  have : ((⟨#[a]⟩ : Str) != ⟨#[b]⟩) = decide (a ≠ b) := by
    by_cases e : a = b <;> simp [e]
  rw [this]; exact h
theorem eq_one {a b : Nat} (h : Q (.bool (decide (a = b))) s) : wpAny (model prog w) A (compareOp .Eq (.str ⟨#[a]⟩ u) (.str ⟨#[b]⟩ t)) Q E s := by
  refine eq_str ?_
  have : ((⟨#[a]⟩ : Str) == ⟨#[b]⟩) = decide (a = b) := by
    by_cases e : a = b <;> simp [e]
  rw [this]; exact h
end
def Hold (p : Prop) : Prop := p
theorem holdIt {p : Prop} (h : Hold p) : p := h
theorem Hold.mk {p : Prop} (h : p) : Hold p := h
section
variable {prog : Program} {w : World} {A : Around} {E : Value → Shared → Prop} {Q : Flow → Shared → Prop} {s : Shared} {env : Env} {h₀ : Heap} {L : Addr}
/-- a turn's end -/
def WPost (R : Shared → Prop) (Q : Flow → Shared → Prop) (f : Flow) (s₂ : Shared) : Prop := match f with
  | .ret v => Q (.ret v) s₂
  | .brk => Q .next s₂
  | _ => Hold (R s₂)
/-- a while by its word, the turn left standing -/
theorem whileH {σ : Type} {test : Expr} {body : List Stmt} {pos : Pos} {m₀ : Str → Option Value} (Led : σ → List (Addr × Obj)) (ps : σ → List (Str × Value)) (stored : List Str) (P : σ → Prop) (μ : σ → Nat) (c₀ : σ)
    (F : Fr h₀ L s.heap m₀) (N : News h₀ L s.heap (Led c₀)) (hk : ∀ p ∈ ps c₀, m₀ p.1 = some p.2) (hp : P c₀)
    (turn : Hold (∀ (c : σ) (u : Str → Option Value) h tk, P c → Fr h₀ L h (kstB (fun z => if stored.contains z then u z else m₀ z) (ps c)) → News h₀ L h (Led c) →
      wpAny (model prog w) A (isTrue test env (eval test env)) (fun b s₂ =>
        if b = true then wpAny (model prog w) A (execs body env) (WPost (KswEnd h₀ L s Led ps (fun _ => True) stored m₀ P μ c) Q) E s₂ else Q .next s₂) E { s with heap := h, toks := tk }))
    (hE : PassesOwn (model prog w) A env E := by passes_own) :
    wpAny (model prog w) A (exec (.While test body [] pos) env) Q E s := by
  refine ksw_while Led ps (fun _ => True) stored P μ c₀ F N trivial hk hp (fun c u h tk _ hp' F' N' => wpAny_mono (turn c u h tk hp' F' N') (fun b s₂ q => ?_) fun _ _ e => e) hE
  cases b with
  | false => exact q
  | true =>
    simp only [if_true] at q ⊢
    refine wpAny_mono q (fun f s₃ r => ?_) fun _ _ e => e
    cases f <;> exact r
end
section
variable {prog : Program} {w : World} {A : Around} {E : Value → Shared → Prop} {s : Shared} {env : Env} {h₀ : Heap} {x : Str} {body : List Stmt} {Q : Flow → Shared → Prop}
theorem forH {l : Addr} {vs : List Value} {nn : Nat} {m₀ : Str → Option Value} {news : List (Addr × Obj)} (J : Nat → (Str → Option Value) → List (Addr × Obj) → Prop)
    (hh : A.handled = none) (hl : (l, listOf vs.toArray nn) ∈ news) (F : Fr h₀ env.locals s.heap m₀) (N : News h₀ env.locals s.heap news) (hj : J 0 m₀ news)
    (turn : Hold (∀ i v m₁ news₁ h tk own, vs[i]? = some v → OwnOff own (news₁.map (·.1)) → (l, listOf vs.toArray nn) ∈ news₁ → J i m₁ news₁ → Fr h₀ env.locals h (fun y => if y = x then some v else m₁ y) → News h₀ env.locals h (news₁ ++ own) →
      wpAny (model prog w) A (execs body env) (InvPostG h₀ env.locals (fun m' nx => (l, listOf vs.toArray nn) ∈ nx ∧ J (i + 1) m' nx) own { s with heap := h, toks := tk } Q) E { s with heap := h, toks := tk }))
    (done : Hold (∀ m₁ news₁ h tk, J vs.length m₁ news₁ → Fr h₀ env.locals h m₁ → News h₀ env.locals h news₁ → Q .next { s with heap := h, toks := tk })) :
    wpAny (model prog w) A (pyIter (.ref l)) (fun it s₂ => LoopAtV prog w A h₀ env x body Q E it s₂) E s :=
  kdl_iter J hh hl F N hj turn done
end
theorem Fr_over {h₀ h : Heap} {L : Addr} {m₁ : Str → Option Value} (F : Fr h₀ L h m₁) (ps : List (Str × Value)) (h1 : ∀ p ∈ ps, m₁ p.1 = some p.2) : Fr h₀ L h (kstB m₁ ps) := by
  have e : kstB m₁ ps = m₁ := funext fun z => kstB_eq h1 fun _ => rfl
  rw [e]; exact F
theorem Fr_over1 {h₀ h : Heap} {L : Addr} {m₁ : Str → Option Value} {x : Str} {v : Value} (F : Fr h₀ L h (fun y => if y = x then some v else m₁ y)) (ps : List (Str × Value)) (h1 : ∀ p ∈ ps, m₁ p.1 = some p.2) : Fr h₀ L h (fun y => if y = x then some v else kstB m₁ ps y) := by
  have e : kstB m₁ ps = m₁ := funext fun z => kstB_eq h1 fun _ => rfl
  rw [e]; exact F
theorem strs_at {l : List (Str × Tok)} {i : Nat} {v : Value} (h : (strValues l)[i]? = some v) : ∃ ln tl, v = .str ln tl ∧ (l.map (·.1))[i]? = some ln ∧ ln ∈ l.map (·.1) := by
  unfold strValues at h
  rw [List.getElem?_map] at h
  cases e : l[i]? with
  | none => rw [e] at h; cases h
  | some p =>
    rw [e] at h
    cases h
    refine ⟨p.1, p.2, rfl, ?_, List.mem_map.mpr ⟨p, List.mem_of_getElem? e, rfl⟩⟩
    rw [List.getElem?_map, e]; rfl
end Mine
end
section
open PySem PySem.W PyProof.Rows
namespace Mine
def cut (x : Str) (a b : Nat) : Str := ⟨((x.cps.toList.drop a).take (b - a)).toArray⟩
theorem sl_ss {x : Str} {i j : Int} (h0 : 0 ≤ i) (h1 : i ≤ j) (h2 : j ≤ x.length) : Txt.slice x (some i) (some j) = cut x i.toNat j.toNat := by
  have h := slice_closesL h0 h1 h2
  have e := eq_of_beq h
  rw [e]
  have : (j - i).toNat = j.toNat - i.toNat := by omega
  rw [this]; rfl
theorem sl_sn {x : Str} {i : Int} (h0 : 0 ≤ i) (h2 : i ≤ x.length) : Txt.slice x (some i) none = cut x i.toNat x.length := by
  rw [slice_from_eq h0 h2 rfl]
  have : ((x.length : Int) - i).toNat = x.length - i.toNat := by omega
  rw [this]; rfl
theorem sl_neg {x : Str} {a : Option Int} (h2 : x.length ≠ 0) : Txt.slice x a (some (-1)) = Txt.slice x a (some ((x.length : Int) - 1)) := by
  unfold Txt.slice Builtin.Str.strSliceIndices
  have e1 : ((-1 : Int) < 0) := by omega
  have e2 : ¬ ((x.length : Int) - 1 < 0) := by omega
  have e3 : (-1 : Int) + (x.length : Int) = (x.length : Int) - 1 := by omega
  simp only [if_pos e1, if_neg e2, e3]
theorem sl_nn1 {x : Str} (h2 : x.length ≠ 0) : Txt.slice x none (some (-1)) = cut x 0 (x.length - 1) := by
  rw [sl_neg h2]
  have h := slice_closes_toL (x := x) (j := (x.length : Int) - 1) (by omega) (by omega)
  have e := eq_of_beq h
  rw [e]
  have : ((x.length : Int) - 1 - 0).toNat = x.length - 1 - 0 := by omega
  rw [this]; rfl
theorem sl_sn1 {x : Str} {i : Int} (h0 : 0 ≤ i) (h1 : i < x.length) : Txt.slice x (some i) (some (-1)) = cut x i.toNat (x.length - 1) := by
  rw [sl_neg (by omega), sl_ss h0 (by omega) (by omega)]
  have : ((x.length : Int) - 1).toNat = x.length - 1 := by omega
  rw [this]
theorem slice3 {r : Str} {i : Nat} (h : i + 2 < r.length) : Txt.slice r (some (i : Int)) (some ((i : Int) + 3)) = ⟨#[at_ r i, at_ r (i + 1), at_ r (i + 2)]⟩ := by
  rw [sl_ss (by omega) (by omega) (by omega)]
  unfold cut
  have e1 : ((i : Int)).toNat = i := by omega
  have e2 : ((i : Int) + 3).toNat = i + 3 := by omega
  rw [e1, e2, drop_at (by omega : i < r.length), drop_at (by omega : i + 1 < r.length), drop_at (by omega : i + 1 + 1 < r.length)]
  have e3 : i + 3 - i = 3 := by omega
  rw [e3]; rfl
theorem slice61 {r : Str} {i : Nat} (h : i + 2 < r.length) (ha : at_ r i = 61) : Txt.slice r (some (i : Int)) (some ((i : Int) + 3)) = ⟨#[61, at_ r (i + 1), at_ r (i + 2)]⟩ := by
  rw [slice3 h, ha]
end Mine
end
section
open PySem PySem.W PyProof.Rows
namespace Mine
/-- the line cut at its soft breaks -/
def brk (m : Nat) (x : Str) : Nat → Nat → List Str → List Str × Nat
  | 0, s, p => (p, s)
  | f + 1, s, p => if s + m + 1 ≤ x.length then
      (if at_ x (s + m - 3) = 61 then brk m x f (s + m - 3) (p ++ [cut x s (s + m - 2)])
       else if at_ x (s + m - 2) = 61 then brk m x f (s + m - 2) (p ++ [cut x s (s + m - 1)])
       else brk m x f (s + m - 1) (p ++ [cut x s (s + m - 1) ++ Str.ofString "="])) else (p, s)
def quo (c : Nat) : Str := if c = 32 then Str.ofString "=20" else Str.ofString "=09"
def soft : Str := Str.ofString "=" ++ Str.ofString "\n"
def lastP (m : Nat) (x : Str) (s : Nat) : Str :=
  if x.length ≠ 0 ∧ (at_ x (x.length - 1) = 32 ∨ at_ x (x.length - 1) = 9) then
    cut x s (x.length - 1) ++ (if x.length + 2 ≤ s + m then quo (at_ x (x.length - 1)) else if x.length + 1 = s + m then (⟨#[at_ x (x.length - 1)]⟩ : Str) ++ soft else soft ++ quo (at_ x (x.length - 1)))
  else cut x s x.length
def lineP (m : Nat) (x : Str) : List Str := (brk m x (x.length + 1) 0 []).1 ++ [lastP m x (brk m x (x.length + 1) 0 []).2]
structure BP (m : Nat) (x : Str) (p0 : List Str) (s : Nat) (ps : List (Str × Tok)) : Prop where
  lt : s = 0 ∨ s < x.length
  ex : ∃ f p, ps.map (·.1) = p0 ++ p ∧ x.length < f + s ∧ brk m x (x.length + 1) 0 [] = brk m x f s p ∧ p.length ≤ s
theorem BP.start {m : Nat} {x : Str} {ps : List (Str × Tok)} : BP m x (ps.map (·.1)) 0 ps := ⟨.inl rfl, x.length + 1, [], by simp, by omega, rfl, Nat.zero_le _⟩
theorem BP.le {m s : Nat} {x : Str} {p0 : List Str} {ps : List (Str × Tok)} (h : BP m x p0 s ps) : s ≤ x.length := by
  rcases h.lt with e | e <;> omega
section
variable {m s : Nat} {x : Str} {p0 : List Str} {ps : List (Str × Tok)} {t : Tok}
theorem BP.a (h : BP m x p0 s ps) (hm : 4 ≤ m) (h1 : s + m + 1 ≤ x.length) (h2 : at_ x (s + m - 3) = 61) : BP m x p0 (s + m - 3) (ps ++ [(cut x s (s + m - 2), t)]) := by
  obtain ⟨_, f, p, e1, e2, e3, e4⟩ := h
  refine ⟨.inr (by omega), f - 1, p ++ [cut x s (s + m - 2)], by rw [List.map_append, e1, List.append_assoc]; rfl, by omega, ?_, by rw [List.length_append]; simp; omega⟩
  rw [e3]
  obtain ⟨g, rfl⟩ : ∃ g, f = g + 1 := ⟨f - 1, by omega⟩
  rw [brk, if_pos h1, if_pos h2]; rfl
theorem BP.b (h : BP m x p0 s ps) (hm : 4 ≤ m) (h1 : s + m + 1 ≤ x.length) (h2 : at_ x (s + m - 3) ≠ 61) (h3 : at_ x (s + m - 2) = 61) : BP m x p0 (s + m - 2) (ps ++ [(cut x s (s + m - 1), t)]) := by
  obtain ⟨_, f, p, e1, e2, e3, e4⟩ := h
  refine ⟨.inr (by omega), f - 1, p ++ [cut x s (s + m - 1)], by rw [List.map_append, e1, List.append_assoc]; rfl, by omega, ?_, by rw [List.length_append]; simp; omega⟩
  rw [e3]
  obtain ⟨g, rfl⟩ : ∃ g, f = g + 1 := ⟨f - 1, by omega⟩
  rw [brk, if_pos h1, if_neg h2, if_pos h3]; rfl
theorem BP.c (h : BP m x p0 s ps) (hm : 4 ≤ m) (h1 : s + m + 1 ≤ x.length) (h2 : at_ x (s + m - 3) ≠ 61) (h3 : at_ x (s + m - 2) ≠ 61) : BP m x p0 (s + m - 1) (ps ++ [(cut x s (s + m - 1) ++ Str.ofString "=", t)]) := by
  obtain ⟨_, f, p, e1, e2, e3, e4⟩ := h
  refine ⟨.inr (by omega), f - 1, p ++ [cut x s (s + m - 1) ++ Str.ofString "="], by rw [List.map_append, e1, List.append_assoc]; rfl, by omega, ?_, by rw [List.length_append]; simp; omega⟩
  rw [e3]
  obtain ⟨g, rfl⟩ : ∃ g, f = g + 1 := ⟨f - 1, by omega⟩
  rw [brk, if_pos h1, if_neg h2, if_neg h3]; rfl
theorem BP.count (h : BP m x p0 s ps) : ps.length ≤ p0.length + x.length := by
  have hle := h.le
  obtain ⟨h0, f, p, e1, e2, e3, e4⟩ := h
  have := congrArg List.length e1
  rw [List.length_map, List.length_append] at this
  omega
theorem BP.fin {y : Str} (h : BP m x p0 s ps) (h1 : ¬ s + m + 1 ≤ x.length) (hy : y = lastP m x s) : (ps ++ [(y, t)]).map (·.1) = p0 ++ lineP m x := by
  obtain ⟨h0, f, p, e1, e2, e3, e4⟩ := h
  have e : brk m x f s p = (p, s) := by
    cases f with
    | zero => rfl
    | succ f => rw [brk, if_neg h1]
  unfold lineP
  rw [e3, e, hy, List.map_append, e1, List.append_assoc]; rfl
end
section
variable {m s : Nat} {x : Str} {p0 : List Str} {ps : List (Str × Tok)} {t : Tok}
theorem BP.a' (h : BP m x p0 s ps) (hm : 4 ≤ m) (h1 : s + m + 1 ≤ x.length) (h2 : at_ x ((s : Int) + ((m : Int) - 1) - 2).toNat = 61) : BP m x p0 (s + m - 3) (ps ++ [(Txt.slice x (some (s : Int)) (some ((s : Int) + ((m : Int) - 1) - 1)), t)]) := by
  rw [sl_ss (by omega) (by omega) (by omega)]
  have e1 : ((s : Int)).toNat = s := by omega
  have e2 : ((s : Int) + ((m : Int) - 1) - 1).toNat = s + m - 2 := by omega
  have e3 : ((s : Int) + ((m : Int) - 1) - 2).toNat = s + m - 3 := by omega
  rw [e1, e2]
  rw [e3] at h2
  exact h.a hm h1 h2
theorem BP.b' (h : BP m x p0 s ps) (hm : 4 ≤ m) (h1 : s + m + 1 ≤ x.length) (h2 : at_ x ((s : Int) + ((m : Int) - 1) - 2).toNat ≠ 61) (h3 : at_ x ((s : Int) + ((m : Int) - 1) - 1).toNat = 61) : BP m x p0 (s + m - 2) (ps ++ [(Txt.slice x (some (s : Int)) (some ((s : Int) + ((m : Int) - 1))), t)]) := by
  rw [sl_ss (by omega) (by omega) (by omega)]
  have e1 : ((s : Int)).toNat = s := by omega
  have e2 : ((s : Int) + ((m : Int) - 1) - 1).toNat = s + m - 2 := by omega
  have e3 : ((s : Int) + ((m : Int) - 1) - 2).toNat = s + m - 3 := by omega
  have e4 : ((s : Int) + ((m : Int) - 1)).toNat = s + m - 1 := by omega
  rw [e1, e4]
  rw [e3] at h2
  rw [e2] at h3
  exact h.b hm h1 h2 h3
theorem BP.c' (h : BP m x p0 s ps) (hm : 4 ≤ m) (h1 : s + m + 1 ≤ x.length) (h2 : at_ x ((s : Int) + ((m : Int) - 1) - 2).toNat ≠ 61) (h3 : at_ x ((s : Int) + ((m : Int) - 1) - 1).toNat ≠ 61) : BP m x p0 (s + m - 1) (ps ++ [(Txt.slice x (some (s : Int)) (some ((s : Int) + ((m : Int) - 1))) ++ Str.ofString "=", t)]) := by
  rw [sl_ss (by omega) (by omega) (by omega)]
  have e1 : ((s : Int)).toNat = s := by omega
  have e2 : ((s : Int) + ((m : Int) - 1) - 1).toNat = s + m - 2 := by omega
  have e3 : ((s : Int) + ((m : Int) - 1) - 2).toNat = s + m - 3 := by omega
  have e4 : ((s : Int) + ((m : Int) - 1)).toNat = s + m - 1 := by omega
  rw [e1, e4]
  rw [e3] at h2
  rw [e2] at h3
  exact h.c hm h1 h2 h3
theorem last_no (hs : s ≤ x.length) (h : x.length = 0 ∨ ¬ (at_ x (x.length - 1) = 32 ∨ at_ x (x.length - 1) = 9)) : Txt.slice x (some (s : Int)) none = lastP m x s := by
  rw [sl_sn (by omega) (by omega)]
  unfold lastP
  rw [if_neg (by rintro ⟨q1, q2⟩; rcases h with h | h; exact q1 h; exact h q2)]
  rfl
theorem last_3 (hs : s = 0 ∨ s < x.length) (hx : x.length ≠ 0) (h : at_ x (x.length - 1) = 32 ∨ at_ x (x.length - 1) = 9) (r : x.length + 2 ≤ s + m) :
    Txt.slice x (some (s : Int)) (some (-1)) ++ quo (at_ x (x.length - 1)) = lastP m x s := by
  rw [sl_sn1 (by omega) (by omega)]
  unfold lastP
  rw [if_pos ⟨hx, h⟩, if_pos r]
  rfl
theorem last_2 (hs : s = 0 ∨ s < x.length) (hx : x.length ≠ 0) (h : at_ x (x.length - 1) = 32 ∨ at_ x (x.length - 1) = 9) (r : x.length + 1 = s + m) :
    Txt.slice x (some (s : Int)) (some (-1)) ++ ((⟨#[at_ x (x.length - 1)]⟩ : Str) ++ soft) = lastP m x s := by
  rw [sl_sn1 (by omega) (by omega)]
  unfold lastP
  rw [if_pos ⟨hx, h⟩, if_neg (by omega), if_pos r]
  rfl
theorem last_1 (hs : s = 0 ∨ s < x.length) (hx : x.length ≠ 0) (h : at_ x (x.length - 1) = 32 ∨ at_ x (x.length - 1) = 9) (r1 : ¬ x.length + 2 ≤ s + m) (r : ¬ x.length + 1 = s + m) :
    Txt.slice x (some (s : Int)) (some (-1)) ++ (soft ++ quo (at_ x (x.length - 1))) = lastP m x s := by
  rw [sl_sn1 (by omega) (by omega)]
  unfold lastP
  rw [if_pos ⟨hx, h⟩, if_neg r1, if_neg r]
  rfl
end
theorem len_soft : soft.length = 2 := by decide +kernel
theorem len_eqs : (Str.ofString "=").length = 1 := by decide +kernel
theorem len_quo (c : Nat) : (quo c).length = 3 := by unfold quo; split <;> decide +kernel
theorem take_more2 {m : Nat} {ls : List Str} {i : Nat} {ln : Str} (h : ls[i]? = some ln) : (ls.take (i + 1)).flatMap (lineP m) = (ls.take i).flatMap (lineP m) ++ lineP m ln := by
  rw [List.take_add_one, h]; simp
def bencT (x : Str) : Str := ⟨(x.cps.toList.flatMap enc1).toArray⟩
def benc (m : Nat) (x : Str) : Str := Txt.join (Str.ofString "\n") ((Txt.lines (bencT x)).flatMap (lineP m))
end Mine
end
section
open PySem PySem.W PyProof.Rows
namespace Mine
/-- quotedata, as it reckons -/
def quoted (x : Array Nat) : Array Nat := (subF (cond1 x) [46, 46] x x.size 0).toArray
def fixed (x : Array Nat) : Array Nat := (subF (cond3 x) [13, 10] x x.size 0).toArray
def decL (l : Str) : List Nat := let r := (Txt.rstrip l).cps.toList; if r.isEmpty then [10] else decT r
/-- decode, as it reckons -/
def decD (x : Str) : Str := ⟨((Txt.lines x).flatMap decL).toArray⟩
def decS (x : Str) : Str :=
  if (Builtin.Str.occurrences (Str.ofString "\x0d\n") (Txt.item x (-1)) 0 (Str.ofString "\x0d\n").length 1).isEmpty = true then
    (if Txt.endswith (decD x) (Str.ofString "\n") = true then Txt.slice (decD x) none (some (-1)) else decD x) else decD x
/-- a man's line -/
def lineM (ss : List Str) (b l : Nat) (r : List Int) : Str := Txt.mul (Str.ofString ".") ((l : Int) + 1 - r.getD (r.length - b) 0) ++ ss.getD (r.getD 0 0).toNat Str.empty
def rowOk (ss : List Str) (b l : Nat) (r : List Int) : Prop := 1 ≤ b ∧ b ≤ r.length ∧ r.length ≤ 1000 ∧ 0 ≤ r.getD 0 0 ∧ r.getD 0 0 < ss.length ∧ 0 ≤ r.getD (r.length - b) 0 ∧ r.getD (r.length - b) 0 ≤ l ∧ l ≤ 1000
def mailM (ss : List Str) (b l : Nat) (rows : List (List Int)) : Str := Txt.join (Str.ofString "\n") (rows.map (lineM ss b l))
/-- the ring and who went out, after k calls -/
def jos (men step : Nat) : Nat → List (List Int) × List (List Int)
  | 0 => ((List.range men).map (fun (i : Nat) => [(i : Int)]), [])
  | k + 1 => match jos men step k with
    | ([], g) => ([], g)
    | (r :: rest, g) => if (k + 1) % step = 0 then (rest, g ++ [r ++ [((k + 1 : Nat) : Int)]]) else (rest ++ [r ++ [((k + 1 : Nat) : Int)]], g)
theorem jos_ne : ∀ men ∈ [3, 4, 5, 6], ∀ step ∈ [4, 5, 6, 7], ∀ k ∈ List.range (men * step), (jos men step k).1 ≠ [] := by decide +kernel
theorem jos_len : ∀ men ∈ [3, 4, 5, 6], ∀ step ∈ [4, 5, 6, 7], ∀ k ∈ List.range (men * step), ∀ r ∈ (jos men step k).1, r.length ≤ 50 := by decide +kernel
theorem jos_cnt : ∀ men ∈ [3, 4, 5, 6], ∀ step ∈ [4, 5, 6, 7], ∀ k ∈ List.range (men * step), (jos men step k).1.length ≤ 6 ∧ (jos men step k).2.length ≤ 6 := by decide +kernel
end Mine
end
section
open PySem PySem.W PyProof.Rows
namespace Mine
set_option maxRecDepth 1000000
set_option maxHeartbeats 0
/-- the text -/
noncomputable abbrev txt : Program := PySem.Challenge.pw_ny0173_01
noncomputable abbrev tbQ : String → Option Builtin := PySem.W.Fast.tw14364793385576792824
theorem tbQ_eq : treeTable = tbQ := PySem.W.Fast.te14364793385576792824
noncomputable abbrev goQ := PySem.W.Fast.tw10295753902157049106
noncomputable abbrev runQ := PySem.W.Fast.tw10110043849684766642
noncomputable abbrev denQ := PySem.W.Fast.tw11892475500146522536
noncomputable abbrev exsQ := PySem.W.Fast.tw12563942051412417395
theorem goQ_eq : segGoT = goQ := PySem.W.Fast.te10295753902157049106
theorem runQ_eq : segRunT = runQ := PySem.W.Fast.te10110043849684766642
theorem denQ_eq : denote = denQ := PySem.W.Fast.te11892475500146522536
theorem exsQ_eq : execs = exsQ := PySem.W.Fast.te12563942051412417395
/- the opening -/
noncomputable def open0 (w : World) : Option Shared := (PySem.W.Fast.tw10274390034422433532 tbQ (opening txt) w 40000 (PySem.W.Fast.tw1435165496053646825 (opening txt)).1 (PySem.W.Fast.tw1435165496053646825 (opening txt)).2).bind (PySem.W.Fast.tw14289696077712309145 txt)
theorem open0_eq (w : World) : fencedOpening treeTable txt w 40000 = open0 w := by
  unfold fencedOpening open0
  rw [tbQ_eq, PySem.W.Fast.te10274390034422433532, PySem.W.Fast.te1435165496053646825, PySem.W.Fast.te14289696077712309145]
noncomputable def s0 (w : World) : Shared := (open0 w).getD {}
theorem some_of {α : Type} {x : Option α} {d : α} (h : x.isSome = true) : x = some (x.getD d) := by
  cases x with
  | none => cases h
  | some a => rfl
theorem open0_some (w : World) : open0 w = some (s0 w) := some_of (by kernel_rfl)
/- a tree of its objects -/
def mkT : List Obj → Nat → BT → BT
  | [], _, t => t
  | o :: l, n, t => mkT l (n + 1) (t.ins n o)
def toT (s : Shared) : SharedT := ⟨mkT s.heap.objs.toList 0 .nil, s.heap.objs.size, s.heap.life, s.gens, s.drawn, s.toks, s.os⟩
noncomputable abbrev envM : Env := { scope := txt.main.scope, locals := mainNs, globals := mainNs, cells := [], code := .ref 30, frame := some 31 }
noncomputable abbrev bM : List Stmt := behindTheImports txt
noncomputable abbrev cM : Code := .body bM envM
abbrev pos0 : Pos := ⟨0, 0, 0, 0⟩
abbrev ann0 : Option Value := some (.ref 6)
noncomputable abbrev tgoQ := PySem.W.Fast.tw15667345088766844465
theorem tgoQ_eq : topGo = tgoQ := PySem.W.Fast.te15667345088766844465
noncomputable def preR (w : World) : Option (Shared × Thread) := tgoQ tbQ txt w 28 ann0 12 (s0 w) (topStub txt)
noncomputable def sa (w : World) : Shared := (preR w).elim {} (·.1)
theorem preR_is (w : World) : preR w = some (sa w, ⟨denQ tbQ cM, cM, pos0, [topFrame pos0]⟩) := by kernel_rfl
noncomputable def ta (w : World) : SharedT := toT (sa w)
theorem ta_abs (w : World) : (ta w).abs = sa w := by kernel_rfl
theorem ta_os (w : World) : (ta w).n = 32 := by kernel_rfl
theorem sa_toks (w : World) : (sa w).toks = 282 := by kernel_rfl
/- the text's statements -/
noncomputable abbrev stm (i n : Nat) : List Stmt := (bM.drop i).take n
noncomputable abbrev thM (l : List Stmt) (p : Pos) : Thread := ⟨(exsQ l envM).wrap doneF deadEnd id id, cM, p, [topFrame pos0]⟩
theorem thM_eq (l : List Stmt) (p : Pos) : piecesOf l envM cM p [topFrame pos0] = thM l p := by
  unfold piecesOf thM
  rw [exsQ_eq]
noncomputable def r10 (w : World) : Option (Flow × SharedT × Code × Pos) := runQ tbQ txt w 28 ann0 1 400 (ta w) (thM (stm 0 10) pos0)
noncomputable def t10 (w : World) : SharedT := (r10 w).elim (ta w) (·.2.1)
abbrev pos10 : Pos := ⟨14, 0, 14, 2⟩
theorem r10_is (w : World) : r10 w = some (.next, t10 w, cM, pos10) := by kernel_rfl
theorem t10_n (w : World) : ((t10 w).n, (t10 w).toks) = (68, 385) := by kernel_rfl
end Mine
end
section
open PySem PySem.W PyProof.Rows
namespace Mine
set_option maxRecDepth 1000000
set_option maxHeartbeats 0
def bL : BT → BT
  | .node _ l _ => l
  | _ => .nil
def bR : BT → BT
  | .node _ _ r => r
  | _ => .nil
def bV : BT → Obj
  | .node v _ _ => v
  | _ => default
/-- a tree with one object set, along its way -/
def put : List Bool → BT → Obj → BT
  | [], T, o => .node o (bL T) (bR T)
  | true :: p, T, o => .node (bV T) (put p (bL T) o) (bR T)
  | false :: p, T, o => .node (bV T) (bL T) (put p (bR T) o)
/- the table -/
def itemA (n : Nat) : Value := .str ⟨#[61, hexU (n / 16), hexU (n % 16)]⟩ (391 + 4 * n)
def tabA : Nat → Array Value
  | 0 => #[]
  | n + 1 => (tabA n).push (itemA n)
noncomputable def e10 : PySem.Expr := match stm 10 1 with
  | [.Assign _ e _] => e
  | _ => .Name Str.empty pos0
noncomputable def sc10 : Scope := match e10 with
  | .ListComp _ _ s _ => s
  | _ => envM.scope
noncomputable def c10 : Code := .compLoop e10 0 (.ref 69) (.ref 70) (compEnvC sc10 [] 71 envM)
abbrev q69 : List Bool := [true, false, false, true, true, true]
abbrev q70 : List Bool := [false, false, false, true, true, true]
abbrev q71 : List Bool := [true, true, true, false, true, true]
def oI (i : Nat) : Obj := { cls := .type "range_iterator", data := .fields #[.int (i : Int) 0, .int ((256 - i : Nat) : Int) 0, .int 1 0] }
def oD (i : Nat) : Obj := { cls := .type "list", data := .seq (tabA i) i }
def oC (P : Params) : Nat → Obj
  | 0 => { cls := .type "dict", data := .dict #[] 0 }
  | i + 1 => { cls := .type "dict", data := .dict #[{ hash := PyData.keyHash P (Str.ofString "c"), key := .str (Str.ofString "c") 389, val := .int (i : Int) (388 + 4 * i) }] 1 }
def h10 (P : Params) (T : BT) (os : OsState) (i : Nat) : SharedT := ⟨put q71 (put q70 (put q69 T (oI i)) (oD i)) (oC P i), 72, {}, #[], {}, 388 + 4 * i, os⟩
def p10 : Nat → Pos
  | 0 => ⟨15, 36, 15, 46⟩
  | _ => ⟨15, 15, 15, 26⟩
noncomputable def th10 (i : Nat) (k : Result → Sem PySem.Fin) (h : Option Value) (g : Bool) (l : List Value) (cd : Code) (p : Pos) (kept : List Value) : Thread :=
  ⟨denQ tbQ c10, c10, p10 i, [.ret k h g l cd p kept, topFrame pos0]⟩
abbrev Turn10 (i m : Nat) : Prop := ∀ (w : World) (T : BT) (os : OsState) (k : Result → Sem PySem.Fin) (h : Option Value) (g : Bool) (l : List Value) (cd : Code) (p : Pos) (kept : List Value),
  goQ tbQ txt w 28 ann0 1 (37 * m) (h10 w.params T os i) (th10 i k h g l cd p kept) = some (h10 w.params T os (i + m), th10 (i + m) k h g l cd p kept)
theorem turn10_0 : Turn10 0 16 := by intro w T os k h g l cd p kept; kernel_rfl
theorem turn10_16 : Turn10 16 16 := by intro w T os k h g l cd p kept; kernel_rfl
theorem turn10_32 : Turn10 32 16 := by intro w T os k h g l cd p kept; kernel_rfl
theorem turn10_48 : Turn10 48 16 := by intro w T os k h g l cd p kept; kernel_rfl
theorem turn10_64 : Turn10 64 16 := by intro w T os k h g l cd p kept; kernel_rfl
theorem turn10_80 : Turn10 80 16 := by intro w T os k h g l cd p kept; kernel_rfl
theorem turn10_96 : Turn10 96 16 := by intro w T os k h g l cd p kept; kernel_rfl
theorem turn10_112 : Turn10 112 16 := by intro w T os k h g l cd p kept; kernel_rfl
theorem turn10_128 : Turn10 128 16 := by intro w T os k h g l cd p kept; kernel_rfl
theorem turn10_144 : Turn10 144 16 := by intro w T os k h g l cd p kept; kernel_rfl
theorem turn10_160 : Turn10 160 16 := by intro w T os k h g l cd p kept; kernel_rfl
theorem turn10_176 : Turn10 176 16 := by intro w T os k h g l cd p kept; kernel_rfl
theorem turn10_192 : Turn10 192 16 := by intro w T os k h g l cd p kept; kernel_rfl
theorem turn10_208 : Turn10 208 16 := by intro w T os k h g l cd p kept; kernel_rfl
theorem turn10_224 : Turn10 224 16 := by intro w T os k h g l cd p kept; kernel_rfl
theorem turn10_240 : Turn10 240 16 := by intro w T os k h g l cd p kept; kernel_rfl
theorem go_cat {tb : String → Option Builtin} {p : Program} {w : World} {n₀ : Nat} {ann : Option Value} {b : Nat} : ∀ {n m : Nat} {s s' s'' : SharedT} {t t' t'' : Thread}, segGoT tb p w n₀ ann b n s t = some (s', t') → segGoT tb p w n₀ ann b m s' t' = some (s'', t'') → segGoT tb p w n₀ ann b (n + m) s t = some (s'', t'')
  | 0, m, s, s', s'', t, t', t'', h, k => by
    obtain ⟨rfl, rfl⟩ : s = s' ∧ t = t' := by simpa [segGoT] using h
    rw [Nat.zero_add]; exact k
  | n + 1, m, s, s', s'', t, t', t'', h, k => by
    rw [show n + 1 + m = n + m + 1 by omega]
    unfold segGoT at h ⊢
    revert h
    split
    · intro h; cases h
    · split
      · intro h; cases h
      · split
        · intro h
          exact go_cat h k
        · intro h; cases h
theorem Turn10.cat {i m j : Nat} (a : Turn10 i m) (b : Turn10 (i + m) j) : Turn10 i (m + j) := by
  intro w T os k h g l cd p kept
  have h1 := a w T os k h g l cd p kept
  have h2 := b w T os k h g l cd p kept
  rw [← goQ_eq] at h1 h2 ⊢
  have := go_cat h1 h2
  rw [Nat.mul_add, ← Nat.add_assoc i m j]
  exact this
theorem turns10 : Turn10 0 256 :=
  (((((((((((((((turn10_0.cat turn10_16).cat turn10_32).cat turn10_48).cat turn10_64).cat turn10_80).cat turn10_96).cat turn10_112).cat turn10_128).cat turn10_144).cat turn10_160).cat turn10_176).cat turn10_192).cat turn10_208).cat turn10_224).cat turn10_240)
end Mine
end
section
open PySem PySem.W PyProof.Rows
namespace Mine
set_option maxRecDepth 1000000
set_option maxHeartbeats 0
abbrev row1 : String := "comprehension-iter-twice"
abbrev row2 : String := "special-get-raises"
def n10 (w : World) : Nat := if w.params.followText row1 = true then 42 else 52
noncomputable def g10 (w : World) : Option (SharedT × Thread) := goQ tbQ txt w 28 ann0 1 (n10 w) (t10 w) (thM (stm 10 1) pos10)
noncomputable def T10 (w : World) : BT := (g10 w).elim .nil (·.1.tree)
noncomputable def F10 (w : World) : List Frame := (g10 w).elim [] (·.2.stack)
def frK : List Frame → (Result → Sem PySem.Fin)
  | .ret k _ _ _ _ _ _ :: _ => k
  | _ => fun _ => .pure (.done .next)
def frH : List Frame → Option Value
  | .ret _ h _ _ _ _ _ :: _ => h
  | _ => none
def frG : List Frame → Bool
  | .ret _ _ g _ _ _ _ :: _ => g
  | _ => false
def frL : List Frame → List Value
  | .ret _ _ _ l _ _ _ :: _ => l
  | _ => []
def frC : List Frame → Code
  | .ret _ _ _ _ c _ _ :: _ => c
  | _ => .builtin "" {}
def frP : List Frame → Pos
  | .ret _ _ _ _ _ p _ :: _ => p
  | _ => pos0
def frE : List Frame → List Value
  | .ret _ _ _ _ _ _ e :: _ => e
  | _ => []
noncomputable abbrev th10F (i : Nat) (F : List Frame) : Thread := th10 i (frK F) (frH F) (frG F) (frL F) (frC F) (frP F) (frE F)
abbrev Start10 (w : World) : Prop := g10 w = some (h10 w.params (T10 w) (t10 w).os 0, th10F 0 (F10 w))
noncomputable abbrev wf (w : World) (a b : Bool) : World := (w.withFollow row2 b).withFollow row1 a
theorem start10 (w : World) : (Start10 (wf w false false) ∧ Start10 (wf w false true)) ∧ (Start10 (wf w true false) ∧ Start10 (wf w true true)) := ⟨⟨by kernel_rfl, by kernel_rfl⟩, ⟨by kernel_rfl, by kernel_rfl⟩⟩
/-- a name more in a namespace -/
def dput (P : Params) (nm : Str) (tk : Nat) (v : Value) : Obj → Obj
  | ⟨c, d, .dict es n, sl⟩ => ⟨c, d, .dict (es.push ⟨PyData.keyHash P nm, .str nm tk, v⟩) (n + 1), sl⟩
  | o => o
def o68 : Obj := { cls := .type "range", data := .fields #[.int 0 386, .int 256 385, .int 1 387] }
def oN (n : Nat) : Obj := { cls := .type "dict", data := .dict #[] n }
def oT : Obj := { cls := .type "tuple", data := .seq #[] }
def oS (a : Addr) : Obj := { cls := .type "StopIteration", data := .fields #[.ref a, .none, .none, .none, .bool false, .none] }
noncomputable def t11 (w : World) : SharedT := ⟨((((((((t10 w).tree.ins 68 o68).ins 69 (oI 256)).ins 70 (oD 256)).ins 71 (oN 2)).ins 72 oT).ins 73 (oS 72)).set 3 (dput w.params (Str.ofString "_QUOPRI_MAP") 1412 (.ref 70))), 74, {}, #[], {}, 1413, (t10 w).os⟩
abbrev pos11 : Pos := ⟨15, 0, 15, 11⟩
abbrev End10 (w : World) : Prop := runQ tbQ txt w 28 ann0 1 60 (h10 w.params (T10 w) (t10 w).os 256) (th10F 256 (F10 w)) = some (.next, t11 w, cM, pos11)
theorem end10 (w : World) : (End10 (wf w false false) ∧ End10 (wf w false true)) ∧ (End10 (wf w true false) ∧ End10 (wf w true true)) := ⟨⟨by kernel_rfl, by kernel_rfl⟩, ⟨by kernel_rfl, by kernel_rfl⟩⟩
theorem byWf {P : World → Prop} (h : ∀ w, (P (wf w false false) ∧ P (wf w false true)) ∧ (P (wf w true false) ∧ P (wf w true true))) : ∀ w, P w :=
  byRow2 row1 (P := P) (byRow2 row2 (P := fun w => P (w.withFollow row1 false)) (fun w => (h w).1.1) (fun w => (h w).1.2)) (byRow2 row2 (P := fun w => P (w.withFollow row1 true)) (fun w => (h w).2.1) (fun w => (h w).2.2))
theorem start10' : ∀ w, Start10 w := byWf start10
theorem end10' : ∀ w, End10 w := byWf end10
theorem run_cat {tb : String → Option Builtin} {p : Program} {w : World} {n₀ : Nat} {ann : Option Value} {b : Nat} : ∀ {n N : Nat} {s s' : SharedT} {t t' : Thread} {r : Flow × SharedT × Code × Pos}, segGoT tb p w n₀ ann b n s t = some (s', t') → segRunT tb p w n₀ ann b N s' t' = some r → segRunT tb p w n₀ ann b (n + N) s t = some r
  | 0, N, s, s', t, t', r, h, k => by
    obtain ⟨rfl, rfl⟩ : s = s' ∧ t = t' := by simpa [segGoT] using h
    rw [Nat.zero_add]; exact k
  | n + 1, N, s, s', t, t', r, h, k => by
    rw [show n + 1 + N = n + N + 1 by omega]
    unfold segGoT at h
    unfold segRunT
    revert h
    split
    · intro h; cases h
    · split
      · intro h; cases h
      · split
        · intro h
          exact run_cat h k
        · intro h; cases h
theorem run10 (w : World) : ∃ n, n ≤ 9999 ∧ segRunT treeTable txt w 28 ann0 1 n (t10 w) (thM (stm 10 1) pos10) = some (.next, t11 w, cM, pos11) := by
  have h1 : g10 w = _ := start10' w
  have h2 := turns10 w (T10 w) (t10 w).os (frK (F10 w)) (frH (F10 w)) (frG (F10 w)) (frL (F10 w)) (frC (F10 w)) (frP (F10 w)) (frE (F10 w))
  have h3 : _ = _ := end10' w
  unfold g10 at h1
  rw [← goQ_eq] at h1 h2
  rw [← runQ_eq] at h3
  refine ⟨n10 w + (37 * 256 + 60), ?_, ?_⟩
  · unfold n10; split <;> omega
  · rw [tbQ_eq]
    exact run_cat h1 (run_cat h2 h3)
end Mine
end
section
open PySem PySem.W PyProof.Rows
namespace Mine
set_option maxRecDepth 1000000
set_option maxHeartbeats 0
noncomputable def r19 (w : World) : Option (Flow × SharedT × Code × Pos) := runQ tbQ txt w 28 ann0 1 200 (t11 w) (thM (stm 11 8) pos11)
noncomputable def t19 (w : World) : SharedT := (r19 w).elim (t11 w) (·.2.1)
abbrev pos19 : Pos := ⟨23, 0, 23, 8⟩
theorem r19_is (w : World) : r19 w = some (.next, t19 w, cM, pos19) := by kernel_rfl
theorem t19_0 (w : World) : (bV (t19 w).tree, (t19 w).n, (t19 w).toks) = (boot_o_0 w.params, 78, 1430) := by kernel_rfl
def en (P : Params) (nm : String) (tk : Nat) (v : Value) : DictEntry := ⟨PyData.keyHash P (Str.ofString nm), .str (Str.ofString nm) tk, v⟩
def g19 (P : Params) : Array DictEntry := #[
  en P "__name__" 165 (Value.str (Str.ofString "cpy313.email.quoprimime") 1428),
  en P "__doc__" 166 (Value.none),
  en P "__package__" 167 (Value.none),
  en P "__loader__" 168 (Value.builtin "__main__.__loader__#opaque"),
  en P "__spec__" 169 (Value.none),
  en P "__annotations__" 170 (Value.ref 6),
  en P "__builtins__" 171 (Value.ref 4),
  en P "__file__" 173 (Value.str (Str.ofString "/claim/cut.py") 172),
  en P "__cached__" 174 (Value.none),
  en P "_sre" 275 (Value.ref 12),
  en P "_twin_re_1" 299 (Value.ref 36),
  en P "_twin_re_2" 315 (Value.ref 41),
  en P "_twin_re_3" 357 (Value.ref 46),
  en P "CRLF_smtplib" 359 (Value.str (Str.ofString "\x0d\n") 358),
  en P "quotedata" 366 (Value.ref 53),
  en P "_quote_periods" 373 (Value.ref 60),
  en P "_fix_eols" 380 (Value.ref 67),
  en P "CRLF_quoprimime" 382 (Value.str (Str.ofString "\x0d\n") 381),
  en P "NL" 384 (Value.str (Str.ofString "\n") 383),
  en P "_QUOPRI_MAP" 1412 (Value.ref 70),
  en P "_QUOPRI_HEADER_MAP" 1413 (Value.ref 75),
  en P "_QUOPRI_BODY_MAP" 1414 (Value.ref 77),
  en P "ascii_lowercase" 1416 (Value.str (Str.ofString "abcdefghijklmnopqrstuvwxyz") 1415),
  en P "ascii_uppercase" 1418 (Value.str (Str.ofString "ABCDEFGHIJKLMNOPQRSTUVWXYZ") 1417),
  en P "ascii_letters" 1420 (Value.str (Str.ofString "abcdefghijklmnopqrstuvwxyzABCDEFGHIJKLMNOPQRSTUVWXYZ") 1419),
  en P "digits" 1422 (Value.str (Str.ofString "0123456789") 1421),
  en P "hexdigits" 1427 (Value.str (Str.ofString "0123456789abcdefABCDEF") 1426)]
theorem t19_3 (w : World) : (t19 w).tree.get 3 = some { cls := .type "dict", data := .dict (g19 w.params) 27 } := by kernel_rfl
theorem t19_75 (w : World) : (t19 w).tree.get 75 = some { cls := .type "list", data := .seq (tabA 256) 0 } := by kernel_rfl
end Mine
end
section
open PySem PySem.W PyProof.Rows
namespace Mine
set_option maxRecDepth 1000000
set_option maxHeartbeats 0
/-- the octets of the first loop -/
def b19 : List Nat := [45, 33, 42, 43, 47] ++ (List.range 26).map (97 + ·) ++ (List.range 26).map (65 + ·) ++ (List.range 10).map (48 + ·)
/-- the octets of the second -/
def b21 : List Nat := (List.range 29).map (32 + ·) ++ (List.range 65).map (62 + ·) ++ [9]
def arr (b : List Nat) : Array UInt8 := (b.map UInt8.ofNat).toArray
/-- a table after some turns of a loop that sets signs -/
def setA (b : List Nat) (k0 : Nat) : Nat → Array Value
  | 0 => tabA 256
  | j + 1 => (setA b k0 j).setIfInBounds (b.getD j 0) (.str ⟨#[b.getD j 0]⟩ (k0 + 2 + 3 * j))
def oL (b : List Nat) (k0 j : Nat) : Obj := { cls := .type "list", data := .seq (setA b k0 j) 0 }
def oB (b : List Nat) (k0 j : Nat) : Obj := { cls := .type "bytes_iterator", data := .fields #[.bytes (arr b) (k0 - 1), .int (j : Int) 0] }
/-- the globals, c told -/
def oG (P : Params) (c : Option (Int × Nat)) : Obj := match c with
  | none => { cls := .type "dict", data := .dict (g19 P) 27 }
  | some (v, t) => { cls := .type "dict", data := .dict ((g19 P).push (en P "c" 1438 (.int v t))) 28 }
def cOf (b : List Nat) (k0 : Nat) (c0 : Option (Int × Nat)) : Nat → Option (Int × Nat)
  | 0 => c0
  | j + 1 => some (((b.getD j 0 : Nat) : Int), k0 + 3 * j)
abbrev q3 : List Bool := [true, true]
abbrev q75 : List Bool := [true, true, false, false, true, true]
abbrev q77 : List Bool := [true, false, false, false, true, true]
abbrev q78 : List Bool := [false, false, false, false, true, true]
abbrev q81 : List Bool := [true, false, true, true, false, true]
noncomputable def hF (qi ql : List Bool) (b : List Nat) (k0 n : Nat) (c0 : Option (Int × Nat)) (P : Params) (T : BT) (os : OsState) (j : Nat) : SharedT :=
  ⟨put qi (put ql (put q3 (put [] T (boot_o_0 P)) (oG P (cOf b k0 c0 j))) (oL b k0 j)) (oB b k0 j), n, {}, #[], {}, k0 + 3 * j, os⟩
noncomputable def cF (i a : Nat) : Code := match stm i 1 with
  | [.For tg _ bd oe _] => .forLoop tg (.ref a) bd oe envM
  | _ => cM
noncomputable def thF (c : Code) (p : Pos) (F : List Frame) : Thread := ⟨denQ tbQ c, c, p, [.ret (frK F) (frH F) (frG F) (frL F) (frC F) (frP F) (frE F), topFrame pos0]⟩
def pF (p0 p1 : Pos) : Nat → Pos
  | 0 => p0
  | _ => p1
noncomputable abbrev h19 := hF q78 q75 b19 1437 79 none
noncomputable abbrev h21 := hF q81 q77 b21 1642 82 (some (57, 1635))
abbrev p19 := pF ⟨24, 9, 24, 74⟩ ⟨25, 4, 25, 25⟩
abbrev p21 := pF ⟨27, 9, 27, 110⟩ ⟨28, 4, 28, 23⟩
noncomputable abbrev th19 (j : Nat) (k : Result → Sem PySem.Fin) (h : Option Value) (g : Bool) (l : List Value) (cd : Code) (p : Pos) (kept : List Value) : Thread := ⟨denQ tbQ (cF 19 78), cF 19 78, p19 j, [.ret k h g l cd p kept, topFrame pos0]⟩
noncomputable abbrev th21 (j : Nat) (k : Result → Sem PySem.Fin) (h : Option Value) (g : Bool) (l : List Value) (cd : Code) (p : Pos) (kept : List Value) : Thread := ⟨denQ tbQ (cF 21 81), cF 21 81, p21 j, [.ret k h g l cd p kept, topFrame pos0]⟩
abbrev TurnF (h : Params → BT → OsState → Nat → SharedT) (th : Nat → (Result → Sem PySem.Fin) → Option Value → Bool → List Value → Code → Pos → List Value → Thread) (j m : Nat) : Prop :=
  ∀ (w : World) (T : BT) (os : OsState) (k : Result → Sem PySem.Fin) (hh : Option Value) (g : Bool) (l : List Value) (cd : Code) (p : Pos) (kept : List Value),
  goQ tbQ txt w 28 ann0 1 (45 * m) (h w.params T os j) (th j k hh g l cd p kept) = some (h w.params T os (j + m), th (j + m) k hh g l cd p kept)
theorem TurnF.cat {h : Params → BT → OsState → Nat → SharedT} {th : Nat → (Result → Sem PySem.Fin) → Option Value → Bool → List Value → Code → Pos → List Value → Thread} {i m j : Nat} (a : TurnF h th i m) (b : TurnF h th (i + m) j) : TurnF h th i (m + j) := by
  intro w T os k hh g l cd p kept
  have h1 := a w T os k hh g l cd p kept
  have h2 := b w T os k hh g l cd p kept
  rw [← goQ_eq] at h1 h2 ⊢
  have := go_cat h1 h2
  rw [Nat.mul_add, ← Nat.add_assoc i m j]
  exact this
theorem turn19_0 : TurnF h19 th19 0 17 := by intro w T os k h g l cd p kept; kernel_rfl
theorem turn19_17 : TurnF h19 th19 17 17 := by intro w T os k h g l cd p kept; kernel_rfl
theorem turn19_34 : TurnF h19 th19 34 17 := by intro w T os k h g l cd p kept; kernel_rfl
theorem turn19_51 : TurnF h19 th19 51 16 := by intro w T os k h g l cd p kept; kernel_rfl
theorem turn21_0 : TurnF h21 th21 0 19 := by intro w T os k h g l cd p kept; kernel_rfl
theorem turn21_19 : TurnF h21 th21 19 19 := by intro w T os k h g l cd p kept; kernel_rfl
theorem turn21_38 : TurnF h21 th21 38 19 := by intro w T os k h g l cd p kept; kernel_rfl
theorem turn21_57 : TurnF h21 th21 57 19 := by intro w T os k h g l cd p kept; kernel_rfl
theorem turn21_76 : TurnF h21 th21 76 19 := by intro w T os k h g l cd p kept; kernel_rfl
theorem turns19 : TurnF h19 th19 0 67 := ((turn19_0.cat turn19_17).cat turn19_34).cat turn19_51
theorem turns21 : TurnF h21 th21 0 95 := (((turn21_0.cat turn21_19).cat turn21_38).cat turn21_57).cat turn21_76
end Mine
end
section
open PySem PySem.W PyProof.Rows
namespace Mine
set_option maxRecDepth 1000000
set_option maxHeartbeats 0
def oE (m : Nat) : Obj := { cls := .type "bytes_iterator", data := .fields #[.none, .int (m : Int) 0] }

noncomputable def k19 (w : World) : Option (SharedT × Thread) := goQ tbQ txt w 28 ann0 1 44 (t19 w) (thM (stm 19 1) pos19)
noncomputable def T19 (w : World) : BT := (k19 w).elim .nil (·.1.tree)
noncomputable def F19 (w : World) : List Frame := (k19 w).elim [] (·.2.stack)
noncomputable abbrev th19F (i : Nat) (F : List Frame) : Thread := th19 i (frK F) (frH F) (frG F) (frL F) (frC F) (frP F) (frE F)
abbrev Start19 (w : World) : Prop := k19 w = some (h19 w.params (T19 w) (t19 w).os 0, th19F 0 (F19 w))
theorem start19 (w : World) : Start19 (w.withFollow row2 false) ∧ Start19 (w.withFollow row2 true) := ⟨by kernel_rfl, by kernel_rfl⟩
noncomputable def t20 (w : World) : SharedT := ⟨(((((t19 w).tree.ins 78 (oE 67)).ins 79 oT).ins 80 (oS 79)).set 3 (fun _ => oG w.params (some (57, 1635)))).set 75 (fun _ => oL b19 1437 67), 81, {}, #[], {}, 1638, (t19 w).os⟩
abbrev pos20 : Pos := ⟨24, 9, 24, 74⟩
abbrev End19 (w : World) : Prop := runQ tbQ txt w 28 ann0 1 40 (h19 w.params (T19 w) (t19 w).os 67) (th19F 67 (F19 w)) = some (.next, t20 w, cM, pos20)
theorem end19 (w : World) : End19 (w.withFollow row2 false) ∧ End19 (w.withFollow row2 true) := ⟨by kernel_rfl, by kernel_rfl⟩
theorem run19 (w : World) : ∃ n, n ≤ 9999 ∧ segRunT treeTable txt w 28 ann0 1 n (t19 w) (thM (stm 19 1) pos19) = some (.next, t20 w, cM, pos20) := by
  have h1 : k19 w = _ := byRow2 row2 (P := Start19) (fun w => (start19 w).1) (fun w => (start19 w).2) w
  have h2 := turns19 w (T19 w) (t19 w).os (frK (F19 w)) (frH (F19 w)) (frG (F19 w)) (frL (F19 w)) (frC (F19 w)) (frP (F19 w)) (frE (F19 w))
  have h3 : _ = _ := byRow2 row2 (P := End19) (fun w => (end19 w).1) (fun w => (end19 w).2) w
  unfold k19 at h1
  rw [← goQ_eq] at h1 h2
  rw [← runQ_eq] at h3
  refine ⟨44 + (45 * 67 + 40), by omega, ?_⟩
  rw [tbQ_eq]
  exact run_cat h1 (run_cat h2 h3)

noncomputable def r21 (w : World) : Option (Flow × SharedT × Code × Pos) := runQ tbQ txt w 28 ann0 1 60 (t20 w) (thM (stm 20 1) pos20)
noncomputable def t21 (w : World) : SharedT := (r21 w).elim (t20 w) (·.2.1)
abbrev pos21 : Pos := ⟨26, 0, 26, 28⟩
theorem r21_is (w : World) : r21 w = some (.next, t21 w, cM, pos21) := by kernel_rfl

noncomputable def k21 (w : World) : Option (SharedT × Thread) := goQ tbQ txt w 28 ann0 1 10 (t21 w) (thM (stm 21 1) pos21)
noncomputable def T21 (w : World) : BT := (k21 w).elim .nil (·.1.tree)
noncomputable def F21 (w : World) : List Frame := (k21 w).elim [] (·.2.stack)
noncomputable abbrev th21F (i : Nat) (F : List Frame) : Thread := th21 i (frK F) (frH F) (frG F) (frL F) (frC F) (frP F) (frE F)
abbrev Start21 (w : World) : Prop := k21 w = some (h21 w.params (T21 w) (t21 w).os 0, th21F 0 (F21 w))
theorem start21 (w : World) : Start21 (w.withFollow row2 false) ∧ Start21 (w.withFollow row2 true) := ⟨by kernel_rfl, by kernel_rfl⟩
noncomputable def t22 (w : World) : SharedT := ⟨(((((t21 w).tree.ins 81 (oE 95)).ins 82 oT).ins 83 (oS 82)).set 3 (fun _ => oG w.params (some (9, 1924)))).set 77 (fun _ => oL b21 1642 95), 84, {}, #[], {}, 1927, (t21 w).os⟩
abbrev pos22 : Pos := ⟨27, 9, 27, 110⟩
abbrev End21 (w : World) : Prop := runQ tbQ txt w 28 ann0 1 40 (h21 w.params (T21 w) (t21 w).os 95) (th21F 95 (F21 w)) = some (.next, t22 w, cM, pos22)
theorem end21 (w : World) : End21 (w.withFollow row2 false) ∧ End21 (w.withFollow row2 true) := ⟨by kernel_rfl, by kernel_rfl⟩
theorem run21 (w : World) : ∃ n, n ≤ 9999 ∧ segRunT treeTable txt w 28 ann0 1 n (t21 w) (thM (stm 21 1) pos21) = some (.next, t22 w, cM, pos22) := by
  have h1 : k21 w = _ := byRow2 row2 (P := Start21) (fun w => (start21 w).1) (fun w => (start21 w).2) w
  have h2 := turns21 w (T21 w) (t21 w).os (frK (F21 w)) (frH (F21 w)) (frG (F21 w)) (frL (F21 w)) (frC (F21 w)) (frP (F21 w)) (frE (F21 w))
  have h3 : _ = _ := byRow2 row2 (P := End21) (fun w => (end21 w).1) (fun w => (end21 w).2) w
  unfold k21 at h1
  rw [← goQ_eq] at h1 h2
  rw [← runQ_eq] at h3
  refine ⟨10 + (45 * 95 + 40), by omega, ?_⟩
  rw [tbQ_eq]
  exact run_cat h1 (run_cat h2 h3)

end Mine
end
section
open PySem PySem.W PyProof.Rows
namespace Mine
set_option maxRecDepth 1000000
set_option maxHeartbeats 0
noncomputable def r25 (w : World) : Option (Flow × SharedT × Code × Pos) := runQ tbQ txt w 28 ann0 1 150 (t22 w) (thM (stm 22 3) pos22)
noncomputable def t25 (w : World) : SharedT := (r25 w).elim (t22 w) (·.2.1)
abbrev pos25 : Pos := ⟨33, 0, 33, 23⟩
theorem r25_is (w : World) : r25 w = some (.next, t25 w, cM, pos25) := by kernel_rfl
/-- an entry set in a namespace -/
def dset (i : Nat) (e : DictEntry) : Obj → Obj
  | ⟨c, d, .dict es n, sl⟩ => ⟨c, d, .dict (es.setIfInBounds i e) n, sl⟩
  | o => o
def lset (i : Nat) (v : Value) : Obj → Obj
  | ⟨c, d, .seq es n, sl⟩ => ⟨c, d, .seq (es.setIfInBounds i v) n, sl⟩
  | o => o
noncomputable def t26 (w : World) : SharedT := ⟨(((((t25 w).tree.ins 100 (oE 2)).ins 101 oT).ins 102 (oS 101)).set 3 (dset 27 (en w.params "c" 1438 (.int 10 1946)))).set 99 (fun o => lset 10 (.str ⟨#[10]⟩ 1948) (lset 13 (.str ⟨#[13]⟩ 1945) o)), 103, {}, #[], {}, 1949, (t25 w).os⟩
abbrev pos26 : Pos := ⟨34, 9, 34, 16⟩
abbrev Run25 (w : World) : Prop := runQ tbQ txt w 28 ann0 1 200 (t25 w) (thM (stm 25 1) pos25) = some (.next, t26 w, cM, pos26)
theorem run25 (w : World) : Run25 (w.withFollow row2 false) ∧ Run25 (w.withFollow row2 true) := ⟨by kernel_rfl, by kernel_rfl⟩
noncomputable def rF (w : World) : Option (Flow × SharedT × Code × Pos) := runQ tbQ txt w 28 ann0 1 300 (t26 w) (thM (stm 26 8) pos26)
noncomputable def tF (w : World) : SharedT := (rF w).elim (t26 w) (·.2.1)
abbrev posF : Pos := ⟨126, 0, 141, 15⟩
theorem rF_is (w : World) : rF w = some (.next, tF w, cM, posF) := by kernel_rfl
noncomputable def sf (w : World) : Shared := (tF w).abs
theorem fin_is (w : World) : topRun treeTable txt w 28 ann0 3 (sf w) ⟨doneF .next, cM, posF, [topFrame pos0]⟩ = some (sf w) := by kernel_rfl
theorem stm_all : bM.drop 34 = [] := by kernel_rfl
theorem drop_more (i n : Nat) : bM.drop i = stm i n ++ bM.drop (i + n) := by
  show bM.drop i = (bM.drop i).take n ++ bM.drop (i + n)
  rw [← List.drop_drop, List.take_append_drop]
/-- one stretch of statements more -/
theorem more_top {w : World} {i n : Nat} {t t' : SharedT} {p p' : Pos} {r : Shared} (h : ∃ k, k ≤ 9999 ∧ segRunT treeTable txt w 28 ann0 1 k t (thM (stm i n) p) = some (.next, t', cM, p'))
    (g : ∃ N, N ≤ 9999 * i ∧ topRun treeTable txt w 28 ann0 N t'.abs (restOf (bM.drop (i + n)) envM cM p' [topFrame pos0]) = some r) :
    ∃ N, topRun treeTable txt w 28 ann0 N t.abs (restOf (bM.drop i) envM cM p [topFrame pos0]) = some r := by
  obtain ⟨k, _, h⟩ := h
  obtain ⟨N, _, g⟩ := g
  have h' := segRun_of h
  rw [← thM_eq] at h'
  rw [drop_more i n]
  exact ⟨k + N, piece_app h' g⟩
end Mine
end
section
open PySem PySem.W PyProof.Rows
namespace Mine
set_option maxRecDepth 1000000
set_option maxHeartbeats 0
/-- one stretch of statements more -/
theorem more_top' {w : World} {i n K B : Nat} {t t' : SharedT} {p p' : Pos} {r : Shared} (h : ∃ k, k ≤ K ∧ segRunT treeTable txt w 28 ann0 1 k t (thM (stm i n) p) = some (.next, t', cM, p'))
    (g : ∃ N, N ≤ B ∧ topRun treeTable txt w 28 ann0 N t'.abs (restOf (bM.drop (i + n)) envM cM p' [topFrame pos0]) = some r) :
    ∃ N, N ≤ K + B ∧ topRun treeTable txt w 28 ann0 N t.abs (restOf (bM.drop i) envM cM p [topFrame pos0]) = some r := by
  obtain ⟨k, hk, h⟩ := h
  obtain ⟨N, hN, g⟩ := g
  have h' := segRun_of h
  rw [← thM_eq] at h'
  rw [drop_more i n]
  exact ⟨k + N, Nat.add_le_add hk hN, piece_app h' g⟩
theorem block_is (w : World) : segRun treeTable txt w 28 ann0 1 1 (sa w) (blockOf bM envM cM pos0 [topFrame pos0]) = some (.next, sa w, cM, pos0) := by kernel_rfl
theorem of_run {w : World} {n : Nat} {t t' : SharedT} {th : Thread} {p : Pos} (h : runQ tbQ txt w 28 ann0 1 n t th = some (.next, t', cM, p)) : ∃ k, k ≤ n ∧ segRunT treeTable txt w 28 ann0 1 k t th = some (.next, t', cM, p) := by
  refine ⟨n, Nat.le_refl _, ?_⟩
  rw [runQ_eq, tbQ_eq]; exact h
theorem top_is (w : World) : ∃ M, M ≤ 40000 ∧ topRun treeTable txt w 28 ann0 M (s0 w) (topStub txt) = some (sf w) := by
  have e0 : ∃ N, N ≤ 3 ∧ topRun treeTable txt w 28 ann0 N (tF w).abs (restOf (bM.drop (26 + 8)) envM cM posF [topFrame pos0]) = some (sf w) := by
    refine ⟨3, Nat.le_refl _, ?_⟩
    have : bM.drop (26 + 8) = [] := stm_all
    rw [this]
    exact piece_nil (fin_is w)
  have a1 := rF_is w
  unfold rF at a1
  have e1 := more_top' (of_run a1) e0
  have a2 : Run25 w := byRow2 row2 (P := Run25) (fun w => (run25 w).1) (fun w => (run25 w).2) w
  unfold Run25 at a2
  have e2 := more_top' (of_run a2) e1
  have a3 := r25_is w
  unfold r25 at a3
  have e3 := more_top' (of_run a3) e2
  have e4 := more_top' (run21 w) e3
  have a5 := r21_is w
  unfold r21 at a5
  have e5 := more_top' (of_run a5) e4
  have e6 := more_top' (run19 w) e5
  have a7 := r19_is w
  unfold r19 at a7
  have e7 := more_top' (of_run a7) e6
  have e8 := more_top' (run10 w) e7
  have a9 := r10_is w
  unfold r10 at a9
  obtain ⟨N, hN, e9⟩ := more_top' (i := 0) (of_run a9) e8
  rw [ta_abs w] at e9
  have e10 := piece_block (block_is w) e9
  have e11 : topGo treeTable txt w 28 ann0 12 (s0 w) (topStub txt) = some (sa w, ⟨denote treeTable cM, cM, pos0, [topFrame pos0]⟩) := by
    have a11 := preR_is w
    unfold preR at a11
    rw [tgoQ_eq, denQ_eq, tbQ_eq]
    exact a11
  exact ⟨_, by omega, go_top e11 e10⟩
end Mine
end
section
open PySem PySem.W PyProof.Rows
namespace Mine
set_option maxRecDepth 1000000
set_option maxHeartbeats 0
/- what is looked at behind it -/
noncomputable def nth (i : Nat) : Stmt := txt.main.body.getD i (.Pass pos0)
/-- a def's object, its text taken by its place -/
noncomputable def fnO (i : Nat) (defs md : Value) (code : Addr) : Obj := match nth i with
  | .FunctionDef name params body _ _ _ scope _ _ _ => { cls := .type "function", data := .func { name := name, qualname := name, params := params, body := .stmts body, scope := scope, globals := 3, closure := [], defaults := defs, kwdefaults := .none, pyModule := md, code := .ref code } }
  | _ => default
noncomputable def heapK (P : Params) : Frag :=
  (nat_lit 3, { cls := Value.type "dict", data := Data.dict (List.toArray ({ hash := PyData.keyHash P (Str.ofString "__name__"), key := Value.str (Str.ofString "__name__") 165, val := Value.str (Str.ofString "law_ny0173_01") 1982 } :: { hash := PyData.keyHash P (Str.ofString "__doc__"), key := Value.str (Str.ofString "__doc__") 166, val := Value.none } :: { hash := PyData.keyHash P (Str.ofString "__package__"), key := Value.str (Str.ofString "__package__") 167, val := Value.none } :: { hash := PyData.keyHash P (Str.ofString "__loader__"), key := Value.str (Str.ofString "__loader__") 168, val := Value.builtin "__main__.__loader__#opaque" } :: { hash := PyData.keyHash P (Str.ofString "__spec__"), key := Value.str (Str.ofString "__spec__") 169, val := Value.none } :: { hash := PyData.keyHash P (Str.ofString "__annotations__"), key := Value.str (Str.ofString "__annotations__") 170, val := Value.ref 6 } :: { hash := PyData.keyHash P (Str.ofString "__builtins__"), key := Value.str (Str.ofString "__builtins__") 171, val := Value.ref 4 } :: { hash := PyData.keyHash P (Str.ofString "__file__"), key := Value.str (Str.ofString "__file__") 173, val := Value.str (Str.ofString "/claim/cut.py") 172 } :: { hash := PyData.keyHash P (Str.ofString "__cached__"), key := Value.str (Str.ofString "__cached__") 174, val := Value.none } :: { hash := PyData.keyHash P (Str.ofString "_sre"), key := Value.str (Str.ofString "_sre") 275, val := Value.ref 12 } :: { hash := PyData.keyHash P (Str.ofString "_twin_re_1"), key := Value.str (Str.ofString "_twin_re_1") 299, val := Value.ref 36 } :: { hash := PyData.keyHash P (Str.ofString "_twin_re_2"), key := Value.str (Str.ofString "_twin_re_2") 315, val := Value.ref 41 } :: { hash := PyData.keyHash P (Str.ofString "_twin_re_3"), key := Value.str (Str.ofString "_twin_re_3") 357, val := Value.ref 46 } :: { hash := PyData.keyHash P (Str.ofString "CRLF_smtplib"), key := Value.str (Str.ofString "CRLF_smtplib") 359, val := Value.str (Str.ofString "\x0d\n") 358 } :: { hash := PyData.keyHash P (Str.ofString "quotedata"), key := Value.str (Str.ofString "quotedata") 366, val := Value.ref 53 } :: { hash := PyData.keyHash P (Str.ofString "_quote_periods"), key := Value.str (Str.ofString "_quote_periods") 373, val := Value.ref 60 } :: { hash := PyData.keyHash P (Str.ofString "_fix_eols"), key := Value.str (Str.ofString "_fix_eols") 380, val := Value.ref 67 } :: { hash := PyData.keyHash P (Str.ofString "CRLF_quoprimime"), key := Value.str (Str.ofString "CRLF_quoprimime") 382, val := Value.str (Str.ofString "\x0d\n") 381 } :: { hash := PyData.keyHash P (Str.ofString "NL"), key := Value.str (Str.ofString "NL") 384, val := Value.str (Str.ofString "\n") 383 } :: { hash := PyData.keyHash P (Str.ofString "_QUOPRI_MAP"), key := Value.str (Str.ofString "_QUOPRI_MAP") 1412, val := Value.ref 70 } :: { hash := PyData.keyHash P (Str.ofString "_QUOPRI_HEADER_MAP"), key := Value.str (Str.ofString "_QUOPRI_HEADER_MAP") 1413, val := Value.ref 75 } :: { hash := PyData.keyHash P (Str.ofString "_QUOPRI_BODY_MAP"), key := Value.str (Str.ofString "_QUOPRI_BODY_MAP") 1414, val := Value.ref 77 } :: { hash := PyData.keyHash P (Str.ofString "ascii_lowercase"), key := Value.str (Str.ofString "ascii_lowercase") 1416, val := Value.str (Str.ofString "abcdefghijklmnopqrstuvwxyz") 1415 } :: { hash := PyData.keyHash P (Str.ofString "ascii_uppercase"), key := Value.str (Str.ofString "ascii_uppercase") 1418, val := Value.str (Str.ofString "ABCDEFGHIJKLMNOPQRSTUVWXYZ") 1417 } :: { hash := PyData.keyHash P (Str.ofString "ascii_letters"), key := Value.str (Str.ofString "ascii_letters") 1420, val := Value.str (Str.ofString "abcdefghijklmnopqrstuvwxyzABCDEFGHIJKLMNOPQRSTUVWXYZ") 1419 } :: { hash := PyData.keyHash P (Str.ofString "digits"), key := Value.str (Str.ofString "digits") 1422, val := Value.str (Str.ofString "0123456789") 1421 } :: { hash := PyData.keyHash P (Str.ofString "hexdigits"), key := Value.str (Str.ofString "hexdigits") 1427, val := Value.str (Str.ofString "0123456789abcdefABCDEF") 1426 } :: { hash := PyData.keyHash P (Str.ofString "unquote"), key := Value.str (Str.ofString "unquote") 1933, val := Value.ref 90 } :: { hash := PyData.keyHash P (Str.ofString "quote"), key := Value.str (Str.ofString "quote") 1940, val := Value.ref 97 } :: { hash := PyData.keyHash P (Str.ofString "_QUOPRI_BODY_ENCODE_MAP"), key := Value.str (Str.ofString "_QUOPRI_BODY_ENCODE_MAP") 1941, val := Value.ref 99 } :: { hash := PyData.keyHash P (Str.ofString "body_encode"), key := Value.str (Str.ofString "body_encode") 1968, val := Value.ref 110 } :: { hash := PyData.keyHash P (Str.ofString "decode"), key := Value.str (Str.ofString "decode") 1981, val := Value.ref 118 } :: { hash := PyData.keyHash P (Str.ofString "_law_gone"), key := Value.str (Str.ofString "_law_gone") 1989, val := Value.ref 123 } :: { hash := PyData.keyHash P (Str.ofString "_law_mail"), key := Value.str (Str.ofString "_law_mail") 1995, val := Value.ref 128 } :: { hash := PyData.keyHash P (Str.ofString "_law_passed_on"), key := Value.str (Str.ofString "_law_passed_on") 2001, val := Value.ref 133 } :: { hash := PyData.keyHash P (Str.ofString "law"), key := Value.str (Str.ofString "law") 2007, val := Value.ref 138 } :: [])) 38 }) ::
  (nat_lit 6, { cls := Value.type "dict", data := Data.dict #[] }) ::
  (nat_lit 35, { cls := Value.type "tuple", data := Data.seq #[Value.int 14 0, Value.int 4 0, Value.int 0 0, Value.int 1 0, Value.int 1 0, Value.int 6 0, Value.int 1 0, Value.int 16 0, Value.int 46 0, Value.int 1 0] }) ::
  (nat_lit 36, { cls := Value.type "re.Pattern", data := Data.fields #[Value.str (Str.ofString "(?m)^\\.") 285, Value.int 40 298, Value.int 0 0, Value.none, Value.none, Value.ref 35, Value.int 0 0] }) ::
  (nat_lit 40, { cls := Value.type "tuple", data := Data.seq #[Value.int 14 0, Value.int 4 0, Value.int 0 0, Value.int 1 0, Value.int 1 0, Value.int 6 0, Value.int 1 0, Value.int 16 0, Value.int 46 0, Value.int 1 0] }) ::
  (nat_lit 41, { cls := Value.type "re.Pattern", data := Data.fields #[Value.bytes #[40, 63, 109, 41, 94, 92, 46] 301, Value.int 8 314, Value.int 0 0, Value.none, Value.none, Value.ref 40, Value.int 1 0] }) ::
  (nat_lit 45, { cls := Value.type "tuple", data := Data.seq (List.toArray (Value.int 14 0 :: Value.int 9 0 :: Value.int 4 0 :: Value.int 1 0 :: Value.int 2 0 :: Value.int 16 0 :: Value.int 10 0 :: Value.int 16 0 :: Value.int 13 0 :: Value.int 0 0 :: Value.int 7 0 :: Value.int 7 0 :: Value.int 16 0 :: Value.int 13 0 :: Value.int 16 0 :: Value.int 10 0 :: Value.int 15 0 :: Value.int 18 0 :: Value.int 5 0 :: Value.int 16 0 :: Value.int 10 0 :: Value.int 15 0 :: Value.int 13 0 :: Value.int 11 0 :: Value.int 16 0 :: Value.int 13 0 :: Value.int 5 0 :: Value.int 5 0 :: Value.int 0 0 :: Value.int 16 0 :: Value.int 10 0 :: Value.int 1 0 :: Value.int 15 0 :: Value.int 2 0 :: Value.int 0 0 :: Value.int 1 0 :: [])) }) ::
  (nat_lit 46, { cls := Value.type "re.Pattern", data := Data.fields #[Value.str (Str.ofString "(?:\\r\\n|\\n|\\r(?!\\n))") 317, Value.int 32 356, Value.int 0 0, Value.none, Value.none, Value.ref 45, Value.int 0 0] }) ::
  (nat_lit 47, { cls := Value.type "tuple", data := Data.seq #[] }) ::
  (nat_lit 49, { cls := Value.type "tuple", data := Data.seq #[Value.str (Str.ofString "data") 363] }) ::
  (nat_lit 50, { cls := Value.type "tuple", data := Data.seq #[] }) ::
  (nat_lit 52, { cls := Value.type "code", data := Data.fields (List.toArray (Value.str (Str.ofString "quotedata") 360 :: Value.str (Str.ofString "quotedata") 361 :: Value.str (Str.ofString "/claim/cut.py") 362 :: Value.int 7 0 :: Value.int 1 0 :: Value.int 0 0 :: Value.int 0 0 :: Value.int 3 0 :: Value.ref 47 :: Value.bool true :: Value.int 276 0 :: Value.ref 48 :: Value.none :: Value.ref 49 :: Value.ref 50 :: Value.ref 51 :: Value.int 364 0 :: Value.int 7 0 :: Value.str (Str.ofString "/claim/cut.py") 365 :: [])) }) ::
  (nat_lit 53, fnO 6 (Value.none) (Value.str (Str.ofString "cpy313.smtplib") 282) 52) ::
  (nat_lit 54, { cls := Value.type "tuple", data := Data.seq #[] }) ::
  (nat_lit 56, { cls := Value.type "tuple", data := Data.seq #[Value.str (Str.ofString "bindata") 370] }) ::
  (nat_lit 57, { cls := Value.type "tuple", data := Data.seq #[] }) ::
  (nat_lit 59, { cls := Value.type "code", data := Data.fields (List.toArray (Value.str (Str.ofString "_quote_periods") 367 :: Value.str (Str.ofString "_quote_periods") 368 :: Value.str (Str.ofString "/claim/cut.py") 369 :: Value.int 9 0 :: Value.int 1 0 :: Value.int 0 0 :: Value.int 0 0 :: Value.int 3 0 :: Value.ref 54 :: Value.bool true :: Value.int 276 0 :: Value.ref 55 :: Value.none :: Value.ref 56 :: Value.ref 57 :: Value.ref 58 :: Value.int 371 0 :: Value.int 9 0 :: Value.str (Str.ofString "/claim/cut.py") 372 :: [])) }) ::
  (nat_lit 60, fnO 7 (Value.none) (Value.str (Str.ofString "cpy313.smtplib") 282) 59) ::
  (nat_lit 61, { cls := Value.type "tuple", data := Data.seq #[] }) ::
  (nat_lit 63, { cls := Value.type "tuple", data := Data.seq #[Value.str (Str.ofString "data") 377] }) ::
  (nat_lit 64, { cls := Value.type "tuple", data := Data.seq #[] }) ::
  (nat_lit 66, { cls := Value.type "code", data := Data.fields (List.toArray (Value.str (Str.ofString "_fix_eols") 374 :: Value.str (Str.ofString "_fix_eols") 375 :: Value.str (Str.ofString "/claim/cut.py") 376 :: Value.int 11 0 :: Value.int 1 0 :: Value.int 0 0 :: Value.int 0 0 :: Value.int 3 0 :: Value.ref 61 :: Value.bool true :: Value.int 276 0 :: Value.ref 62 :: Value.none :: Value.ref 63 :: Value.ref 64 :: Value.ref 65 :: Value.int 378 0 :: Value.int 11 0 :: Value.str (Str.ofString "/claim/cut.py") 379 :: [])) }) ::
  (nat_lit 67, fnO 8 (Value.none) (Value.str (Str.ofString "cpy313.smtplib") 282) 66) ::
  (nat_lit 70, { cls := Value.type "list", data := Data.seq (List.toArray (Value.str (Str.ofString "=00") 391 :: Value.str (Str.ofString "=01") 395 :: Value.str (Str.ofString "=02") 399 :: Value.str (Str.ofString "=03") 403 :: Value.str (Str.ofString "=04") 407 :: Value.str (Str.ofString "=05") 411 :: Value.str (Str.ofString "=06") 415 :: Value.str (Str.ofString "=07") 419 :: Value.str (Str.ofString "=08") 423 :: Value.str (Str.ofString "=09") 427 :: Value.str (Str.ofString "=0A") 431 :: Value.str (Str.ofString "=0B") 435 :: Value.str (Str.ofString "=0C") 439 :: Value.str (Str.ofString "=0D") 443 :: Value.str (Str.ofString "=0E") 447 :: Value.str (Str.ofString "=0F") 451 :: Value.str (Str.ofString "=10") 455 :: Value.str (Str.ofString "=11") 459 :: Value.str (Str.ofString "=12") 463 :: Value.str (Str.ofString "=13") 467 :: Value.str (Str.ofString "=14") 471 :: Value.str (Str.ofString "=15") 475 :: Value.str (Str.ofString "=16") 479 :: Value.str (Str.ofString "=17") 483 :: Value.str (Str.ofString "=18") 487 :: Value.str (Str.ofString "=19") 491 :: Value.str (Str.ofString "=1A") 495 :: Value.str (Str.ofString "=1B") 499 :: Value.str (Str.ofString "=1C") 503 :: Value.str (Str.ofString "=1D") 507 :: Value.str (Str.ofString "=1E") 511 :: Value.str (Str.ofString "=1F") 515 :: Value.str (Str.ofString "=20") 519 :: Value.str (Str.ofString "=21") 523 :: Value.str (Str.ofString "=22") 527 :: Value.str (Str.ofString "=23") 531 :: Value.str (Str.ofString "=24") 535 :: Value.str (Str.ofString "=25") 539 :: Value.str (Str.ofString "=26") 543 :: Value.str (Str.ofString "=27") 547 :: Value.str (Str.ofString "=28") 551 :: Value.str (Str.ofString "=29") 555 :: Value.str (Str.ofString "=2A") 559 :: Value.str (Str.ofString "=2B") 563 :: Value.str (Str.ofString "=2C") 567 :: Value.str (Str.ofString "=2D") 571 :: Value.str (Str.ofString "=2E") 575 :: Value.str (Str.ofString "=2F") 579 :: Value.str (Str.ofString "=30") 583 :: Value.str (Str.ofString "=31") 587 :: Value.str (Str.ofString "=32") 591 :: Value.str (Str.ofString "=33") 595 :: Value.str (Str.ofString "=34") 599 :: Value.str (Str.ofString "=35") 603 :: Value.str (Str.ofString "=36") 607 :: Value.str (Str.ofString "=37") 611 :: Value.str (Str.ofString "=38") 615 :: Value.str (Str.ofString "=39") 619 :: Value.str (Str.ofString "=3A") 623 :: Value.str (Str.ofString "=3B") 627 :: Value.str (Str.ofString "=3C") 631 :: Value.str (Str.ofString "=3D") 635 :: Value.str (Str.ofString "=3E") 639 :: Value.str (Str.ofString "=3F") 643 :: Value.str (Str.ofString "=40") 647 :: Value.str (Str.ofString "=41") 651 :: Value.str (Str.ofString "=42") 655 :: Value.str (Str.ofString "=43") 659 :: Value.str (Str.ofString "=44") 663 :: Value.str (Str.ofString "=45") 667 :: Value.str (Str.ofString "=46") 671 :: Value.str (Str.ofString "=47") 675 :: Value.str (Str.ofString "=48") 679 :: Value.str (Str.ofString "=49") 683 :: Value.str (Str.ofString "=4A") 687 :: Value.str (Str.ofString "=4B") 691 :: Value.str (Str.ofString "=4C") 695 :: Value.str (Str.ofString "=4D") 699 :: Value.str (Str.ofString "=4E") 703 :: Value.str (Str.ofString "=4F") 707 :: Value.str (Str.ofString "=50") 711 :: Value.str (Str.ofString "=51") 715 :: Value.str (Str.ofString "=52") 719 :: Value.str (Str.ofString "=53") 723 :: Value.str (Str.ofString "=54") 727 :: Value.str (Str.ofString "=55") 731 :: Value.str (Str.ofString "=56") 735 :: Value.str (Str.ofString "=57") 739 :: Value.str (Str.ofString "=58") 743 :: Value.str (Str.ofString "=59") 747 :: Value.str (Str.ofString "=5A") 751 :: Value.str (Str.ofString "=5B") 755 :: Value.str (Str.ofString "=5C") 759 :: Value.str (Str.ofString "=5D") 763 :: Value.str (Str.ofString "=5E") 767 :: Value.str (Str.ofString "=5F") 771 :: Value.str (Str.ofString "=60") 775 :: Value.str (Str.ofString "=61") 779 :: Value.str (Str.ofString "=62") 783 :: Value.str (Str.ofString "=63") 787 :: Value.str (Str.ofString "=64") 791 :: Value.str (Str.ofString "=65") 795 :: Value.str (Str.ofString "=66") 799 :: Value.str (Str.ofString "=67") 803 :: Value.str (Str.ofString "=68") 807 :: Value.str (Str.ofString "=69") 811 :: Value.str (Str.ofString "=6A") 815 :: Value.str (Str.ofString "=6B") 819 :: Value.str (Str.ofString "=6C") 823 :: Value.str (Str.ofString "=6D") 827 :: Value.str (Str.ofString "=6E") 831 :: Value.str (Str.ofString "=6F") 835 :: Value.str (Str.ofString "=70") 839 :: Value.str (Str.ofString "=71") 843 :: Value.str (Str.ofString "=72") 847 :: Value.str (Str.ofString "=73") 851 :: Value.str (Str.ofString "=74") 855 :: Value.str (Str.ofString "=75") 859 :: Value.str (Str.ofString "=76") 863 :: Value.str (Str.ofString "=77") 867 :: Value.str (Str.ofString "=78") 871 :: Value.str (Str.ofString "=79") 875 :: Value.str (Str.ofString "=7A") 879 :: Value.str (Str.ofString "=7B") 883 :: Value.str (Str.ofString "=7C") 887 :: Value.str (Str.ofString "=7D") 891 :: Value.str (Str.ofString "=7E") 895 :: Value.str (Str.ofString "=7F") 899 :: Value.str (Str.ofString "=80") 903 :: Value.str (Str.ofString "=81") 907 :: Value.str (Str.ofString "=82") 911 :: Value.str (Str.ofString "=83") 915 :: Value.str (Str.ofString "=84") 919 :: Value.str (Str.ofString "=85") 923 :: Value.str (Str.ofString "=86") 927 :: Value.str (Str.ofString "=87") 931 :: Value.str (Str.ofString "=88") 935 :: Value.str (Str.ofString "=89") 939 :: Value.str (Str.ofString "=8A") 943 :: Value.str (Str.ofString "=8B") 947 :: Value.str (Str.ofString "=8C") 951 :: Value.str (Str.ofString "=8D") 955 :: Value.str (Str.ofString "=8E") 959 :: Value.str (Str.ofString "=8F") 963 :: Value.str (Str.ofString "=90") 967 :: Value.str (Str.ofString "=91") 971 :: Value.str (Str.ofString "=92") 975 :: Value.str (Str.ofString "=93") 979 :: Value.str (Str.ofString "=94") 983 :: Value.str (Str.ofString "=95") 987 :: Value.str (Str.ofString "=96") 991 :: Value.str (Str.ofString "=97") 995 :: Value.str (Str.ofString "=98") 999 :: Value.str (Str.ofString "=99") 1003 :: Value.str (Str.ofString "=9A") 1007 :: Value.str (Str.ofString "=9B") 1011 :: Value.str (Str.ofString "=9C") 1015 :: Value.str (Str.ofString "=9D") 1019 :: Value.str (Str.ofString "=9E") 1023 :: Value.str (Str.ofString "=9F") 1027 :: Value.str (Str.ofString "=A0") 1031 :: Value.str (Str.ofString "=A1") 1035 :: Value.str (Str.ofString "=A2") 1039 :: Value.str (Str.ofString "=A3") 1043 :: Value.str (Str.ofString "=A4") 1047 :: Value.str (Str.ofString "=A5") 1051 :: Value.str (Str.ofString "=A6") 1055 :: Value.str (Str.ofString "=A7") 1059 :: Value.str (Str.ofString "=A8") 1063 :: Value.str (Str.ofString "=A9") 1067 :: Value.str (Str.ofString "=AA") 1071 :: Value.str (Str.ofString "=AB") 1075 :: Value.str (Str.ofString "=AC") 1079 :: Value.str (Str.ofString "=AD") 1083 :: Value.str (Str.ofString "=AE") 1087 :: Value.str (Str.ofString "=AF") 1091 :: Value.str (Str.ofString "=B0") 1095 :: Value.str (Str.ofString "=B1") 1099 :: Value.str (Str.ofString "=B2") 1103 :: Value.str (Str.ofString "=B3") 1107 :: Value.str (Str.ofString "=B4") 1111 :: Value.str (Str.ofString "=B5") 1115 :: Value.str (Str.ofString "=B6") 1119 :: Value.str (Str.ofString "=B7") 1123 :: Value.str (Str.ofString "=B8") 1127 :: Value.str (Str.ofString "=B9") 1131 :: Value.str (Str.ofString "=BA") 1135 :: Value.str (Str.ofString "=BB") 1139 :: Value.str (Str.ofString "=BC") 1143 :: Value.str (Str.ofString "=BD") 1147 :: Value.str (Str.ofString "=BE") 1151 :: Value.str (Str.ofString "=BF") 1155 :: Value.str (Str.ofString "=C0") 1159 :: Value.str (Str.ofString "=C1") 1163 :: Value.str (Str.ofString "=C2") 1167 :: Value.str (Str.ofString "=C3") 1171 :: Value.str (Str.ofString "=C4") 1175 :: Value.str (Str.ofString "=C5") 1179 :: Value.str (Str.ofString "=C6") 1183 :: Value.str (Str.ofString "=C7") 1187 :: Value.str (Str.ofString "=C8") 1191 :: Value.str (Str.ofString "=C9") 1195 :: Value.str (Str.ofString "=CA") 1199 :: Value.str (Str.ofString "=CB") 1203 :: Value.str (Str.ofString "=CC") 1207 :: Value.str (Str.ofString "=CD") 1211 :: Value.str (Str.ofString "=CE") 1215 :: Value.str (Str.ofString "=CF") 1219 :: Value.str (Str.ofString "=D0") 1223 :: Value.str (Str.ofString "=D1") 1227 :: Value.str (Str.ofString "=D2") 1231 :: Value.str (Str.ofString "=D3") 1235 :: Value.str (Str.ofString "=D4") 1239 :: Value.str (Str.ofString "=D5") 1243 :: Value.str (Str.ofString "=D6") 1247 :: Value.str (Str.ofString "=D7") 1251 :: Value.str (Str.ofString "=D8") 1255 :: Value.str (Str.ofString "=D9") 1259 :: Value.str (Str.ofString "=DA") 1263 :: Value.str (Str.ofString "=DB") 1267 :: Value.str (Str.ofString "=DC") 1271 :: Value.str (Str.ofString "=DD") 1275 :: Value.str (Str.ofString "=DE") 1279 :: Value.str (Str.ofString "=DF") 1283 :: Value.str (Str.ofString "=E0") 1287 :: Value.str (Str.ofString "=E1") 1291 :: Value.str (Str.ofString "=E2") 1295 :: Value.str (Str.ofString "=E3") 1299 :: Value.str (Str.ofString "=E4") 1303 :: Value.str (Str.ofString "=E5") 1307 :: Value.str (Str.ofString "=E6") 1311 :: Value.str (Str.ofString "=E7") 1315 :: Value.str (Str.ofString "=E8") 1319 :: Value.str (Str.ofString "=E9") 1323 :: Value.str (Str.ofString "=EA") 1327 :: Value.str (Str.ofString "=EB") 1331 :: Value.str (Str.ofString "=EC") 1335 :: Value.str (Str.ofString "=ED") 1339 :: Value.str (Str.ofString "=EE") 1343 :: Value.str (Str.ofString "=EF") 1347 :: Value.str (Str.ofString "=F0") 1351 :: Value.str (Str.ofString "=F1") 1355 :: Value.str (Str.ofString "=F2") 1359 :: Value.str (Str.ofString "=F3") 1363 :: Value.str (Str.ofString "=F4") 1367 :: Value.str (Str.ofString "=F5") 1371 :: Value.str (Str.ofString "=F6") 1375 :: Value.str (Str.ofString "=F7") 1379 :: Value.str (Str.ofString "=F8") 1383 :: Value.str (Str.ofString "=F9") 1387 :: Value.str (Str.ofString "=FA") 1391 :: Value.str (Str.ofString "=FB") 1395 :: Value.str (Str.ofString "=FC") 1399 :: Value.str (Str.ofString "=FD") 1403 :: Value.str (Str.ofString "=FE") 1407 :: Value.str (Str.ofString "=FF") 1411 :: [])) 256 }) ::
  (nat_lit 84, { cls := Value.type "tuple", data := Data.seq #[] }) ::
  (nat_lit 86, { cls := Value.type "tuple", data := Data.seq #[Value.str (Str.ofString "s") 1930] }) ::
  (nat_lit 87, { cls := Value.type "tuple", data := Data.seq #[] }) ::
  (nat_lit 89, { cls := Value.type "code", data := Data.fields (List.toArray (Value.str (Str.ofString "unquote") 1927 :: Value.str (Str.ofString "unquote") 1928 :: Value.str (Str.ofString "/claim/cut.py") 1929 :: Value.int 29 0 :: Value.int 1 0 :: Value.int 0 0 :: Value.int 0 0 :: Value.int 3 0 :: Value.ref 84 :: Value.bool true :: Value.int 276 0 :: Value.ref 85 :: Value.none :: Value.ref 86 :: Value.ref 87 :: Value.ref 88 :: Value.int 1931 0 :: Value.int 29 0 :: Value.str (Str.ofString "/claim/cut.py") 1932 :: [])) }) ::
  (nat_lit 90, fnO 23 (Value.none) (Value.str (Str.ofString "cpy313.email.quoprimime") 1428) 89) ::
  (nat_lit 91, { cls := Value.type "tuple", data := Data.seq #[] }) ::
  (nat_lit 93, { cls := Value.type "tuple", data := Data.seq #[Value.str (Str.ofString "c") 1937] }) ::
  (nat_lit 94, { cls := Value.type "tuple", data := Data.seq #[] }) ::
  (nat_lit 96, { cls := Value.type "code", data := Data.fields (List.toArray (Value.str (Str.ofString "quote") 1934 :: Value.str (Str.ofString "quote") 1935 :: Value.str (Str.ofString "/claim/cut.py") 1936 :: Value.int 31 0 :: Value.int 1 0 :: Value.int 0 0 :: Value.int 0 0 :: Value.int 3 0 :: Value.ref 91 :: Value.bool true :: Value.int 276 0 :: Value.ref 92 :: Value.none :: Value.ref 93 :: Value.ref 94 :: Value.ref 95 :: Value.int 1938 0 :: Value.int 31 0 :: Value.str (Str.ofString "/claim/cut.py") 1939 :: [])) }) ::
  (nat_lit 97, fnO 24 (Value.none) (Value.str (Str.ofString "cpy313.email.quoprimime") 1428) 96) ::
  (nat_lit 99, { cls := Value.type "list", data := Data.seq (List.toArray (Value.str (Str.ofString "=00") 391 :: Value.str (Str.ofString "=01") 395 :: Value.str (Str.ofString "=02") 399 :: Value.str (Str.ofString "=03") 403 :: Value.str (Str.ofString "=04") 407 :: Value.str (Str.ofString "=05") 411 :: Value.str (Str.ofString "=06") 415 :: Value.str (Str.ofString "=07") 419 :: Value.str (Str.ofString "=08") 423 :: Value.str (Str.ofString "\t") 1926 :: Value.str (Str.ofString "\n") 1948 :: Value.str (Str.ofString "=0B") 435 :: Value.str (Str.ofString "=0C") 439 :: Value.str (Str.ofString "\x0d") 1945 :: Value.str (Str.ofString "=0E") 447 :: Value.str (Str.ofString "=0F") 451 :: Value.str (Str.ofString "=10") 455 :: Value.str (Str.ofString "=11") 459 :: Value.str (Str.ofString "=12") 463 :: Value.str (Str.ofString "=13") 467 :: Value.str (Str.ofString "=14") 471 :: Value.str (Str.ofString "=15") 475 :: Value.str (Str.ofString "=16") 479 :: Value.str (Str.ofString "=17") 483 :: Value.str (Str.ofString "=18") 487 :: Value.str (Str.ofString "=19") 491 :: Value.str (Str.ofString "=1A") 495 :: Value.str (Str.ofString "=1B") 499 :: Value.str (Str.ofString "=1C") 503 :: Value.str (Str.ofString "=1D") 507 :: Value.str (Str.ofString "=1E") 511 :: Value.str (Str.ofString "=1F") 515 :: Value.str (Str.ofString " ") 1644 :: Value.str (Str.ofString "!") 1647 :: Value.str (Str.ofString "\"") 1650 :: Value.str (Str.ofString "#") 1653 :: Value.str (Str.ofString "$") 1656 :: Value.str (Str.ofString "%") 1659 :: Value.str (Str.ofString "&") 1662 :: Value.str (Str.ofString "'") 1665 :: Value.str (Str.ofString "(") 1668 :: Value.str (Str.ofString ")") 1671 :: Value.str (Str.ofString "*") 1674 :: Value.str (Str.ofString "+") 1677 :: Value.str (Str.ofString ",") 1680 :: Value.str (Str.ofString "-") 1683 :: Value.str (Str.ofString ".") 1686 :: Value.str (Str.ofString "/") 1689 :: Value.str (Str.ofString "0") 1692 :: Value.str (Str.ofString "1") 1695 :: Value.str (Str.ofString "2") 1698 :: Value.str (Str.ofString "3") 1701 :: Value.str (Str.ofString "4") 1704 :: Value.str (Str.ofString "5") 1707 :: Value.str (Str.ofString "6") 1710 :: Value.str (Str.ofString "7") 1713 :: Value.str (Str.ofString "8") 1716 :: Value.str (Str.ofString "9") 1719 :: Value.str (Str.ofString ":") 1722 :: Value.str (Str.ofString ";") 1725 :: Value.str (Str.ofString "<") 1728 :: Value.str (Str.ofString "=3D") 635 :: Value.str (Str.ofString ">") 1731 :: Value.str (Str.ofString "?") 1734 :: Value.str (Str.ofString "@") 1737 :: Value.str (Str.ofString "A") 1740 :: Value.str (Str.ofString "B") 1743 :: Value.str (Str.ofString "C") 1746 :: Value.str (Str.ofString "D") 1749 :: Value.str (Str.ofString "E") 1752 :: Value.str (Str.ofString "F") 1755 :: Value.str (Str.ofString "G") 1758 :: Value.str (Str.ofString "H") 1761 :: Value.str (Str.ofString "I") 1764 :: Value.str (Str.ofString "J") 1767 :: Value.str (Str.ofString "K") 1770 :: Value.str (Str.ofString "L") 1773 :: Value.str (Str.ofString "M") 1776 :: Value.str (Str.ofString "N") 1779 :: Value.str (Str.ofString "O") 1782 :: Value.str (Str.ofString "P") 1785 :: Value.str (Str.ofString "Q") 1788 :: Value.str (Str.ofString "R") 1791 :: Value.str (Str.ofString "S") 1794 :: Value.str (Str.ofString "T") 1797 :: Value.str (Str.ofString "U") 1800 :: Value.str (Str.ofString "V") 1803 :: Value.str (Str.ofString "W") 1806 :: Value.str (Str.ofString "X") 1809 :: Value.str (Str.ofString "Y") 1812 :: Value.str (Str.ofString "Z") 1815 :: Value.str (Str.ofString "[") 1818 :: Value.str (Str.ofString "\\") 1821 :: Value.str (Str.ofString "]") 1824 :: Value.str (Str.ofString "^") 1827 :: Value.str (Str.ofString "_") 1830 :: Value.str (Str.ofString "`") 1833 :: Value.str (Str.ofString "a") 1836 :: Value.str (Str.ofString "b") 1839 :: Value.str (Str.ofString "c") 1842 :: Value.str (Str.ofString "d") 1845 :: Value.str (Str.ofString "e") 1848 :: Value.str (Str.ofString "f") 1851 :: Value.str (Str.ofString "g") 1854 :: Value.str (Str.ofString "h") 1857 :: Value.str (Str.ofString "i") 1860 :: Value.str (Str.ofString "j") 1863 :: Value.str (Str.ofString "k") 1866 :: Value.str (Str.ofString "l") 1869 :: Value.str (Str.ofString "m") 1872 :: Value.str (Str.ofString "n") 1875 :: Value.str (Str.ofString "o") 1878 :: Value.str (Str.ofString "p") 1881 :: Value.str (Str.ofString "q") 1884 :: Value.str (Str.ofString "r") 1887 :: Value.str (Str.ofString "s") 1890 :: Value.str (Str.ofString "t") 1893 :: Value.str (Str.ofString "u") 1896 :: Value.str (Str.ofString "v") 1899 :: Value.str (Str.ofString "w") 1902 :: Value.str (Str.ofString "x") 1905 :: Value.str (Str.ofString "y") 1908 :: Value.str (Str.ofString "z") 1911 :: Value.str (Str.ofString "{") 1914 :: Value.str (Str.ofString "|") 1917 :: Value.str (Str.ofString "}") 1920 :: Value.str (Str.ofString "~") 1923 :: Value.str (Str.ofString "=7F") 899 :: Value.str (Str.ofString "=80") 903 :: Value.str (Str.ofString "=81") 907 :: Value.str (Str.ofString "=82") 911 :: Value.str (Str.ofString "=83") 915 :: Value.str (Str.ofString "=84") 919 :: Value.str (Str.ofString "=85") 923 :: Value.str (Str.ofString "=86") 927 :: Value.str (Str.ofString "=87") 931 :: Value.str (Str.ofString "=88") 935 :: Value.str (Str.ofString "=89") 939 :: Value.str (Str.ofString "=8A") 943 :: Value.str (Str.ofString "=8B") 947 :: Value.str (Str.ofString "=8C") 951 :: Value.str (Str.ofString "=8D") 955 :: Value.str (Str.ofString "=8E") 959 :: Value.str (Str.ofString "=8F") 963 :: Value.str (Str.ofString "=90") 967 :: Value.str (Str.ofString "=91") 971 :: Value.str (Str.ofString "=92") 975 :: Value.str (Str.ofString "=93") 979 :: Value.str (Str.ofString "=94") 983 :: Value.str (Str.ofString "=95") 987 :: Value.str (Str.ofString "=96") 991 :: Value.str (Str.ofString "=97") 995 :: Value.str (Str.ofString "=98") 999 :: Value.str (Str.ofString "=99") 1003 :: Value.str (Str.ofString "=9A") 1007 :: Value.str (Str.ofString "=9B") 1011 :: Value.str (Str.ofString "=9C") 1015 :: Value.str (Str.ofString "=9D") 1019 :: Value.str (Str.ofString "=9E") 1023 :: Value.str (Str.ofString "=9F") 1027 :: Value.str (Str.ofString "=A0") 1031 :: Value.str (Str.ofString "=A1") 1035 :: Value.str (Str.ofString "=A2") 1039 :: Value.str (Str.ofString "=A3") 1043 :: Value.str (Str.ofString "=A4") 1047 :: Value.str (Str.ofString "=A5") 1051 :: Value.str (Str.ofString "=A6") 1055 :: Value.str (Str.ofString "=A7") 1059 :: Value.str (Str.ofString "=A8") 1063 :: Value.str (Str.ofString "=A9") 1067 :: Value.str (Str.ofString "=AA") 1071 :: Value.str (Str.ofString "=AB") 1075 :: Value.str (Str.ofString "=AC") 1079 :: Value.str (Str.ofString "=AD") 1083 :: Value.str (Str.ofString "=AE") 1087 :: Value.str (Str.ofString "=AF") 1091 :: Value.str (Str.ofString "=B0") 1095 :: Value.str (Str.ofString "=B1") 1099 :: Value.str (Str.ofString "=B2") 1103 :: Value.str (Str.ofString "=B3") 1107 :: Value.str (Str.ofString "=B4") 1111 :: Value.str (Str.ofString "=B5") 1115 :: Value.str (Str.ofString "=B6") 1119 :: Value.str (Str.ofString "=B7") 1123 :: Value.str (Str.ofString "=B8") 1127 :: Value.str (Str.ofString "=B9") 1131 :: Value.str (Str.ofString "=BA") 1135 :: Value.str (Str.ofString "=BB") 1139 :: Value.str (Str.ofString "=BC") 1143 :: Value.str (Str.ofString "=BD") 1147 :: Value.str (Str.ofString "=BE") 1151 :: Value.str (Str.ofString "=BF") 1155 :: Value.str (Str.ofString "=C0") 1159 :: Value.str (Str.ofString "=C1") 1163 :: Value.str (Str.ofString "=C2") 1167 :: Value.str (Str.ofString "=C3") 1171 :: Value.str (Str.ofString "=C4") 1175 :: Value.str (Str.ofString "=C5") 1179 :: Value.str (Str.ofString "=C6") 1183 :: Value.str (Str.ofString "=C7") 1187 :: Value.str (Str.ofString "=C8") 1191 :: Value.str (Str.ofString "=C9") 1195 :: Value.str (Str.ofString "=CA") 1199 :: Value.str (Str.ofString "=CB") 1203 :: Value.str (Str.ofString "=CC") 1207 :: Value.str (Str.ofString "=CD") 1211 :: Value.str (Str.ofString "=CE") 1215 :: Value.str (Str.ofString "=CF") 1219 :: Value.str (Str.ofString "=D0") 1223 :: Value.str (Str.ofString "=D1") 1227 :: Value.str (Str.ofString "=D2") 1231 :: Value.str (Str.ofString "=D3") 1235 :: Value.str (Str.ofString "=D4") 1239 :: Value.str (Str.ofString "=D5") 1243 :: Value.str (Str.ofString "=D6") 1247 :: Value.str (Str.ofString "=D7") 1251 :: Value.str (Str.ofString "=D8") 1255 :: Value.str (Str.ofString "=D9") 1259 :: Value.str (Str.ofString "=DA") 1263 :: Value.str (Str.ofString "=DB") 1267 :: Value.str (Str.ofString "=DC") 1271 :: Value.str (Str.ofString "=DD") 1275 :: Value.str (Str.ofString "=DE") 1279 :: Value.str (Str.ofString "=DF") 1283 :: Value.str (Str.ofString "=E0") 1287 :: Value.str (Str.ofString "=E1") 1291 :: Value.str (Str.ofString "=E2") 1295 :: Value.str (Str.ofString "=E3") 1299 :: Value.str (Str.ofString "=E4") 1303 :: Value.str (Str.ofString "=E5") 1307 :: Value.str (Str.ofString "=E6") 1311 :: Value.str (Str.ofString "=E7") 1315 :: Value.str (Str.ofString "=E8") 1319 :: Value.str (Str.ofString "=E9") 1323 :: Value.str (Str.ofString "=EA") 1327 :: Value.str (Str.ofString "=EB") 1331 :: Value.str (Str.ofString "=EC") 1335 :: Value.str (Str.ofString "=ED") 1339 :: Value.str (Str.ofString "=EE") 1343 :: Value.str (Str.ofString "=EF") 1347 :: Value.str (Str.ofString "=F0") 1351 :: Value.str (Str.ofString "=F1") 1355 :: Value.str (Str.ofString "=F2") 1359 :: Value.str (Str.ofString "=F3") 1363 :: Value.str (Str.ofString "=F4") 1367 :: Value.str (Str.ofString "=F5") 1371 :: Value.str (Str.ofString "=F6") 1375 :: Value.str (Str.ofString "=F7") 1379 :: Value.str (Str.ofString "=F8") 1383 :: Value.str (Str.ofString "=F9") 1387 :: Value.str (Str.ofString "=FA") 1391 :: Value.str (Str.ofString "=FB") 1395 :: Value.str (Str.ofString "=FC") 1399 :: Value.str (Str.ofString "=FD") 1403 :: Value.str (Str.ofString "=FE") 1407 :: Value.str (Str.ofString "=FF") 1411 :: [])) }) ::
  (nat_lit 103, { cls := Value.type "tuple", data := Data.seq #[Value.int 76 1949, Value.str (Str.ofString "\n") 383] }) ::
  (nat_lit 104, { cls := Value.type "tuple", data := Data.seq #[] }) ::
  (nat_lit 106, { cls := Value.type "tuple", data := Data.seq (List.toArray (Value.str (Str.ofString "body") 1953 :: Value.str (Str.ofString "maxlinelen") 1954 :: Value.str (Str.ofString "eol") 1955 :: Value.str (Str.ofString "soft_break") 1956 :: Value.str (Str.ofString "maxlinelen1") 1957 :: Value.str (Str.ofString "encoded_body") 1958 :: Value.str (Str.ofString "append") 1959 :: Value.str (Str.ofString "line") 1960 :: Value.str (Str.ofString "start") 1961 :: Value.str (Str.ofString "laststart") 1962 :: Value.str (Str.ofString "stop") 1963 :: Value.str (Str.ofString "room") 1964 :: Value.str (Str.ofString "q") 1965 :: [])) }) ::
  (nat_lit 107, { cls := Value.type "tuple", data := Data.seq #[] }) ::
  (nat_lit 109, { cls := Value.type "code", data := Data.fields (List.toArray (Value.str (Str.ofString "body_encode") 1950 :: Value.str (Str.ofString "body_encode") 1951 :: Value.str (Str.ofString "/claim/cut.py") 1952 :: Value.int 37 0 :: Value.int 3 0 :: Value.int 0 0 :: Value.int 0 0 :: Value.int 3 0 :: Value.ref 104 :: Value.bool true :: Value.int 276 0 :: Value.ref 105 :: Value.none :: Value.ref 106 :: Value.ref 107 :: Value.ref 108 :: Value.int 1966 0 :: Value.int 37 0 :: Value.str (Str.ofString "/claim/cut.py") 1967 :: [])) }) ::
  (nat_lit 110, fnO 28 (Value.ref 103) (Value.str (Str.ofString "cpy313.email.quoprimime") 1428) 109) ::
  (nat_lit 111, { cls := Value.type "tuple", data := Data.seq #[Value.str (Str.ofString "\n") 383] }) ::
  (nat_lit 112, { cls := Value.type "tuple", data := Data.seq #[] }) ::
  (nat_lit 114, { cls := Value.type "tuple", data := Data.seq #[Value.str (Str.ofString "encoded") 1972, Value.str (Str.ofString "eol") 1973, Value.str (Str.ofString "decoded") 1974, Value.str (Str.ofString "line") 1975, Value.str (Str.ofString "i") 1976, Value.str (Str.ofString "n") 1977, Value.str (Str.ofString "c") 1978] }) ::
  (nat_lit 115, { cls := Value.type "tuple", data := Data.seq #[] }) ::
  (nat_lit 117, { cls := Value.type "code", data := Data.fields (List.toArray (Value.str (Str.ofString "decode") 1969 :: Value.str (Str.ofString "decode") 1970 :: Value.str (Str.ofString "/claim/cut.py") 1971 :: Value.int 75 0 :: Value.int 2 0 :: Value.int 0 0 :: Value.int 0 0 :: Value.int 3 0 :: Value.ref 112 :: Value.bool true :: Value.int 276 0 :: Value.ref 113 :: Value.none :: Value.ref 114 :: Value.ref 115 :: Value.ref 116 :: Value.int 1979 0 :: Value.int 75 0 :: Value.str (Str.ofString "/claim/cut.py") 1980 :: [])) }) ::
  (nat_lit 118, fnO 29 (Value.ref 111) (Value.str (Str.ofString "cpy313.email.quoprimime") 1428) 117) ::
  (nat_lit 119, { cls := Value.type "tuple", data := Data.seq #[] }) ::
  (nat_lit 122, { cls := Value.type "code", data := Data.fields (List.toArray (Value.str (Str.ofString "_law_gone") 1984 :: Value.str (Str.ofString "_law_gone") 1985 :: Value.str (Str.ofString "/claim/cut.py") 1986 :: Value.int 106 0 :: Value.int 2 0 :: Value.int 0 0 :: Value.int 0 0 :: Value.int 3 0 :: Value.ref 119 :: Value.bool true :: Value.int 276 0 :: Value.ref 120 :: Value.none :: Value.none :: Value.none :: Value.ref 121 :: Value.int 1987 0 :: Value.int 106 0 :: Value.str (Str.ofString "/claim/cut.py") 1988 :: [])) }) ::
  (nat_lit 123, fnO 31 (Value.none) (Value.str (Str.ofString "law_ny0173_01") 1982) 122) ::
  (nat_lit 124, { cls := Value.type "tuple", data := Data.seq #[] }) ::
  (nat_lit 127, { cls := Value.type "code", data := Data.fields (List.toArray (Value.str (Str.ofString "_law_mail") 1990 :: Value.str (Str.ofString "_law_mail") 1991 :: Value.str (Str.ofString "/claim/cut.py") 1992 :: Value.int 117 0 :: Value.int 4 0 :: Value.int 0 0 :: Value.int 0 0 :: Value.int 3 0 :: Value.ref 124 :: Value.bool true :: Value.int 276 0 :: Value.ref 125 :: Value.none :: Value.none :: Value.none :: Value.ref 126 :: Value.int 1993 0 :: Value.int 117 0 :: Value.str (Str.ofString "/claim/cut.py") 1994 :: [])) }) ::
  (nat_lit 128, fnO 32 (Value.none) (Value.str (Str.ofString "law_ny0173_01") 1982) 127) ::
  (nat_lit 129, { cls := Value.type "tuple", data := Data.seq #[] }) ::
  (nat_lit 132, { cls := Value.type "code", data := Data.fields (List.toArray (Value.str (Str.ofString "_law_passed_on") 1996 :: Value.str (Str.ofString "_law_passed_on") 1997 :: Value.str (Str.ofString "/claim/cut.py") 1998 :: Value.int 119 0 :: Value.int 2 0 :: Value.int 0 0 :: Value.int 0 0 :: Value.int 3 0 :: Value.ref 129 :: Value.bool true :: Value.int 276 0 :: Value.ref 130 :: Value.none :: Value.none :: Value.none :: Value.ref 131 :: Value.int 1999 0 :: Value.int 119 0 :: Value.str (Str.ofString "/claim/cut.py") 2000 :: [])) }) ::
  (nat_lit 133, fnO 33 (Value.none) (Value.str (Str.ofString "law_ny0173_01") 1982) 132) ::
  (nat_lit 134, { cls := Value.type "tuple", data := Data.seq #[] }) ::
  (nat_lit 137, { cls := Value.type "code", data := Data.fields (List.toArray (Value.str (Str.ofString "law") 2002 :: Value.str (Str.ofString "law") 2003 :: Value.str (Str.ofString "/claim/cut.py") 2004 :: Value.int 126 0 :: Value.int 1 0 :: Value.int 0 0 :: Value.int 0 0 :: Value.int 3 0 :: Value.ref 134 :: Value.bool true :: Value.int 276 0 :: Value.ref 135 :: Value.none :: Value.none :: Value.none :: Value.ref 136 :: Value.int 2005 0 :: Value.int 126 0 :: Value.str (Str.ofString "/claim/cut.py") 2006 :: [])) }) ::
  (nat_lit 138, fnO 34 (Value.none) (Value.str (Str.ofString "law_ny0173_01") 1982) 137) :: []
abbrev heapAs : List Addr := [3, 6, 35, 36, 40, 41, 45, 46, 47, 49, 50, 52, 53, 54, 56, 57, 59, 60, 61, 63, 64, 66, 67, 70, 84, 86, 87, 89, 90, 91, 93, 94, 96, 97, 99, 103, 104, 106, 107, 109, 110, 111, 112, 114, 115, 117, 118, 119, 122, 123, 124, 127, 128, 129, 132, 133, 134, 137, 138]
theorem heap_as (P : Params) : heapAs = (heapK P).map (·.1) := by kernel_rfl
noncomputable abbrev hookK : Hook := kHook heapK heapAs heap_as
theorem hook_is (w : World) : hookK.obs (sf w) = hookK.val w := by kernel_rfl
end Mine
end
section
open PySem PySem.W PyProof.Rows
namespace Mine
set_option maxRecDepth 1000000
set_option maxHeartbeats 0
noncomputable def view : Program := { txt with main := { txt.main with body := [nth 0, nth 2, nth 3, nth 4, nth 5, nth 6, nth 7, nth 8, nth 9, nth 10, nth 11, nth 12, nth 13, nth 14, nth 15, nth 16, nth 17, nth 18, nth 23, nth 24, nth 25, nth 31, nth 32, nth 33, nth 34] } }
abbrev looseV : List Str := [Str.ofString "_twin_re_1", Str.ofString "_twin_re_2", Str.ofString "_twin_re_3", Str.ofString "_QUOPRI_MAP", Str.ofString "_QUOPRI_HEADER_MAP", Str.ofString "_QUOPRI_BODY_MAP", Str.ofString "ascii_letters", Str.ofString "hexdigits", Str.ofString "_QUOPRI_BODY_ENCODE_MAP", Str.ofString "body_encode", Str.ofString "decode"]
abbrev lvV : List (Str × WData) := [(Str.ofString "ascii_letters", WData.str { cps := #[97, 98, 99, 100, 101, 102, 103, 104, 105, 106, 107, 108, 109, 110, 111, 112, 113, 114, 115, 116, 117, 118, 119, 120, 121, 122, 65, 66, 67, 68, 69, 70, 71, 72, 73, 74, 75, 76, 77, 78, 79, 80, 81, 82, 83, 84, 85, 86, 87, 88, 89, 90] }),
  (Str.ofString "hexdigits", WData.str { cps := #[48, 49, 50, 51, 52, 53, 54, 55, 56, 57, 97, 98, 99, 100, 101, 102, 65, 66, 67, 68, 69, 70] })]
noncomputable abbrev rowV : RowW := PySem.Challenge.rw_ny0173_01.row.toRowW
noncomputable abbrev XtV : Shared → Bool := fun s => xlAt view lvV s && recOk (RowW.records rowV) s
theorem z1 (w : World) : ((s0 w).heap.isNs mainGlobals && (s0 w).gens.size == 0) = true := by kernel_rfl
theorem z2 (w : World) : (s0 w).heap.objs.size = 28 := by kernel_rfl
theorem z3 (w : World) : (s0 w).heap.nsMap mainGlobals "__annotations__" = ann0 := by kernel_rfl
theorem l1 (w : World) : (staticsOk (importedModules txt.main.body) (s0 w).heap (sf w).heap && namesBound txt (sf w).heap && gensDone (sf w) && laidKept (s0 w).heap (sf w).heap) = true := by kernel_rfl
theorem seenQ_is (w : World) : PySem.W.Fast.tw4187177175401517315 view looseV (importedModules txt.main.body) XtV true (sf w) = openGood view looseV := by kernel_rfl
theorem seen_is (w : World) : openSeen view looseV (importedModules txt.main.body) XtV true (sf w) = openGood view looseV := by
  rw [PySem.W.Fast.te4187177175401517315]
  exact seenQ_is w
theorem from_of {tb : String → Option Builtin} {p : Program} {w : World} {N n M : Nat} {ann : Option Value} {s s₁ : Shared} (h1 : (s.heap.isNs mainGlobals && s.gens.size == 0) = true) (h2 : s.heap.objs.size = n) (h3 : s.heap.nsMap mainGlobals "__annotations__" = ann)
    (hM : M ≤ N) (h4 : topRun tb p w n ann M s (topStub p) = some s₁) (h5 : (staticsOk (importedModules p.main.body) s.heap s₁.heap && namesBound p s₁.heap && gensDone s₁ && laidKept s.heap s₁.heap) = true) : topFrom tb p w N s = some s₁ := by
  subst h2 h3
  have h' := topRun_mono (N - M) _ _ _ _ h4
  rw [show M + (N - M) = N by omega] at h'
  unfold topFrom
  rw [h1]
  dsimp only
  rw [h']
  show (match (staticsOk (importedModules p.main.body) s.heap s₁.heap && namesBound p s₁.heap && gensDone s₁ && laidKept s.heap s₁.heap) with | true => some s₁ | false => none) = some s₁
  rw [h5]
theorem left_of {p q : Program} {loose : List Str} {Xt : Shared → Bool} {α : Type} {Yf : Shared → α} {Ya : World → α} {w : World} {N : Nat} {s s₁ : Shared} (h0 : fencedOpening treeTable p w N = some s) (h1 : topFrom treeTable p w N s = some s₁)
    (h2 : openSeen q loose (importedModules p.main.body) Xt true s₁ = openGood q loose) (h3 : Yf s₁ = Ya w) :
    (openEnds treeTable p w N).map (fun s => (openSeen q loose (importedModules p.main.body) Xt true s, Yf s)) = some (openGood q loose, Ya w) := by
  unfold openEnds
  rw [h0]
  show (topFrom treeTable p w N s).map _ = _
  rw [h1]
  exact congrArg some (Prod.ext h2 h3)
theorem left_is : LeftO txt view looseV XtV hookK.obs hookK.val 40000 := fun w => by
  obtain ⟨M, hM, h⟩ := top_is w
  exact left_of ((open0_eq w).trans (open0_some w)) (from_of (z1 w) (z2 w) (z3 w) hM h (l1 w)) (seen_is w) (hook_is w)
end Mine
end
section
open PySem PySem.W PyProof.Rows
namespace Mine
set_option maxRecDepth 100000
set_option maxHeartbeats 8000000
theorem said_is : PySem.Challenge.rw_ny0173_01.wellSaid = true := by decide +kernel
theorem well_is : (chainsOk view && opensWell PySem.Challenge.rw_ny0173_01.row.prog && (frees rowV && PySem.Challenge.rw_ny0173_01.row.within.isEmpty)) = true := by decide +kernel
theorem bare_is : PySem.Challenge.rw_ny0173_01.row.prog.bare := ⟨rfl, rfl, rfl, rfl, rfl, by decide +kernel⟩
theorem hdK {d : DefRec} {kwd : List (Str × PySem.Expr)} (h1 : defOf view PySem.Challenge.rw_ny0173_01.row.name = some (d, kwd)) (h2 : PySem.Challenge.rw_ny0173_01.row.prog.theDef PySem.Challenge.rw_ny0173_01.row.name = some (d.params, d.body, d.scope)) (h3 : kwWritten? d.params.kwonlyargs d.params.kw_defaults = some kwd)
    (walk : WalkO view looseV (XL view lvV) (kHook heapK heapAs heap_as).says PySem.Challenge.rw_ny0173_01.row.toRowW d kwd fun f vs => call f vs) : PySem.Challenge.rw_ny0173_01.Holds := by
  refine holds_law said_is fun said => ?_
  refine holds_open (q := view) (loose := looseV) (Xt := XtV) (XP := XL view lvV) (Yf := Hook.obs (kHook heapK heapAs heap_as)) (Ya := Hook.val (kHook heapK heapAs heap_as)) (YP := Hook.says (kHook heapK heapAs heap_as)) (N := 40000) left_is (Hook.of _) (Hook.keeps _) (fun s e => xl_of s (Bool.and_eq_true_iff.mp e).1) XL.keeps h1 h2 h3 (fun s e => recFacts_of (Bool.and_eq_true_iff.mp e).2) (by rfl) said well_is bare_is ?hw walk
  case hw => w_witness2
end Mine
end
section
open PySem PySem.W PyProof.Rows
namespace Mine
set_option maxRecDepth 100000
set_option maxHeartbeats 4000000
/-- what a call of the def at f does, whoever calls it -/
abbrev Con (w : World) (f : Addr) (dB uB : Nat) (pre : Prop) (vs : List Value) (R : Tok → Value) : Prop :=
  ∀ (loose : List Str) (mean : ExcName → Option Value) (mg mb : Str → Option Value) (news : CbLed) (dp un : Nat) (gd : Option (List Code)) (cn : Str) (cs : Scope) (a : Addr) (ccd : Value) (cl : List (Str × Addr)) (outer : List Env) (A₀ : Around) (base h₀ : Heap) (L : Addr) (m : Str → Option Value) (s : Shared) (Q E : Value → Shared → Prop),
    Below A₀ base outer h₀ → Fr h₀ L s.heap m → (Mine.heapK w.params).In h₀ → News h₀ L s.heap news → Top Mine.view loose mean mg mb h₀ → cs.kind = .function →
    pre → dp + dB < recursionLimit → un + uB < cLine → (∀ (t : Tok) (h' : Heap) (tk' : Nat), Fr h₀ L h' m → News h₀ L h' news → Q (R t) { s with heap := h', toks := tk' }) →
    wpAny (model PySem.Challenge.rw_ny0173_01.row.toRowW.prog w) (ktrTop dp un gd cn cs L a ccd cl outer) (call (.ref f) vs) Q E s
theorem pat3 {w : World} {h : Heap} : PySem.Challenge.rw_ny0173_01.name = PySem.Challenge.rw_ny0173_01.name → (Mine.heapK w.params).In h → PatAt h 46 code3 0 := by
  k_fill
  intro _ X
  have h1 := X 46 _ (by k_is)
  have h2 := X 45 _ (by k_is)
  exact ⟨_, _, _, 45, 0, h1, by simpa [code3] using h2⟩
theorem pat1 {w : World} {h : Heap} : PySem.Challenge.rw_ny0173_01.name = PySem.Challenge.rw_ny0173_01.name → (Mine.heapK w.params).In h → PatAt h 36 code1 0 := by
  k_fill
  intro _ X
  have h1 := X 36 _ (by k_is)
  have h2 := X 35 _ (by k_is)
  exact ⟨_, _, _, 35, 0, h1, by simpa [code1] using h2⟩
theorem pat2 {w : World} {h : Heap} : PySem.Challenge.rw_ny0173_01.name = PySem.Challenge.rw_ny0173_01.name → (Mine.heapK w.params).In h → PatAt h 41 code1 1 := by
  k_fill
  intro _ X
  have h1 := X 41 _ (by k_is)
  have h2 := X 40 _ (by k_is)
  exact ⟨_, _, _, 40, 0, h1, by simpa [code1] using h2⟩
section
variable {prog : Program} {w : World} {A : Around} {E : Value → Shared → Prop} {s : Shared} {p : Addr} {h₀ : Heap} {L : Addr} {m : Str → Option Value} {news : List (Addr × Obj)}
theorem sub1_K {x : Str} {t tr : Tok} {Q : Value → Shared → Prop} (F : Fr h₀ L s.heap m) (N : News h₀ L s.heap news) (P : PatAt s.heap p code1 0) (hx : x.cps.size ≤ 1000000)
    (h : ∀ h' t' k', Fr h₀ L h' m → News h₀ L h' news → Q (.str ⟨(subF (cond1 x.cps) [46, 46] x.cps x.cps.size 0).toArray⟩ t') { s with heap := h', toks := k' }) :
    wpAny (model prog w) A (call (.builtin "re.Pattern.sub") [.ref p, .str (Str.ofString "..") tr, .str x t]) Q E s :=
  call_subS P (finds1 _ hx) (by decide +kernel) (by decide +kernel) hx fun h' t' k' hk => h h' t' k' (F.keeps hk) (N.grown hk)
theorem sub3_K {x : Str} {t tr : Tok} {Q : Value → Shared → Prop} (F : Fr h₀ L s.heap m) (N : News h₀ L s.heap news) (P : PatAt s.heap p code3 0) (hx : x.cps.size ≤ 1000000) (no : ∀ c ∈ x.cps.toList, c ≠ 13)
    (h : ∀ h' t' k', Fr h₀ L h' m → News h₀ L h' news → Q (.str ⟨(subF (cond3 x.cps) [13, 10] x.cps x.cps.size 0).toArray⟩ t') { s with heap := h', toks := k' }) :
    wpAny (model prog w) A (call (.builtin "re.Pattern.sub") [.ref p, .str (Str.ofString "\x0d\n") tr, .str x t]) Q E s :=
  call_subS P (finds3 _ fun i hi => by
    have := no (x.cps[i]) (by simp)
    simpa [Array.getD, hi] using this) (by decide +kernel) (by decide +kernel) hx fun h' t' k' hk => h h' t' k' (F.keeps hk) (N.grown hk)
theorem sub2_K {x : Array UInt8} {t tr : Tok} {Q : Value → Shared → Prop} (F : Fr h₀ L s.heap m) (N : News h₀ L s.heap news) (P : PatAt s.heap p code1 1) (hx : (x.map (·.toNat)).size ≤ 1000000)
    (h : ∀ h' t' k', Fr h₀ L h' m → News h₀ L h' news → Q (.bytes ((subF (cond1 (x.map (·.toNat))) [46, 46] (x.map (·.toNat)) (x.map (·.toNat)).size 0).map Nat.toUInt8).toArray t') { s with heap := h', toks := k' }) :
    wpAny (model prog w) A (call (.builtin "re.Pattern.sub") [.ref p, .bytes #[46, 46] tr, .bytes x t]) Q E s :=
  call_subB P (finds1 _ hx) (by decide +kernel) (by decide +kernel) hx fun h' t' k' hk => h h' t' k' (F.keeps hk) (N.grown hk)
end
theorem subF_len {c : Nat → Bool} {r : List Nat} {x : Array Nat} (hr : r.length ≤ 2) : ∀ (k p : Nat), (subF c r x k p).length ≤ 2 * k
  | 0, _ => by simp [subF]
  | k + 1, p => by
    have := subF_len (c := c) (x := x) hr k (p + 1)
    rw [subF]
    split <;> simp only [List.length_append, List.length_cons, List.length_nil] <;> omega
theorem sub3_size {x : Str} (h : x.cps.size ≤ 100000) : (Str.mk (subF (cond3 x.cps) [13, 10] x.cps x.cps.size 0).toArray).cps.size ≤ 1000000 := by
  have := subF_len (c := cond3 x.cps) (r := [13, 10]) (x := x.cps) (by simp) x.cps.size 0
  simp only [List.size_toArray]
  omega
local macro_rules | `(tactic| walk_at "getMethod ref") => `(tactic| (first | refine gm_sub (pat3 rfl (by k_in)) ?_ | refine gm_sub (pat1 rfl (by k_in)) ?_ | refine gm_sub (pat2 rfl (by k_in)) ?_))
local macro_rules | `(tactic| walk_at "call builtin:re.Pattern.sub") => `(tactic| (k_dflt (first
  | (refine' sub3_K ?F ?N (pat3 rfl (by k_in)) ?hx ?no ?_; (case F => k_asm); (case N => k_asm); (case hx => k_extra "size"); (case no => k_extra "no13"))
  | (refine' sub1_K ?F ?N (pat1 rfl (by k_in)) ?hx ?_; (case F => k_asm); (case N => k_asm); (case hx => k_extra "size"))
  | (refine' sub2_K ?F ?N (pat2 rfl (by k_in)) ?hx ?_; (case F => k_asm); (case N => k_asm); (case hx => k_extra "size"))); intro h' t' k' F' N'))
theorem C_fix (w : World) (x : Str) (t : Tok) : Con w 67 1 8 (x.cps.size ≤ 100000 ∧ ∀ c ∈ x.cps.toList, c ≠ 13) [.str x t] (fun t => .str ⟨(subF (cond3 x.cps) [13, 10] x.cps x.cps.size 0).toArray⟩ t) := by
    unfold Con
    k_fill
    k_with "size" => omega
    k_with "no13" => assumption
    intros
    rename_i hpre _ _ hret
    obtain ⟨hsz, hno⟩ := hpre
    refine wpAny_call ?_
    k_dflt cell_enter
    k_steps
    all_goals cb_end hret
theorem C_qd (w : World) (x : Str) (t : Tok) : Con w 53 1 8 (x.cps.size ≤ 100000 ∧ ∀ c ∈ x.cps.toList, c ≠ 13) [.str x t] (fun t => .str ⟨quoted (fixed x.cps)⟩ t) := by
    unfold Con
    k_fill
    k_with "size" => (first | omega | exact sub3_size (by assumption))
    k_with "no13" => assumption
    intros
    rename_i hpre _ _ hret
    obtain ⟨hsz, hno⟩ := hpre
    refine wpAny_call ?_
    k_dflt cell_enter
    k_steps
    all_goals cb_end hret
theorem C_qp (w : World) (x : Array UInt8) (t : Tok) : Con w 60 1 8 ((x.map (·.toNat)).size ≤ 1000000) [.bytes x t] (fun t => .bytes ((quoted (x.map (·.toNat))).toList.map Nat.toUInt8).toArray t) := by
    unfold Con
    k_fill
    k_with "size" => assumption
    intros
    rename_i hpre _ _ hret
    refine wpAny_call ?_
    k_dflt cell_enter
    k_steps
    all_goals exact hret _ _ _ (by k_asm) (by k_asm)
end Mine
end
section
open PySem PySem.W PyProof.Rows
namespace Mine
set_option maxRecDepth 100000
set_option maxHeartbeats 4000000
theorem typeCall2 (a b : Value) : checkTypeCall "int" ⟨[a, b], []⟩ = pure () := by kernel_rfl
theorem newCall2 (a b : Value) : checkBuiltinCall "int.__new__" ⟨[.type "int", a, b], []⟩ = pure () := by kernel_rfl
theorem args_init3 (a b c : Value) : argsOk "object.__init__" ⟨[a, b, c], []⟩ := by
  unfold argsOk
  first | kernel_rfl | rfl
def hexPairs : List (Nat × Nat) := hexs.flatMap fun a => hexs.map fun b => (a, b)
theorem read_pairs : (hexPairs.map fun p => (int_private% "readNumeral") 0 16 [p.1, p.2]) = hexPairs.map fun p => (int_private% "Numeral.value") ((hexV p.1 * 16 + hexV p.2 : Nat) : Int) := by kernel_rfl
theorem read_hex {a b : Nat} (ha : a ∈ hexs) (hb : b ∈ hexs) : (int_private% "readNumeral") 0 16 [a, b] = (int_private% "Numeral.value") ((hexV a * 16 + hexV b : Nat) : Int) := by
  have h := List.map_inj_left.mp read_pairs (a, b) (List.mem_flatMap.mpr ⟨a, ha, List.mem_map.mpr ⟨b, hb, rfl⟩⟩)
  exact h
theorem hexs_pos {a : Nat} (ha : a ∈ hexs) : a ≠ 0 ∧ a < 128 := by
  have : ∀ x ∈ hexs, x ≠ 0 ∧ x < 128 := by decide
  exact this a ha
theorem hexV_lt {a : Nat} (ha : a ∈ hexs) : hexV a < 16 := by
  have : ∀ x ∈ hexs, hexV x < 16 := by decide
  exact this a ha
theorem wp_text16 {M : Model} {A : Around} {E : Value → Shared → Prop} {s : Shared} {Q : Value → Shared → Prop} {v : Value} {text : List Nat} {n : Int}
    (hs : (text.takeWhile (· != 0)).length ≤ 640) (hr : (int_private% "readNumeral") 0 16 (text.takeWhile (· != 0)) = (int_private% "Numeral.value") n)
    (ha : ((text.takeWhile (· != 0)).length == text.length) = true) (h : Q (.int n s.toks) { s with toks := s.toks + 1 }) :
    wpAny M A ((int_private% "intFromText") v text 16) Q E s := by
  obtain ⟨hp, g, d, tk, os⟩ := s
  repeat (any_goals (first
    | assumption
    | (with_reducible refine wpAny_ite_true (decide_eq_true hs) ?_)
    | (with_reducible refine wpAny_ite_true (decide_eq_true ha) ?_)
    | wp_step))
  all_goals (try rw [hr])
  all_goals (try dsimp only)
  repeat (any_goals (first
    | assumption
    | (with_reducible refine wpAny_ite_true (decide_eq_true hs) ?_)
    | (with_reducible refine wpAny_ite_true (decide_eq_true ha) ?_)
    | wp_step))
theorem gives_hex {a b : Nat} (ha : a ∈ hexs) (hb : b ∈ hexs) {u v : Tok} : Gives (Builtin.«int.__new__» ⟨[.type "int", .str ⟨#[a, b]⟩ u, .int 16 v], []⟩) (.int ((hexV a * 16 + hexV b : Nat) : Int)) :=
  .of_wp fun M A E s Q h => by
    obtain ⟨hp, g, d, tk, os⟩ := s
    have f1 := F.conv_sub_int
    have f2 := F.madeHere_int
    have h1 := hexs_pos ha
    have h2 := hexs_pos hb
    have e1 : (a != 0) = true := by simpa using h1.1
    have e2 : (b != 0) = true := by simpa using h2.1
    have e : [a, b].takeWhile (· != 0) = [a, b] := by simp [List.takeWhile_cons, e1, e2]
    have r := read_hex ha hb
    have all128 : (#[a, b] : Array Nat).all (fun x => decide (x < 128)) = true := by simp [h1.2, h2.2]
    have et : (if ((Str.mk #[a, b]).cps.all fun x => decide (x < 128)) = true then (Str.mk #[a, b]).cps.toList else Unicode.numberText (Str.mk #[a, b]).cps.toList) = [a, b] := by rw [if_pos all128]
    have h640 : ((if ((Str.mk #[a, b]).cps.all fun x => decide (x < 128)) = true then (Str.mk #[a, b]).cps.toList else Unicode.numberText (Str.mk #[a, b]).cps.toList).takeWhile (· != 0)).length ≤ 640 := by rw [et, e]; simp
    have hr : (int_private% "readNumeral") 0 16 ((if ((Str.mk #[a, b]).cps.all fun x => decide (x < 128)) = true then (Str.mk #[a, b]).cps.toList else Unicode.numberText (Str.mk #[a, b]).cps.toList).takeWhile (· != 0)) = (int_private% "Numeral.value") ((hexV a * 16 + hexV b : Nat) : Int) := by rw [et, e]; exact r
    have hq : (((if ((Str.mk #[a, b]).cps.all fun x => decide (x < 128)) = true then (Str.mk #[a, b]).cps.toList else Unicode.numberText (Str.mk #[a, b]).cps.toList).takeWhile (· != 0)).length == (if ((Str.mk #[a, b]).cps.all fun x => decide (x < 128)) = true then (Str.mk #[a, b]).cps.toList else Unicode.numberText (Str.mk #[a, b]).cps.toList).length) = true := by rw [et, e]; rfl
    have hk := KIN.Hid.mk (And.intro h640 (And.intro hr hq))
    clear e r h1 h2 e1 e2 h640 hr hq et all128
    repeat (any_goals (first
      | assumption
      | ((with_reducible show wpAny _ _ ((int_private% "intFromText") _ _ _) _ _ _); refine wp_text16 hk.out.1 hk.out.2.1 hk.out.2.2 ?_)
      | wp_step))
    all_goals first | exact ⟨_, rfl, h⟩ | skip
section
variable {prog : Program} {w : World} {A : Around} {E : Value → Shared → Prop} {s : Shared} {Q : Value → Shared → Prop}
theorem call_hex {a b : Nat} {t u : Tok} (ha : a ∈ hexs) (hb : b ∈ hexs) (h : Q (.int ((hexV a * 16 + hexV b : Nat) : Int) s.toks) { s with toks := s.toks + 1 }) : wpAny (model prog w) A (call (.type "int") [.str ⟨#[a, b]⟩ t, .int 16 u]) Q E s :=
  callType_new F.called_int F.newNe_int (typeCall2 _ _) (newCall2 _ _) (fun obj => args_init3 obj _ _) F.entry_int_new (gives_hex ha hb).meets (show (Made.int _).post _ s from ⟨rfl, h⟩)
end
end Mine
end
section
open PySem PySem.W PyProof.Rows
namespace Mine
set_option maxRecDepth 100000
set_option maxHeartbeats 4000000
theorem slice13 (a b : Nat) : Txt.slice ⟨#[61, a, b]⟩ (some 1) (some 3) = ⟨#[a, b]⟩ := by
  first | rfl | (unfold Txt.slice; rfl) | (unfold Txt.slice; simp)
theorem C_quote32 (w : World) (t : Tok) : Con w 97 1 8 True [.str (Str.ofString " ") t] (fun t => .str ⟨#[61, 50, 48]⟩ t) := by
    unfold Con
    k_fill
    intros
    rename_i hpre _ _ hret
    refine wpAny_call ?_
    k_dflt cell_enter
    k_steps
    all_goals cb_end hret
theorem C_quote9 (w : World) (t : Tok) : Con w 97 1 8 True [.str (Str.ofString "\t") t] (fun t => .str ⟨#[61, 48, 57]⟩ t) := by
    unfold Con
    k_fill
    intros
    rename_i hpre _ _ hret
    refine wpAny_call ?_
    k_dflt cell_enter
    k_steps
    all_goals cb_end hret
local macro_rules | `(tactic| walk_at "call type:int") => `(tactic| (rw [slice13]; refine call_hex (by assumption) (by assumption) ?_))
theorem C_unq (w : World) (a b : Nat) (t : Tok) : Con w 90 1 8 (a ∈ hexs ∧ b ∈ hexs) [.str ⟨#[61, a, b]⟩ t] (fun t => .str ⟨#[hexV a * 16 + hexV b]⟩ t) := by
    unfold Con
    k_fill
    intros
    rename_i hpre _ _ hret
    obtain ⟨ha, hb⟩ := hpre
    have ha' := hexV_lt ha
    have hb' := hexV_lt hb
    refine wpAny_call ?_
    k_dflt cell_enter
    k_steps
    all_goals cb_end hret
end Mine
end
section
open PySem PySem.W PyProof.Rows
namespace Mine
set_option maxRecDepth 100000
set_option maxHeartbeats 4000000
section
variable {prog : Program} {w : World} {A : Around} {E : Value → Shared → Prop} {s : Shared} {x y : Str} {t u : Tok} {Q : Value → Shared → Prop}
theorem ne_eqs {a : Nat} (h : Q (.bool (decide (a ≠ 61))) s) : wpAny (model prog w) A (compareOp .NotEq (.str ⟨#[a]⟩ u) (.str (Str.ofString "=") t)) Q E s := by
  have e : Str.ofString "=" = ⟨#[61]⟩ := by decide +kernel
  rw [e]; exact ne_one h
theorem in_hex {a : Nat} (hx : x.cps.toList = hexs) (h : Q (.bool (decide (a ∈ hexs))) s) : wpAny (model prog w) A (compareOp .In (.str ⟨#[a]⟩ u) (.str x t)) Q E s := by
  refine in_one ?_
  rw [hx]; exact h
end
theorem rstrip_len (x : Str) : (Txt.rstrip x).length ≤ x.length := fact_rstrip x
theorem nl_cps : (Str.ofString "\n").cps = #[10] := by decide +kernel
theorem len_nl : (Str.ofString "\n").length = 1 := by rw [Str.length, nl_cps]; rfl
theorem len_one (a : Nat) : (Str.mk #[a]).length = 1 := rfl
theorem take_more {ls : List Str} {i : Nat} {ln : Str} (h : ls[i]? = some ln) : (ls.take (i + 1)).flatMap decL = (ls.take i).flatMap decL ++ decL ln := by
  rw [List.take_add_one, h]; simp
theorem decL_nil {ln : Str} (h : (Txt.rstrip ln).length = 0) : decL ln = [10] := by
  have e : (Txt.rstrip ln).cps.toList = [] := by
    have : (Txt.rstrip ln).cps.size = 0 := h
    exact List.eq_nil_of_length_eq_zero (by simpa using this)
  unfold decL
  simp only [e]; rfl
theorem decL_not {ln : Str} (h : (Txt.rstrip ln).length ≠ 0) : decL ln = decT (Txt.rstrip ln).cps.toList := by
  unfold decL
  have : ((Txt.rstrip ln).cps.toList).isEmpty = false := by
    cases e : (Txt.rstrip ln).cps.toList with
    | nil => exact absurd (by have := congrArg List.length e; simpa [Str.length] using this) h
    | cons a l => rfl
  simp only [this]; rfl
local macro_rules | `(tactic| walk_at "subscriptTail Name Name str int") => `(tactic| (refine at_tail (by omega) (by omega) (by omega) ?_))
local macro_rules | `(tactic| walk_at "subscriptTail Name BinOp str int") => `(tactic| (refine at_tail (by omega) (by omega) (by omega) ?_))
local macro_rules | `(tactic| walk_at "compareOp NotEq str str") => `(tactic| (refine ne_eqs ?_))
local macro_rules | `(tactic| walk_at "compareOp In str str") => `(tactic| (refine in_hex (by decide +kernel) ?_))
local macro_rules | `(tactic| walk_at "inplaceOp Add str str") => `(tactic| ((refine SBL.iadd (hsz := ?hsz) ?_); (case hsz => ((have e9 : sizeLine = 16777216 := rfl); (try simp only [len_one, len_nl]); omega)); intro _ _ _))
local macro_rules | `(tactic| walk_at "WPost") => `(tactic| (dsimp only [WPost]))
theorem C_dec (w : World) (x : Str) (t : Tok) : Con w 118 3 30 (x.cps.size ≤ 2000 ∧ x.cps.size ≠ 0 ∧ (Txt.lines x).length ≤ 2000) [.str x t] (fun t => .str (decS x) t) := by
    unfold Con
    k_fill
    intros
    rename_i hpre _ _ hret
    obtain ⟨hsz, hne, hlns⟩ := hpre
    have hle : x.length ≤ 2000 := hsz
    have hle' : x.length ≠ 0 := hne
    refine wpAny_call ?_
    k_dflt (refine' code_def ?k1 ?k2 ?k3 ?k4 ?k5 ?kA ?kF ?kK ?k6 ?k7 ?k8 ?k9 ?kB ?_ ?c2 ?c3 ?c4 ?c5; (case kA => exact rfl); (case kF => exact rfl); (case kK => assumption); (case k1 => k_asm); (case k2 => k_asm); (case k3 => k_asm); (case k4 => k_asm); (case k5 => k_asm); (case k6 => k_is); (case k7 => k_is); (case k8 => ktr_room); (case k9 => exact binds_K (by k_in) rfl (by k_is) rfl rfl rfl); (case c5 => decide); (case kB => exact locs rfl); (case c2 => exact rfl); (case c3 => exact rfl); (case c4 => exact rfl); k_whole; intro g' L' h' FG' F' N' B' X' T'; (try dsimp only); (try k_lift B'); (try k_fold))
    k_with_none
    k_with "pyIter ref" =>
      (rename_i l h1 k1 hl1 hl2 hl3 hl4 F1 N1; refine forH (fun i m nx => nx = _ ∧ ∃ d td, m (Str.ofString "encoded") = some (.str x t) ∧ m (Str.ofString "eol") = some (.str (Str.ofString "\n") 383) ∧ m (Str.ofString "decoded") = some (.str d td) ∧ d.cps.toList = ((l.map (·.1)).take i).flatMap decL ∧ d.length ≤ i * 4001) rfl (by k_mem) F1 N1 ⟨rfl, _, _, rfl, rfl, rfl, rfl, by decide⟩ ?_ ?_)
    k_steps
    rotate_left 2
    · exfalso; omega
    · rename_i l h1 k1 hl1 hl2 hl3 hl4 F1 N1
      rw [← hl1] at hlns
      rintro i v m₁ news₁ h tk own hv hoff hmem ⟨rfl, d, td, e1, e2, e3, hd, hdl⟩ F2 N2
      obtain ⟨ln, tl, rfl, hln, hin⟩ := strs_at hv
      have hll := hl3 ln hin
      have hi : i < (l.map (·.1)).length := (List.getElem?_eq_some_iff.mp hln).1
      have hdb : d.length ≤ 8002000 := Nat.le_trans hdl (by
        have : i ≤ 2000 := by omega
        have := Nat.mul_le_mul_right 4001 this
        omega)
      have F3 : Fr g' L' h _ := Fr_over1 F2 [(Str.ofString "encoded", .str x t), (Str.ofString "eol", .str (Str.ofString "\n") 383), (Str.ofString "decoded", .str d td)] (by
        intro p hp
        simp only [List.mem_cons, List.not_mem_nil, or_false] at hp
        rcases hp with rfl | rfl | rfl
        · exact e1
        · exact e2
        · exact e3)
      have N3 : News g' L' h _ := N2
      clear F2 N2 F1 N1 e1 e2 e3 hv
      dsimp only [kstB] at F3
      have hrl := rstrip_len ln
      k_with_none
      k_with "exec While Compare cons nil" => (refine holdIt ?_)
      k_steps
      rotate_left 1
      · have hr0 : (Txt.rstrip ln).length = 0 := by omega
        refine InvEndG.intro (nx := _) (by k_asm) (by k_asm) ⟨hmem, rfl, d ++ Str.ofString "\n", _, rfl, rfl, rfl, ?_, ?_⟩ hoff ?_ ?_
        · rw [take_more hln, decL_nil hr0, cps_app, hd, nl_cps]
        · rw [len_app]
          have : (Str.ofString "\n").length = 1 := by rw [Str.length, nl_cps]; rfl
          have : (i + 1) * 4001 = i * 4001 + 4001 := by omega
          omega
        · intro p hp
          exact List.mem_append_left _ hp
        · intro p hp
          exact List.mem_append_right _ hp
      · have hr0 : (Txt.rstrip ln).length ≠ 0 := by omega
        refine whileH (fun _ => _) (fun (c : Nat × Tok × Str × Tok) => [(Str.ofString "i", .int c.1 c.2.1), (Str.ofString "decoded", .str c.2.2.1 c.2.2.2)]) [Str.ofString "c"] (fun c => DP (Txt.rstrip ln) d c.1 c.2.2.1) (fun c => (Txt.rstrip ln).length - c.1) (0, ?ti, d, ?td) (by k_asm) (by k_asm) ?hk ?hp ?turn
        case hk =>
          intro p hp
          simp only [List.mem_cons, List.not_mem_nil, or_false] at hp
          rcases hp with rfl | rfl <;> rfl
        case hp => exact DP.start hr0
        case turn =>
          rintro ⟨j, tj, d1, td1⟩ u h9 tk9 P9 F9 N9
          have hi9 := P9.le
          have hl9 := P9.len
          dsimp only at P9 hi9 hl9
          dsimp only [kstB] at F9
          k_with_none
          k_with "call ref" => (refine holdIt ?_)
          k_steps
          · refine Hold.mk (ksw_end (j + 1, ?ta1, d1 ++ ⟨#[at_ (Txt.rstrip ln) (j : Int).toNat]⟩ ++ Str.ofString "\n", ?tb1) (by k_asm) (by k_asm) (fun p hp => hp) trivial ?hk ?hs (P9.az (by omega) (by assumption) nl_cps) ?hm)
            case hk =>
              intro p hp
              simp only [List.mem_cons, List.not_mem_nil, or_false] at hp
              rcases hp with rfl | rfl <;> rfl
            case hs => ksw_same
            case hm => dsimp only; omega
          · refine Hold.mk (ksw_end (j + 1, ?ta2, d1 ++ ⟨#[at_ (Txt.rstrip ln) (j : Int).toNat]⟩, ?tb2) (by k_asm) (by k_asm) (fun p hp => hp) trivial ?hk ?hs (P9.a (by omega) (by assumption)) ?hm)
            case hk =>
              intro p hp
              simp only [List.mem_cons, List.not_mem_nil, or_false] at hp
              rcases hp with rfl | rfl <;> rfl
            case hs => ksw_same
            case hm => dsimp only; omega
          · refine Hold.mk (ksw_end (j + 1, ?ta3, d1, ?tb3) (by k_asm) (by k_asm) (fun p hp => hp) trivial ?hk ?hs (P9.b (by omega) (Decidable.not_not.mp (by assumption))) ?hm)
            case hk =>
              intro p hp
              simp only [List.mem_cons, List.not_mem_nil, or_false] at hp
              rcases hp with rfl | rfl <;> rfl
            case hs => ksw_same
            case hm => dsimp only; omega
          · refine Hold.mk ?_
            have ha9 : at_ (Txt.rstrip ln) j = 61 := Decidable.not_not.mp (by assumption)
            have hb9 : at_ (Txt.rstrip ln) (j + 1) ∈ hexs := by assumption
            have hc9 : at_ (Txt.rstrip ln) (j + 2) ∈ hexs := by assumption
            rw [slice61 (by omega) ha9]
            k_dflt (refine' C_unq w _ _ _ _ _ _ _ _ _ _ _ _ _ _ _ _ _ _ _ _ _ _ _ _ _ ?k1 ?k2 ?k3 ?k4 ?k5 ?kK ?kp ?kd ?ku ?kR; (case k1 => k_asm); (case k2 => k_asm); (case k3 => k_asm); (case k4 => k_asm); (case k5 => k_asm); (case kK => first | exact rfl | assumption); (case kp => exact ⟨hb9, hc9⟩); (case kd => ktr_room); (case ku => ktr_units))
            intro t9 h9 tk9 F9 N9
            dsimp only
            k_steps
            · refine Hold.mk (ksw_end (j + 3, ?ta21, d1 ++ ⟨#[hexV (at_ (Txt.rstrip ln) (j + 1)) * 16 + hexV (at_ (Txt.rstrip ln) (j + 2))]⟩ ++ Str.ofString "\n", ?tb21) (by k_asm) (by k_asm) (fun p hp => hp) trivial ?hk ?hs (P9.cz (by omega) ha9 hb9 hc9 nl_cps) ?hm)
              case hk =>
                intro p hp
                simp only [List.mem_cons, List.not_mem_nil, or_false] at hp
                rcases hp with rfl | rfl <;> rfl
              case hs => ksw_same
              case hm => dsimp only; omega
            · refine Hold.mk (ksw_end (j + 3, ?ta22, d1 ++ ⟨#[hexV (at_ (Txt.rstrip ln) (j + 1)) * 16 + hexV (at_ (Txt.rstrip ln) (j + 2))]⟩, ?tb22) (by k_asm) (by k_asm) (fun p hp => hp) trivial ?hk ?hs (P9.c (by omega) ha9 hb9 hc9) ?hm)
              case hk =>
                intro p hp
                simp only [List.mem_cons, List.not_mem_nil, or_false] at hp
                rcases hp with rfl | rfl <;> rfl
              case hs => ksw_same
              case hm => dsimp only; omega
          · exfalso; omega
          · refine Hold.mk (ksw_end (j + 1, ?ta4, d1 ++ ⟨#[at_ (Txt.rstrip ln) (j : Int).toNat]⟩, ?tb4) (by k_asm) (by k_asm) (fun p hp => hp) trivial ?hk ?hs (P9.d (by omega) (Decidable.not_not.mp (by assumption)) (by rintro ⟨q1, q2, q3⟩; first | contradiction | omega)) ?hm)
            case hk =>
              intro p hp
              simp only [List.mem_cons, List.not_mem_nil, or_false] at hp
              rcases hp with rfl | rfl <;> rfl
            case hs => ksw_same
            case hm => dsimp only; omega
          · exfalso; omega
          · refine Hold.mk (ksw_end (j + 1, ?ta5, d1 ++ ⟨#[at_ (Txt.rstrip ln) (j : Int).toNat]⟩, ?tb5) (by k_asm) (by k_asm) (fun p hp => hp) trivial ?hk ?hs (P9.d (by omega) (Decidable.not_not.mp (by assumption)) (by rintro ⟨q1, q2, q3⟩; first | contradiction | omega)) ?hm)
            case hk =>
              intro p hp
              simp only [List.mem_cons, List.not_mem_nil, or_false] at hp
              rcases hp with rfl | rfl <;> rfl
            case hs => ksw_same
            case hm => dsimp only; omega
          · exfalso; omega
          · refine Hold.mk (ksw_end (j + 1, ?ta6, d1 ++ ⟨#[at_ (Txt.rstrip ln) (j : Int).toNat]⟩, ?tb6) (by k_asm) (by k_asm) (fun p hp => hp) trivial ?hk ?hs (P9.d (by omega) (Decidable.not_not.mp (by assumption)) (by rintro ⟨q1, q2, q3⟩; first | contradiction | omega)) ?hm)
            case hk =>
              intro p hp
              simp only [List.mem_cons, List.not_mem_nil, or_false] at hp
              rcases hp with rfl | rfl <;> rfl
            case hs => ksw_same
            case hm => dsimp only; omega
          · have hjn : j = (Txt.rstrip ln).length := by omega
            have hfin := P9.fin hjn
            refine InvEndG.intro (nx := _) (by k_asm) (by k_asm) ⟨hmem, rfl, d1, _, rfl, rfl, rfl, ?_, ?_⟩ hoff ?_ ?_
            · rw [take_more hln, hfin, hd, decL_not hr0]
            · have : (i + 1) * 4001 = i * 4001 + 4001 := by omega
              omega
            · intro p hp
              exact List.mem_append_left _ hp
            · intro p hp
              exact List.mem_append_right _ hp
    · rename_i l h1 k1 hl1 hl2 hl3 hl4 F1 N1
      rintro m₁ news₁ h tk ⟨rfl, d, td, e1, e2, e3, hd, hdl⟩ F2 N2
      have hvl : (strValues l).length = (l.map (·.1)).length := by simp [strValues]
      rw [hvl, List.take_length, hl1] at hd
      rw [hvl, hl1] at hdl
      have hdb : d.length ≤ 8002000 := Nat.le_trans hdl (by
        have := Nat.mul_le_mul_right 4001 hlns
        omega)
      have F3 : Fr g' L' h _ := Fr_over F2 [(Str.ofString "encoded", .str x t), (Str.ofString "eol", .str (Str.ofString "\n") 383), (Str.ofString "decoded", .str d td)] (by
        intro p hp
        simp only [List.mem_cons, List.not_mem_nil, or_false] at hp
        rcases hp with rfl | rfl | rfl
        · exact e1
        · exact e2
        · exact e3)
      have N3 : News g' L' h _ := N2
      clear F2 N2 F1 N1 e1 e2 e3
      dsimp only [kstB] at F3
      k_with_none
      have ed : d = decD x := by
        cases d with
        | mk c =>
          simp only at hd
          unfold decD
          rw [← hd]
      k_steps
      · rename_i _ kF kN _ _
        have e : decS x = Txt.slice d none (some (-1)) := by
          unfold decS
          rw [← ed, if_pos (by assumption), if_pos (by assumption)]
        rw [e] at hret
        exact hret _ _ _ kF (cb_drop kN fun p hp => List.mem_cons_of_mem _ hp)
      · rename_i _ kF kN _ _
        have e : decS x = d := by
          unfold decS
          rw [← ed, if_pos (by assumption), if_neg (Bool.eq_false_iff.mp (by assumption))]
        rw [← e]
        exact hret _ _ _ kF (cb_drop kN fun p hp => List.mem_cons_of_mem _ hp)
      · rename_i _ kF kN _ _
        have e : decS x = d := by
          unfold decS
          rw [← ed, if_neg (Bool.eq_false_iff.mp (by assumption))]
        rw [← e]
        exact hret _ _ _ kF (cb_drop kN fun p hp => List.mem_cons_of_mem _ hp)
end Mine
end
section
open PySem PySem.W PyProof.Rows
namespace Mine
set_option maxRecDepth 100000
def boundApp (a : Addr) : Obj := { cls := .type "builtin_function_or_method", data := .fields #[.builtin "list.append", .ref a] }
theorem slot_mdget : Slot "method_descriptor" "__get__" "method_descriptor.__get__" :=
  .of (owner := "method_descriptor") (n := "__get__") (by rw [typeLookup_type, builtinLookup_eq_fast]; kernel_rfl) (by decide +kernel) (by decide +kernel) (by decide +kernel)
    (by first | exact .inl (by decide +kernel) | exact .inr (by decide +kernel)) (by rw [isSubtype_type]; kernel_rfl)
theorem entry_mdget : entryFor table "method_descriptor.__get__" = some Builtin.«method_descriptor.__get__» := entryFor_of_tree (by kernel_rfl)
theorem args_mdget (a b c : Value) : argsOk "method_descriptor.__get__" ⟨[a, b, c], []⟩ := by unfold argsOk; kernel_rfl
theorem type_app : typeOf (.builtin "list.append") = pure (.type "method_descriptor") := PySem.F.type_list_append
theorem owner_app : (kfb_private% "ownerAndName") "list.append" = ("list", "append") := by first | decide +kernel | kernel_rfl
theorem told_app : Manifest.toldItsClass.contains "list.append" = false := by decide +kernel
theorem md_set : typeLookup (.type "method_descriptor") "__set__" = pure none := by rw [typeLookup_type, builtinLookup_eq_fast]; kernel_rfl
theorem md_del : typeLookup (.type "method_descriptor") "__delete__" = pure none := by rw [typeLookup_type, builtinLookup_eq_fast]; kernel_rfl
theorem sub_list : isSubtype (.type "list") (.type "list") = pure true := by rw [isSubtype_type]; kernel_rfl
section
variable {prog : Program} {w : World} {M : Model} {A : Around} {E : Value → Shared → Prop} {s : Shared} {a : Addr} {xs : Array Value} {k : Nat}
theorem ci_app {Q : Unit → Shared → Prop} (hx : s.heap.get? a = some (listOf xs k)) (h : Q () s) : wpAny M A ((kfb_private% "checkInstance") (.builtin "list.append") (.ref a)) Q E s := by
  have hT : s.TypeIs (.ref a) "list" := ⟨_, hx, rfl⟩
  show wpAny M A (((kfb_private% "nameAndClass") (.builtin "list.append")) >>= _) Q E s
  refine wpAny_bind (wpAny_of_eq (a := (PySem.Str.ofString "append", .type "list")) (by first | rfl | kernel_rfl) ?_)
  have f := sub_list
  obtain ⟨hp, g, d, tk, os⟩ := s
  repeat (any_goals (first | assumption | wp_step))
theorem run_mdget {P : Fin → Shared → Prop} (hx : s.heap.get? a = some (listOf xs k)) (h : P (.done (.ret (.ref s.heap.objs.size))) { s with heap := s.heap.push (boundApp a) }) :
    wpAny M A (Builtin.«method_descriptor.__get__» ⟨[.builtin "list.append", .ref a, .type "list"], []⟩) P E s := by
  unfold Builtin.«method_descriptor.__get__»
  refine wpAny_bind (wpAny_of_eq (a := (.builtin "list.append", some (.ref a), some (.type "list"))) (by first | rfl | kernel_rfl) ?_)
  simp only [told_app]
  show wpAny M A ((kfb_private% "checkInstance") (.builtin "list.append") (.ref a) >>= fun _ => newFields "builtin_function_or_method" [.builtin "list.append", .ref a] >>= fun v => ret v) P E s
  refine wpAny_bind (ci_app hx ?_)
  exact wpAny_bind (wpAny_newObj_type (wpAny_pure h))
theorem run_ga {P : Fin → Shared → Prop} {u : Tok} (hx : s.heap.get? a = some (listOf xs k)) (h : P (.done (.ret (.ref s.heap.objs.size))) { s with heap := s.heap.push (boundApp a) }) :
    wpAny (model prog w) A (Builtin.«object.__getattribute__» ⟨[.ref a, .str (PySem.Str.ofString "append") u], []⟩) P E s := by
  obtain ⟨hp, g, d, tk, os⟩ := s
  have hT : (⟨hp, g, d, tk, os⟩ : Shared).TypeIs (.ref a) "list" := ⟨_, hx, rfl⟩
  have f1 := PySem.F.slot_list_append.lookup
  have f2 := slot_mdget.lookup
  have f3 := md_set
  have f4 := md_del
  have f5 := type_app
  unfold Builtin.«object.__getattribute__»
  repeat (any_goals (first | assumption | ((with_reducible show wpAny _ _ (call (Value.builtin "method_descriptor.__get__") _ _) _ _ _); refine wpAny_call_entry slot_mdget type_app entry_mdget (run_mdget hx ⟨_, rfl, wpAny_pure h⟩) (args_mdget _ _ _)) | wp_step))
theorem ga_app {Q : Value → Shared → Prop} {ex : Bool} (hx : s.heap.get? a = some (listOf xs k)) (h : Q (.ref s.heap.objs.size) { s with heap := s.heap.push (boundApp a), toks := s.toks + 1 }) :
    wpAny (model prog w) A (getAttr (.ref a) (PySem.Str.ofString "append") ex) Q E s := by
  obtain ⟨hp, g, d, tk, os⟩ := s
  have hT : ∀ tk', (⟨hp, g, d, tk', os⟩ : Shared).TypeIs (.ref a) "list" := fun _ => ⟨_, hx, rfl⟩
  have f3 := F.slot_list_getattribute.lookup
  have f4 := F.slot_list_getattribute.bind (.ref a)
  have f5 := am_list_getattr_none
  unfold getAttr getAttrBy
  repeat (any_goals (first | assumption | exact hT _ | ((with_reducible show wpAny _ _ (ite _ _ _) _ _ _); rw [show (ex && onTheHeap (Value.builtin "list.__getattribute__")) = false from Bool.and_false _, if_neg (by decide)]; unfold boundAndCalled) | ((with_reducible show wpAny _ _ (call (Value.builtin "list.__getattribute__") _ _) _ _ _); refine wpAny_call_entry F.slot_list_getattribute (hT _) am_entry_list_getattribute (run_ga hx ⟨_, rfl, wpAny_pure h⟩) (F.args_list_getattribute_2 _ _)) | wp_step))
theorem sub_lm : isSubtype (.type "list") (.type "module") = pure false := by rw [isSubtype_type]; kernel_rfl
theorem sub_lt : isSubtype (.type "list") (.type "type") = pure false := by rw [isSubtype_type]; kernel_rfl
def sigApp : Manifest.Signature := (Manifest.signature? "list.append").get (by kernel_rfl)
theorem sig_app : Manifest.signature? "list.append" = some sigApp := by unfold sigApp; rw [Option.some_get]
theorem kind_app : builtinKind "list.append" = some Manifest.AttrKind.method := by kernel_rfl
theorem var_app : Manifest.varargsMethods.contains "list.append" = false := by decide +kernel
theorem args_app {a : Addr} {v : Value} : Bind.checkArgs "list.append" { machinery := sigApp.machinery, full := toString (Bind.lastOf "list") ++ toString "." ++ toString (Bind.lastOf "list.append"), short := sigApp.short, receiver := sigApp.receiver, params := sigApp.params } ⟨[.ref a, v], []⟩ = pure () := by kernel_rfl
theorem check_app {v : Value} {Q : Unit → Shared → Prop} (hx : s.heap.get? a = some (listOf xs k)) (h : Q () s) : wpAny M A (checkBoundCall "list.append" ⟨[.ref a, v], []⟩) Q E s := by
  obtain ⟨hp, g, d, tk, os⟩ := s
  have hT : (⟨hp, g, d, tk, os⟩ : Shared).TypeIs (.ref a) "list" := ⟨_, hx, rfl⟩
  have f1 := sub_lm
  have f2 := sub_lt
  unfold checkBoundCall
  rw [sig_app, kind_app]
  simp only [var_app]
  refine KFB.if_not rfl ?_
  refine wpAny_bind (wpAny_mono (Q := fun b s' => b = false ∧ s' = ⟨hp, g, d, tk, os⟩) (E := E) ?_ ?_ fun _ _ e => e)
  · repeat (any_goals (first | assumption | wp_step))
    all_goals exact ⟨rfl, rfl⟩
  rintro _ _ ⟨rfl, rfl⟩
  refine KFB.if_not rfl ?_
  refine wpAny_bind (wpAny_mono (Q := fun b s' => b = false ∧ s' = ⟨hp, g, d, tk, os⟩) (E := E) ?_ ?_ fun _ _ e => e)
  · repeat (any_goals (first | assumption | wp_step))
    all_goals exact ⟨rfl, rfl⟩
  rintro _ _ ⟨rfl, rfl⟩
  refine KFB.if_not rfl ?_
  refine wpAny_bind (wpAny_mono (Q := fun b s' => b = .type "list" ∧ s' = ⟨hp, g, d, tk, os⟩) (E := E) ?_ ?_ fun _ _ e => e)
  · repeat (any_goals (first | assumption | wp_step))
    all_goals exact ⟨rfl, rfl⟩
  rintro _ _ ⟨rfl, rfl⟩
  exact wpAny_of_eq args_app h
theorem bound_call {q : Addr} {v : Value} {Q : Value → Shared → Prop} (hq : s.heap.get? q = some (boundApp a)) (hx : s.heap.get? a = some (listOf xs k))
    (h : ∀ h', Heap.SameBut a s.heap h' → h'.get? a = some (listOf (xs.push v) (k + 1)) → Q .none { s with heap := h' }) (hsz : xs.size ≤ sizeLine) : wpAny (model prog w) A (call (.ref q) [v]) Q E s := by
  refine wpAny_call (codeAny_of_tree ?_)
  show wpAny _ A.in1 (callAny (.ref q) ⟨[v], []⟩) _ _ s
  simp only [callAny]
  refine wpAny_bind (wpAny_load hq ?_)
  simp only [boundApp, show (Value.type "builtin_function_or_method" == Value.type "method" || Value.type "builtin_function_or_method" == Value.type "builtin_function_or_method" || Value.type "builtin_function_or_method" == Value.type "method-wrapper") = true by decide, if_true]
  refine KFB.if_so (by decide) ?_
  refine wpAny_bind (check_app hx ?_)
  refine wpAny_bind (wpAny_pure (wpAny_pure ?_))
  refine ⟨Code.quiet_builtin _ (by decide +kernel), codeAny_builtin entry_list_append ?_⟩
  show wpAny _ _ (updateSeq a (·.push v) >>= fun _ => ret .none) _ _ s
  refine wpAny_bind ?_
  refine wpAny_updateSeq hx rfl (wpAny_pure (h _ (Heap.SameBut.update ..) ?_))
  rw [Heap.get?_update_self _ hx (by rw [mapSeq_push]; rfl), mapSeq_push]
end
section
variable {prog : Program} {w : World} {M : Model} {A : Around} {E : Value → Shared → Prop} {s : Shared} {h₀ : Heap} {L : Addr} {m : PySem.Str → Option Value} {news : List (Addr × Obj)}
theorem ga_K {a : Addr} {xs : Array Value} {k : Nat} {ex : Bool} {Q : Value → Shared → Prop} (F : Fr h₀ L s.heap m) (N : News h₀ L s.heap news) (hm : (a, listOf xs k) ∈ news)
    (h : ∀ q h', Fr h₀ L h' m → News h₀ L h' ((q, boundApp a) :: news) → (∀ p ∈ news, p.1 < q) → Q (.ref q) { s with heap := h', toks := s.toks + 1 }) :
    wpAny (model prog w) A (getAttr (.ref a) (PySem.Str.ofString "append") ex) Q E s :=
  ga_app (N _ hm).1 (h _ _ (F.push _) (News.push F N _) fun p hp => Heap.lt_size (N p hp).1)
def AppAt (q a : Addr) (h : Heap) : Prop := h.get? q = some (boundApp a)
theorem cw_fields {pos : Pos} {u a : Addr} {first : List Value} {args : List (Bool × Sem Value)} {Q : Value → Shared → Prop} (hplain : args.any (·.1) = false)
    (h : wpAny M A (evalArgs (.ref u) true args []) (fun x s₁ => AppAt u a s₁.heap ∧ wpAny M A (call (.ref u) (first ++ x.pos) x.kw) Q E s₁) E s) : wpAny M A (callWith pos (.ref u) first args []) Q E s := by
  unfold callWith
  refine wpAny_bind (wpAny_holding (wpAny_mono h (fun x s₁ h₁ => wpAny_bind (wpAny_standAt ?_)) fun _ _ x => x))
  obtain ⟨ho, hcall⟩ := h₁
  simp only [hplain, List.any_nil, Bool.or_false]
  refine wpAny_bind (m := keeperOf (.ref u)) ?_
  unfold keeperOf
  refine wpAny_bind (wpAny_load ho ?_)
  simp only [boundApp, show (Value.type "builtin_function_or_method" != Value.type "method") = true by decide, show (Value.type "builtin_function_or_method" == Value.type "builtin_function_or_method" || Value.type "builtin_function_or_method" == Value.type "method-wrapper") = true by decide, if_true]
  refine wpAny_pure ?_
  exact wpAny_bind (wpAny_mono hcall (fun r s₂ hr => wpAny_bind (wpAny_holding (wpAny_point (wpAny_pure hr)))) fun _ _ x => x)
theorem cw_bound {pos : Pos} {u a : Addr} {first : List Value} {env : Env} {e : Expr} {rest : List Expr} {Q : Value → Shared → Prop} (_N : News h₀ L s.heap news) (_hm : (u, boundApp a) ∈ news)
    (h : wpAny M A (spliced (backTo pos (starEach (e :: rest) env))) (fun vs s₁ => AppAt u a s₁.heap ∧ wpAny M A (call (.ref u) (first ++ vs)) Q E s₁) E s)
    (he : starEach (e :: rest) env = (false, eval e env) :: starEach rest env := by rfl) (hplain : (backTo pos (starEach rest env)).any (·.1) = false := by rfl) :
    wpAny M A (callWith pos (.ref u) first (backTo pos (starEach (e :: rest) env)) []) Q E s := by
  rw [he] at h ⊢
  refine cw_fields (a := a) (by show (false || (backTo pos (starEach rest env)).any (·.1)) = false; rw [hplain]; rfl) ?_
  exact PySem.Calls.evalArgs_plain h
def lstS (ps : List (Str × Tok)) : Obj := listOf (strValues ps).toArray ps.length
theorem app_L {l q a : Addr} {Ol : Obj} {ps : List (Str × Tok)} {rest : List (Addr × Obj)} {x : Str} {t : Tok} {Q : Value → Shared → Prop} (F : Fr h₀ L s.heap m)
    (N : News h₀ L s.heap ((l, Ol) :: (q, boundApp a) :: (a, lstS ps) :: rest)) (d : l ≠ a ∧ q ≠ a ∧ ∀ p ∈ rest, p.1 ≠ a) (hsz : ps.length ≤ 10000000)
    (h : ∀ h', Fr h₀ L h' m → News h₀ L h' ((l, Ol) :: (q, boundApp a) :: (a, lstS (ps ++ [(x, t)])) :: rest) → Q .none { s with heap := h' }) : wpAny (model prog w) A (call (.ref q) [.str x t]) Q E s := by
  have z := N (a, lstS ps) (List.mem_cons_of_mem _ (List.mem_cons_of_mem _ (.head _)))
  refine bound_call (N (q, boundApp a) (List.mem_cons_of_mem _ (.head _))).1 z.1 (fun h' hs ho => h h' (F.change hs z.2.1 z.2.2) ?_) ?_
  · have e : listOf ((strValues ps).toArray.push (.str x t)) (ps.length + 1) = lstS (ps ++ [(x, t)]) := by
      simp [lstS, strValues]
    rw [e] at ho
    have := news_set (pre := [(l, Ol), (q, boundApp a)]) (post := rest) N (by
      intro p hp
      simp only [List.mem_cons, List.not_mem_nil, or_false] at hp
      rcases hp with rfl | rfl
      · exact d.1
      · exact d.2.1) d.2.2 hs ho
    exact this
  · have : (strValues ps).toArray.size = ps.length := by simp [strValues]
    rw [this]
    have e9 : sizeLine = 16777216 := rfl
    omega
end
end Mine
end
section
open PySem PySem.W PyProof.Rows
namespace Mine
set_option maxRecDepth 100000
set_option maxHeartbeats 4000000
def tabLooks (items : Array Value) (g : Nat → List Nat) : Bool := (List.range 256).all fun c => match items[c]? with
  | some (.str s _) => s.cps.toList == g c
  | _ => false
theorem tab_of_looks {h : Heap} {l : Addr} {items : Array Value} {n : Nat} {g : Nat → List Nat} (hl : h.get? l = some { cls := .type "list", data := .seq items n }) (e : tabLooks items g = true) : TabAt h l g := by
  refine ⟨items, ⟨_, hl, rfl, n, rfl⟩, fun c hc => ?_⟩
  have := List.all_eq_true.mp e c (List.mem_range.mpr hc)
  revert this
  split
  · rename_i s t q
    intro h
    refine ⟨t, ?_⟩
    rw [q]
    have : s = ⟨(g c).toArray⟩ := by
      cases s with
      | mk cps => have e2 : cps.toList = g c := eq_of_beq h
                  rw [← e2]
    rw [this]
  · intro h; cases h
theorem tab99 {w : World} {h : Heap} : PySem.Challenge.rw_ny0173_01.name = PySem.Challenge.rw_ny0173_01.name → (Mine.heapK w.params).In h → TabAt h 99 enc1 := by
  k_fill
  intro _ X
  have h1 := X 99 _ (by k_is)
  exact tab_of_looks h1 (by decide +kernel)
section
variable {prog : Program} {w : World} {A : Around} {E : Value → Shared → Prop} {s : Shared} {l : Addr} {x : Str} {t : Tok} {Q : Value → Shared → Prop}
theorem trans_K (T : TabAt s.heap l enc1) (hx : ∀ c ∈ x.cps.toList, c < 256) (hne : x.length ≠ 0) (hsz : x.length ≤ 100000)
    (h : ∀ t' k, Q (.str (bencT x) t') { s with toks := k }) : wpAny (model prog w) A (call (.builtin "str.translate") [.str x t, .ref l]) Q E s :=
  call_translate T hx (fun c _ => enc1_len c) hne hsz h
end
theorem gm_trans {prog : Program} {w : World} {A : Around} {E : Value → Shared → Prop} {s : Shared} {x : Str} {t : Tok} {pl : Sem Bool} {Q : Value × List Value → Shared → Prop} (h : Q (.builtin "str.translate", [.str x t]) s) : wpAny (model prog w) A (getMethod (.str x t) "translate" pl) Q E s := by
  with_reducible exact GM.of (.str x t) (typeIs_str _ _ _) F.slot_str_translate F.type_str_translate GM.noRef h
theorem bencT_len {x : Str} : (bencT x).length ≤ 3 * x.length := by
  show (x.cps.toList.flatMap enc1).toArray.size ≤ 3 * x.cps.size
  have : ∀ l : List Nat, (l.flatMap enc1).length ≤ 3 * l.length := by
    intro l
    induction l with
    | nil => simp
    | cons a l ih => have := enc1_len a; simp only [List.flatMap_cons, List.length_append, List.length_cons]; omega
  simpa using this x.cps.toList
theorem appAt_of {h₀ h : Heap} {L q a : Addr} {news : List (Addr × Obj)} (N : News h₀ L h news) (hm : (q, boundApp a) ∈ news) : AppAt q a h := (N _ hm).1
local macro_rules | `(tactic| walk_at "getMethod str") => `(tactic| (with_reducible refine gm_trans ?_))
local macro_rules | `(tactic| walk_at "call builtin:str.translate") => `(tactic| ((refine trans_K (tab99 rfl (by k_in)) (by assumption) (by assumption) (by omega) ?_); intro _ _))
local macro_rules | `(tactic| walk_at "getAttr ref") => `(tactic| (k_here; (with_reducible show wpAny _ _ (getAttr (Value.ref _) (PySem.Str.ofString "append") _) _ _ _); k_dflt (refine' ga_K ?k1 ?k2 ?k3 ?_; (case k1 => k_asm); (case k2 => k_asm); (case k3 => k_mem); k_whole); intro q' h' F' N' l1; (try k_lt l1); (try k_sweep)))
local macro_rules | `(tactic| walk_at "callWith ref") => `(tactic| (k_here; (with_reducible show wpAny _ _ (callWith _ (Value.ref _) _ (backTo _ (starEach (_ :: _) _)) []) _ _ _); k_dflt (refine' cw_bound ?k1 ?k2 ?_; (case k1 => k_asm); (case k2 => k_mem); k_whole)))
local macro_rules | `(tactic| walk_at "And") => `(tactic| ((with_reducible show AppAt _ _ _ ∧ _); k_dflt (refine ⟨appAt_of (by k_asm) (by k_mem), ?_⟩); (try dsimp only [List.nil_append, List.cons_append])))
section
variable {prog : Program} {w : World} {A : Around} {E : Value → Shared → Prop} {s : Shared} {x y : Str} {t u : Tok} {Q : Value → Shared → Prop}
theorem eq_eqs {a : Nat} (h : Q (.bool (decide (a = 61))) s) : wpAny (model prog w) A (compareOp .Eq (.str ⟨#[a]⟩ u) (.str (Str.ofString "=") t)) Q E s := by
  have e : Str.ofString "=" = ⟨#[61]⟩ := by decide +kernel
  rw [e]; exact eq_one h
end
local macro_rules | `(tactic| walk_at "subscriptTail Name BinOp str int") => `(tactic| (refine at_tail (by omega) (by omega) (by omega) ?_))
local macro_rules | `(tactic| walk_at "compareOp Eq str str") => `(tactic| (refine eq_eqs ?_))
local macro_rules | `(tactic| walk_at "WPost") => `(tactic| (dsimp only [WPost]))
theorem invE {h₀ : Heap} {L : Addr} {J : (Str → Option Value) → List (Addr × Obj) → Prop} {m' : Str → Option Value} {own nw : List (Addr × Obj)} {a b c : Addr × Obj} {s₁ : Shared} {h' : Heap} {tk : Nat} (F : Fr h₀ L h' m') (N : News h₀ L h' (a :: b :: c :: (nw ++ own)))
    (ha : OwnOff own ((a :: b :: c :: nw).map (·.1))) (hj : J m' (a :: b :: c :: nw)) : InvEndG h₀ L J own s₁ { s₁ with heap := h', toks := tk } := by
  refine InvEndG.intro (nx := a :: b :: c :: nw) F N hj ha ?_ ?_
  · intro p hp
    rcases List.mem_cons.mp hp with rfl | hp
    · exact .head _
    · rcases List.mem_cons.mp hp with rfl | hp
      · exact .tail _ (.head _)
      · rcases List.mem_cons.mp hp with rfl | hp
        · exact .tail _ (.tail _ (.head _))
        · exact .tail _ (.tail _ (.tail _ (List.mem_append_left _ hp)))
  · intro p hp
    exact .tail _ (.tail _ (.tail _ (List.mem_append_right _ hp)))
theorem bl_cps : (Str.ofString " \t").cps.toList = [32, 9] := by decide +kernel
theorem crlf_cps : (Str.ofString "\r\n").cps.toList = [13, 10] := by decide +kernel
section
variable {prog : Program} {w : World} {A : Around} {E : Value → Shared → Prop} {s : Shared} {x y : Str} {t u : Tok} {Q : Value → Shared → Prop}
theorem in_bl {a : Nat} (h : Q (.bool (decide (a = 32 ∨ a = 9))) s) : wpAny (model prog w) A (compareOp .In (.str ⟨#[a]⟩ u) (.str (Str.ofString " \t") t)) Q E s := by
  refine in_one ?_
  rw [bl_cps]
  have : decide (a ∈ [32, 9]) = decide (a = 32 ∨ a = 9) := by simp
  rw [this]; exact h
theorem in_crlf {a : Nat} (h : Q (.bool (decide (a ∈ [13, 10]))) s) : wpAny (model prog w) A (compareOp .In (.str ⟨#[a]⟩ u) (.str (Str.ofString "\r\n") t)) Q E s := by
  refine in_one ?_
  rw [crlf_cps]
  exact h
end
theorem C_quo (w : World) (c : Nat) (t : Tok) : Con w 97 1 8 (c = 32 ∨ c = 9) [.str ⟨#[c]⟩ t] (fun t => .str (quo c) t) := by
  intro l1 l2 l3 l4 l5 l6 l7 l8 l9 l10 l11 l12 l13 l14 l15 l16 l17 l18 l19 l20 l21 l22 k1 k2 k3 k4 k5 k6 k7 k8 k9 k10
  rcases k7 with rfl | rfl
  · have e1 : (⟨#[32]⟩ : Str) = Str.ofString " " := by decide +kernel
    have e2 : quo 32 = (⟨#[61, 50, 48]⟩ : Str) := by decide +kernel
    rw [e1]
    simp only [e2] at k10
    exact C_quote32 w t l1 l2 l3 l4 l5 l6 l7 l8 l9 l10 l11 l12 l13 l14 l15 l16 l17 l18 l19 l20 l21 l22 k1 k2 k3 k4 k5 k6 trivial k8 k9 k10
  · have e1 : (⟨#[9]⟩ : Str) = Str.ofString "\t" := by decide +kernel
    have e2 : quo 9 = (⟨#[61, 48, 57]⟩ : Str) := by decide +kernel
    rw [e1]
    simp only [e2] at k10
    exact C_quote9 w t l1 l2 l3 l4 l5 l6 l7 l8 l9 l10 l11 l12 l13 l14 l15 l16 l17 l18 l19 l20 l21 l22 k1 k2 k3 k4 k5 k6 trivial k8 k9 k10
local macro_rules | `(tactic| walk_at "subscriptTail Name UnaryOp str int") => `(tactic| (refine last_tail (by omega) (by omega) ?_))
local macro_rules | `(tactic| walk_at "compareOp In str str") => `(tactic| (first | (with_reducible refine in_bl ?_) | (with_reducible refine in_crlf ?_)))
local macro_rules | `(tactic| walk_at "binaryOp Add str str") => `(tactic| ((refine SBL.add (hsz := ?hsz) ?_); (case hsz => ((have e9 : sizeLine = 16777216 := rfl); (try simp only [len_one, len_soft, len_eqs, len_quo, Str.length_append]); omega)); intro _ _ _))
theorem C_be (w : World) (x : Str) (t tm : Tok) (m : Nat) : Con w 110 3 30 (x.cps.size ≤ 300 ∧ x.cps.size ≠ 0 ∧ (∀ c ∈ x.cps.toList, c < 256) ∧ 4 ≤ m ∧ m ≤ 100 ∧ (Txt.lines (bencT x)).length ≤ 1000 ∧ (bencT x).length ≠ 0 ∧ at_ (bencT x) ((bencT x).length - 1) ∉ [13, 10] ∧ JoinOk (Str.ofString "\n") ((Txt.lines (bencT x)).flatMap (lineP m)) = true) [.str x t, .int m tm] (fun t => .str (benc m x) t) := by
    unfold Con
    k_fill
    intro loose mean mg mb nw
    intros
    rename_i hpre _ _ hret
    obtain ⟨hsz, hne, hx, hm4, hm, hlns, hbne, hlast, hjoin⟩ := hpre
    have hle : x.length ≤ 300 := hsz
    have hle' : x.length ≠ 0 := hne
    have hble : (bencT x).length ≤ 900 := Nat.le_trans bencT_len (by omega)
    refine wpAny_call ?_
    k_dflt (refine' code_def ?k1 ?k2 ?k3 ?k4 ?k5 ?kA ?kF ?kK ?k6 ?k7 ?k8 ?k9 ?kB ?_ ?c2 ?c3 ?c4 ?c5; (case kA => exact rfl); (case kF => exact rfl); (case kK => assumption); (case k1 => k_asm); (case k2 => k_asm); (case k3 => k_asm); (case k4 => k_asm); (case k5 => k_asm); (case k6 => k_is); (case k7 => k_is); (case k8 => ktr_room); (case k9 => exact binds_K (by k_in) rfl (by k_is) rfl rfl rfl); (case c5 => decide); (case kB => exact locs rfl); (case c2 => exact rfl); (case c3 => exact rfl); (case c4 => exact rfl); k_whole; intro g' L' h' FG' F' N' B' X' T'; (try dsimp only); (try k_lift B'); (try k_fold))
    k_with_none
    k_with "pyIter ref" =>
      (rename_i lE h4 l1a h3 qE h2 l1b h1 FA NA l hh k1 hl1 hl2 hl3 hl4 F1 N1; refine forH (fun i mm nx => ∃ (ps : List (Str × Tok)) (tb ts tn : Tok), nx = (h1.objs.size, listOf (strValues l).toArray 0) :: (qE, boundApp lE) :: (lE, lstS ps) :: nw ∧ mm (Str.ofString "body") = some (.str (bencT x) tb) ∧ mm (Str.ofString "maxlinelen") = some (.int m tm) ∧ mm (Str.ofString "eol") = some (.str (Str.ofString "\n") 383) ∧ mm (Str.ofString "soft_break") = some (.str soft ts) ∧ mm (Str.ofString "maxlinelen1") = some (.int ((m : Int) - 1) tn) ∧ mm (Str.ofString "encoded_body") = some (.ref lE) ∧ mm (Str.ofString "append") = some (.ref qE) ∧ ps.map (·.1) = ((l.map (·.1)).take i).flatMap (lineP m) ∧ ps.length ≤ i * 1000) rfl (by k_mem) F1 N1 ⟨[], _, _, _, rfl, rfl, rfl, rfl, rfl, rfl, rfl, rfl, rfl, by decide⟩ ?_ ?_)
    k_steps
    rotate_left 2
    · exfalso; omega
    · rename_i lE h4 l1a h3 qE h2 l1b h1 FA NA l hh k1 hl1 hl2 hl3 hl4 F1 N1
      rw [← hl1] at hlns
      rintro i v m₁ news₁ h tk own hv hoff hmem ⟨ps, tb, ts, tn, rfl, e1, e2, e3, e4, e5, e6, e7, hps, hpl⟩ F2 N2
      obtain ⟨ln, tl, rfl, hln, hin⟩ := strs_at hv
      have hll := hl3 ln hin
      have hi : i < (l.map (·.1)).length := (List.getElem?_eq_some_iff.mp hln).1
      have hpb : ps.length ≤ 1000000 := Nat.le_trans hpl (by omega)
      have F3 : Fr g' L' h _ := Fr_over1 F2 [(Str.ofString "body", .str (bencT x) tb), (Str.ofString "maxlinelen", .int m tm), (Str.ofString "eol", .str (Str.ofString "\n") 383), (Str.ofString "soft_break", .str soft ts), (Str.ofString "maxlinelen1", .int ((m : Int) - 1) tn), (Str.ofString "encoded_body", .ref lE), (Str.ofString "append", .ref qE)] (by
        intro p hp
        simp only [List.mem_cons, List.not_mem_nil, or_false] at hp
        rcases hp with rfl | rfl | rfl | rfl | rfl | rfl | rfl <;> assumption)
      have N3 : News g' L' h ((h1.objs.size, listOf (strValues l).toArray 0) :: (qE, boundApp lE) :: (lE, lstS ps) :: (nw ++ own)) := N2
      have dE : h1.objs.size ≠ lE ∧ qE ≠ lE ∧ ∀ p ∈ nw ++ own, p.1 ≠ lE := by
        refine ⟨?_, ?_, ?_⟩
        · exact Nat.ne_of_gt (Heap.lt_size (NA (lE, listOf #[] 0) (by k_mem)).1)
        · exact Nat.ne_of_gt l1b.1
        · intro p hp
          rcases List.mem_append.mp hp with hp | hp
          · exact Nat.ne_of_lt (l1a p hp)
          · exact hoff.ne (by simp) p hp
      clear F2 N2 F1 N1 e1 e2 e3 e4 e5 e6 e7 hv
      dsimp only [kstB] at F3
      k_with_none
      k_with "exec While Compare cons nil" => (refine holdIt ?_)
      k_steps
      · refine whileH (fun (c : Nat × Tok × List (Str × Tok)) => (h1.objs.size, listOf (strValues l).toArray 0) :: (qE, boundApp lE) :: (lE, lstS c.2.2) :: (nw ++ own)) (fun (c : Nat × Tok × List (Str × Tok)) => [(Str.ofString "start", .int c.1 c.2.1)]) [Str.ofString "stop"] (fun c => BP m ln (ps.map (·.1)) c.1 c.2.2) (fun c => ln.length - c.1) (0, ?ti, ps) (by k_asm) (by k_asm) ?hk ?hp ?turn
        case hk =>
          intro p hp
          simp only [List.mem_cons, List.not_mem_nil, or_false] at hp
          rcases hp with rfl; rfl
        case hp => exact BP.start
        case turn =>
          rintro ⟨j, tj, qs⟩ u h9 tk9 P9 F9 N9
          have hj9 := P9.le
          have hc9 := P9.count
          rw [List.length_map] at hc9
          dsimp only at P9 hj9 hc9
          have hlt9 := P9.lt
          have hq9 : qs.length ≤ 10000000 := by omega
          dsimp only [kstB] at F9
          k_with_none
          k_with "call ref" => ((with_reducible show wpAny _ _ (call (Value.ref 97) _) _ _ _); k_dflt (refine C_quo _ _ _ _ _ _ _ _ _ _ _ _ _ _ _ _ _ _ _ _ _ _ _ _ _ (by k_asm) (by k_asm) (by k_asm) (by k_asm) (by k_asm) (by first | exact rfl | assumption) (by assumption) (by ktr_room) (by ktr_units) ?_); intro t8 h8 tk8 F8 N8; dsimp only; (try k_sweep))
          k_with "call ref" => (refine app_L (by k_asm) (by k_asm) dE (by assumption) ?_; intro h8 F8 N8; (try k_sweep))
          k_steps
          · have ez : ((j + m - 3 : Nat) : Int) = (j : Int) + ((m : Int) - 1) - 2 := by omega
            refine Hold.mk (ksw_end (j + m - 3, ?ta1, qs ++ [(_, ?tb1)]) (by k_asm) (by k_asm) (fun p hp => hp) trivial ?hk ?hs (P9.a' (by omega) (by omega) (by assumption)) ?hm)
            case hk =>
              intro p hp
              simp only [List.mem_cons, List.not_mem_nil, or_false] at hp
              rcases hp with rfl
              dsimp only
              rw [ez]
              rfl
            case hs => ksw_same
            case hm => dsimp only; omega
          · have ez : ((j + m - 2 : Nat) : Int) = (j : Int) + ((m : Int) - 1) - 1 := by omega
            refine Hold.mk (ksw_end (j + m - 2, ?ta2, qs ++ [(_, ?tb2)]) (by k_asm) (by k_asm) (fun p hp => hp) trivial ?hk ?hs (P9.b' (by omega) (by omega) (by assumption) (by assumption)) ?hm)
            case hk =>
              intro p hp
              simp only [List.mem_cons, List.not_mem_nil, or_false] at hp
              rcases hp with rfl
              dsimp only
              rw [ez]
              rfl
            case hs => ksw_same
            case hm => dsimp only; omega
          · have ez : ((j + m - 1 : Nat) : Int) = (j : Int) + ((m : Int) - 1) := by omega
            refine Hold.mk (ksw_end (j + m - 1, ?ta3, qs ++ [(_, ?tb3)]) (by k_asm) (by k_asm) (fun p hp => hp) trivial ?hk ?hs (P9.c' (by omega) (by omega) (by assumption) (by assumption)) ?hm)
            case hk =>
              intro p hp
              simp only [List.mem_cons, List.not_mem_nil, or_false] at hp
              rcases hp with rfl
              dsimp only
              rw [ez]
              rfl
            case hs => ksw_same
            case hm => dsimp only; omega
          · refine invE (by k_asm) (by k_asm) (by exact hoff) ⟨.head _, _, _, _, _, rfl, rfl, rfl, rfl, rfl, rfl, rfl, rfl, ?_, ?_⟩
            · rw [take_more2 hln, ← hps]
              exact P9.fin (by omega) (last_3 hlt9 (by omega) (by assumption) (by omega))
            · rw [List.length_append]
              have : (i + 1) * 1000 = i * 1000 + 1000 := by omega
              simp only [List.length_cons, List.length_nil]
              omega
          · refine invE (by k_asm) (by k_asm) (by exact hoff) ⟨.head _, _, _, _, _, rfl, rfl, rfl, rfl, rfl, rfl, rfl, rfl, ?_, ?_⟩
            · rw [take_more2 hln, ← hps]
              exact P9.fin (by omega) (last_2 hlt9 (by omega) (by assumption) (by omega))
            · rw [List.length_append]
              have : (i + 1) * 1000 = i * 1000 + 1000 := by omega
              simp only [List.length_cons, List.length_nil]
              omega
          · refine invE (by k_asm) (by k_asm) (by exact hoff) ⟨.head _, _, _, _, _, rfl, rfl, rfl, rfl, rfl, rfl, rfl, rfl, ?_, ?_⟩
            · rw [take_more2 hln, ← hps]
              exact P9.fin (by omega) (last_1 hlt9 (by omega) (by assumption) (by omega) (by omega))
            · rw [List.length_append]
              have : (i + 1) * 1000 = i * 1000 + 1000 := by omega
              simp only [List.length_cons, List.length_nil]
              omega
          · refine invE (by k_asm) (by k_asm) (by exact hoff) ⟨.head _, _, _, _, _, rfl, rfl, rfl, rfl, rfl, rfl, rfl, rfl, ?_, ?_⟩
            · rw [take_more2 hln, ← hps]
              exact P9.fin (by omega) (last_no (by omega) (.inr (by assumption)))
            · rw [List.length_append]
              have : (i + 1) * 1000 = i * 1000 + 1000 := by omega
              simp only [List.length_cons, List.length_nil]
              omega
          · refine invE (by k_asm) (by k_asm) (by exact hoff) ⟨.head _, _, _, _, _, rfl, rfl, rfl, rfl, rfl, rfl, rfl, rfl, ?_, ?_⟩
            · rw [take_more2 hln, ← hps]
              exact P9.fin (by omega) (last_no (by omega) (.inl (by omega)))
            · rw [List.length_append]
              have : (i + 1) * 1000 = i * 1000 + 1000 := by omega
              simp only [List.length_cons, List.length_nil]
              omega
    · rename_i lE h4 l1a h3 qE h2 l1b h1 FA NA l hh k1 hl1 hl2 hl3 hl4 F1 N1
      rintro m₁ news₁ h tk ⟨ps, tb, ts, tn, rfl, e1, e2, e3, e4, e5, e6, e7, hps, hpl⟩ F2 N2
      have hvl : (strValues l).length = (l.map (·.1)).length := by simp [strValues]
      rw [hvl, List.take_length, hl1] at hps
      have F3 : Fr g' L' h _ := Fr_over F2 [(Str.ofString "body", .str (bencT x) tb), (Str.ofString "maxlinelen", .int m tm), (Str.ofString "eol", .str (Str.ofString "\n") 383), (Str.ofString "soft_break", .str soft ts), (Str.ofString "maxlinelen1", .int ((m : Int) - 1) tn), (Str.ofString "encoded_body", .ref lE), (Str.ofString "append", .ref qE)] (by
        intro p hp
        simp only [List.mem_cons, List.not_mem_nil, or_false] at hp
        rcases hp with rfl | rfl | rfl | rfl | rfl | rfl | rfl <;> assumption)
      have N3 : News g' L' h ((h1.objs.size, listOf (strValues l).toArray 0) :: (qE, boundApp lE) :: (lE, lstS ps) :: nw) := N2
      clear F2 N2 F1 N1 e1 e2 e3 e4 e5 e6 e7
      dsimp only [kstB] at F3
      k_with_none
      k_with "call builtin:str.join" => (refine SC.join (l := ps) (News.isList (by k_asm) (.tail _ (.tail _ (.head _)))) hps hjoin ?_; intro _ _)
      k_with "callWith ref" => (exfalso; contradiction)
      k_steps
      rename_i kF kN _ _
      exact hret _ _ _ kF (cb_drop kN fun p hp => .tail _ (.tail _ (.tail _ hp)))
end Mine
end
section
open PySem PySem.W PyProof.Rows
namespace Mine
set_option maxRecDepth 100000
section
variable {prog : Program} {w : World} {A : Around} {E : Value → Shared → Prop} {h₀ : Heap} {L : Addr} {m : Str → Option Value} {news : List (Addr × Obj)}
theorem comp_at {env : Env} {elt : Expr} {x : Str} {scope : Scope} {Q : Value → Shared → Prop} {s₁ : Shared} {o : Obj} {n : Nat} {P : Nat → Value → Prop} {St : Nat → Heap → Prop}
    (W : Walks prog w A s₁.heap.objs.size [s₁.heap.objs.size] [s₁.heap.objs.size] n P St) (hsz : n ≤ sizeLine) (hst : St 0 (s₁.heap.push o)) (F : Fr h₀ L s₁.heap m) (N : News h₀ L s₁.heap news) (G : Value → Value → Prop)
    (g2 : ∀ C i v s₃ m₃ E', P i v → s₃.heap.Ns C m₃ → m₃ x = some v → (∀ b o, h₀.get? b = some o → s₃.heap.get? b = some o) →
      wpAny (model prog w) A (eval elt (compEnv scope C env)) (fun y s₄ => G v y ∧ PySem.Keeps s₃ s₄) E' s₃)
    (g3 : ∀ D (ys vs : List Value) n' h' tk, Fr h₀ L h' m → News h₀ L h' ((D, listOf ys.toArray n') :: news) → (∀ p ∈ news, p.1 ≠ D) → vs.length = n → (∀ j v, vs[j]? = some v → P j v) → Paired G vs ys → Q (.ref D) { s₁ with heap := h', toks := tk }) :
    CompPost prog w A env scope x [] elt Q (.ref s₁.heap.objs.size) { s₁ with heap := s₁.heap.push o } := by
  have up : ∀ (h' : Heap), (∀ b o', b ∉ [s₁.heap.objs.size] → (s₁.heap.push o).get? b = some o' → h'.get? b = some o') → ∀ b o', s₁.heap.get? b = some o' → h'.get? b = some o' :=
    fun h' hk b o' e => hk b o' (old_not_new e) (Heap.get?_push_of_some _ e)
  refine ⟨fun _ => true, G, s₁.heap.objs.size, [s₁.heap.objs.size], [s₁.heap.objs.size], n, P, St, rfl, W, hsz, hst, ?_, ⟨?_, ?_⟩, ?_⟩
  · intro b hb
    show b < (s₁.heap.push o).objs.size
    rw [Heap.size_push, List.mem_singleton.mp hb]
    exact Nat.lt_succ_self _
  · intro C i v s₃ m₃ E' hP hn hm hk htk
    exact wpAny_pure ⟨rfl, _, _, rfl, fun _ _ e => e⟩
  · intro C i v s₃ m₃ E' hP hp hn hm hk htk
    exact g2 C i v s₃ m₃ E' hP hn hm fun b o' e => up _ hk b o' (F.keep _ _ e)
  · intro D h' tk ys vs hnew hlD hplD hlen hP hF hk
    have hnew' : s₁.heap.get? D = none := by
      cases e : s₁.heap.get? D with
      | none => rfl
      | some o' => rw [Heap.get?_push_of_some _ e] at hnew; cases hnew
    obtain ⟨n', hD⟩ := hplD
    have ef : vs.filter (fun _ => true) = vs := List.filter_eq_self.mpr fun _ _ => rfl
    rw [ef] at hF
    have hne : ∀ p ∈ news, p.1 ≠ D := fun p hp e => by rw [← e, (N p hp).1] at hnew'; cases hnew'
    refine g3 D ys.toList vs n' h' tk (F.keeps (up h' hk)) (fun p hp => ?_) hne hlen hP hF
    rcases List.mem_cons.mp hp with rfl | hp
    · refine ⟨by rw [Array.toArray_toList]; exact hD, ?_, ?_⟩
      · rintro rfl
        obtain ⟨o', es, ep, ho, _⟩ := F.ns
        rw [ho] at hnew'; cases hnew'
      · cases e : h₀.get? D with
        | none => rfl
        | some o' => rw [F.keep _ _ e] at hnew'; cases hnew'
    · exact (N.grown (up h' hk)) p hp
theorem comp_str {env : Env} {elt : Expr} {x : Str} {scope : Scope} {Q : Value → Shared → Prop} {s₁ : Shared} {y : Str} {t : Tok} (hh : A.handled = none) (hsz : y.length ≤ sizeLine) (F : Fr h₀ L s₁.heap m) (N : News h₀ L s₁.heap news) (g : Nat → Tok → Value)
    (g2 : Hold (∀ C c u s₃ m₃ E', c ∈ y.cps.toList → s₃.heap.Ns C m₃ → m₃ x = some (.str ⟨#[c]⟩ u) → (∀ b o, h₀.get? b = some o → s₃.heap.get? b = some o) →
      wpAny (model prog w) A (eval elt (compEnv scope C env)) (fun r s₄ => (∃ t, r = g c t) ∧ PySem.Keeps s₃ s₄) E' s₃))
    (g3 : Hold (∀ D (ts : List (Nat × Tok)) n' h' tk, ts.map (·.1) = y.cps.toList → Fr h₀ L h' m → News h₀ L h' ((D, listOf (ts.map fun p => g p.1 p.2).toArray n') :: news) → (∀ p ∈ news, p.1 ≠ D) → Q (.ref D) { s₁ with heap := h', toks := tk })) :
    wpAny (model prog w) A (pyIter (.str y t)) (CompPost prog w A env scope x [] elt Q) E s₁ := by
  refine wpAny_pyIter_str fun o St W hst => comp_at (W A hh) hsz hst F N (fun v r => ∃ c u t, v = .str ⟨#[c]⟩ u ∧ r = g c t) ?_ ?_
  · rintro C i v s₃ m₃ E' ⟨c, u, hc, rfl⟩ hn hx hk
    refine wpAny_mono (g2 C c u s₃ m₃ E' (by simpa using Array.mem_of_getElem? hc) hn hx hk) (fun r s₄ h => ?_) fun _ _ e => e
    obtain ⟨⟨t, e⟩, k⟩ := h
    exact ⟨⟨c, u, t, rfl, e⟩, k⟩
  · intro D ys vs n' h' tk F' N' hne hlen hP hF
    have key : ∀ (vs ys : List Value) (cs : List Nat), vs.length = cs.length → (∀ (j : Nat) v, vs[j]? = some v → ∃ c u, cs[j]? = some c ∧ v = Value.str ⟨#[c]⟩ u) → Paired (fun v r => ∃ c u t, v = Value.str ⟨#[c]⟩ u ∧ r = g c t) vs ys → ∃ ts : List (Nat × Tok), ts.map (·.1) = cs ∧ ys = ts.map fun p => g p.1 p.2 := by
      intro vs ys cs hl hp hf
      induction hf generalizing cs with
      | nil =>
        cases cs with
        | nil => exact ⟨[], rfl, rfl⟩
        | cons => cases hl
      | cons h1 h2 ih =>
        cases cs with
        | nil => cases hl
        | cons c cs =>
          obtain ⟨ts, e1, e2⟩ := ih cs (by simpa using hl) fun j v e => hp (j + 1) v (by simpa using e)
          obtain ⟨c', u', t', e3, e4⟩ := h1
          obtain ⟨c2, u2, e5, e6⟩ := hp 0 _ rfl
          rw [e3] at e6
          simp at e5
          subst e5
          have : c' = c := by
            have := (Value.str.injEq _ _ _ _ ▸ e6 : _ ∧ _).1
            have h2 := congrArg (fun z : Str => z.cps.toList) this
            simpa using h2
          subst this
          exact ⟨(c', t') :: ts, by rw [List.map_cons, e1], by rw [List.map_cons, e2, e4]⟩
    obtain ⟨ts, e1, e2⟩ := key vs ys y.cps.toList (by rw [hlen, Array.length_toList]) (fun j v e => by
      obtain ⟨c, u, h1, h2⟩ := hP j v e
      exact ⟨c, u, by simpa using h1, h2⟩) hF
    subst e2
    exact g3 D ts n' h' tk e1 F' N' hne
theorem comp_bytes {env : Env} {elt : Expr} {x : Str} {scope : Scope} {Q : Value → Shared → Prop} {s₁ : Shared} {y : Array UInt8} {t : Tok} (hh : A.handled = none) (hsz : y.size ≤ sizeLine) (F : Fr h₀ L s₁.heap m) (N : News h₀ L s₁.heap news) (g : UInt8 → Tok → Value)
    (g2 : Hold (∀ C c u s₃ m₃ E', c ∈ y.toList → s₃.heap.Ns C m₃ → m₃ x = some (.int (c.toNat : Int) u) → (∀ b o, h₀.get? b = some o → s₃.heap.get? b = some o) →
      wpAny (model prog w) A (eval elt (compEnv scope C env)) (fun r s₄ => (∃ t, r = g c t) ∧ PySem.Keeps s₃ s₄) E' s₃))
    (g3 : Hold (∀ D (ts : List (UInt8 × Tok)) n' h' tk, ts.map (·.1) = y.toList → Fr h₀ L h' m → News h₀ L h' ((D, listOf (ts.map fun p => g p.1 p.2).toArray n') :: news) → (∀ p ∈ news, p.1 ≠ D) → Q (.ref D) { s₁ with heap := h', toks := tk })) :
    wpAny (model prog w) A (pyIter (.bytes y t)) (CompPost prog w A env scope x [] elt Q) E s₁ := by
  refine KBw.pyIter_bytes (comp_at (KBw.walks hh _ y t) hsz ⟨_, Heap.get?_push_size _ rfl, rfl, rfl⟩ F N (fun v r => ∃ c u t, v = .int ((c : UInt8).toNat : Int) u ∧ r = g c t) ?_ ?_)
  · rintro C i v s₃ m₃ E' ⟨c, u, hc, rfl⟩ hn hx hk
    refine wpAny_mono (g2 C c u s₃ m₃ E' (by simpa using Array.mem_of_getElem? hc) hn hx hk) (fun r s₄ h => ?_) fun _ _ e => e
    obtain ⟨⟨t, e⟩, k⟩ := h
    exact ⟨⟨c, u, t, rfl, e⟩, k⟩
  · intro D ys vs n' h' tk F' N' hne hlen hP hF
    have key : ∀ (vs ys : List Value) (cs : List UInt8), vs.length = cs.length → (∀ (j : Nat) v, vs[j]? = some v → ∃ c u, cs[j]? = some c ∧ v = Value.int ((c : UInt8).toNat : Int) u) → Paired (fun v r => ∃ c u t, v = Value.int ((c : UInt8).toNat : Int) u ∧ r = g c t) vs ys → ∃ ts : List (UInt8 × Tok), ts.map (·.1) = cs ∧ ys = ts.map fun p => g p.1 p.2 := by
      intro vs ys cs hl hp hf
      induction hf generalizing cs with
      | nil =>
        cases cs with
        | nil => exact ⟨[], rfl, rfl⟩
        | cons => cases hl
      | cons h1 h2 ih =>
        cases cs with
        | nil => cases hl
        | cons c cs =>
          obtain ⟨ts, e1, e2⟩ := ih cs (by simpa using hl) fun j v e => hp (j + 1) v (by simpa using e)
          obtain ⟨c', u', t', e3, e4⟩ := h1
          obtain ⟨c2, u2, e5, e6⟩ := hp 0 _ rfl
          rw [e3] at e6
          simp at e5
          subst e5
          have : c' = c := by
            have := (Value.int.injEq _ _ _ _ ▸ e6 : _ ∧ _).1
            exact UInt8.toNat_inj.mp (by omega)
          subst this
          exact ⟨(c', t') :: ts, by rw [List.map_cons, e1], by rw [List.map_cons, e2, e4]⟩
    obtain ⟨ts, e1, e2⟩ := key vs ys y.toList (by rw [hlen, Array.length_toList]) (fun j v e => by
      obtain ⟨c, u, h1, h2⟩ := hP j v e
      exact ⟨c, u, by simpa using h1, h2⟩) hF
    subst e2
    exact g3 D ts n' h' tk e1 F' N' hne
end
end Mine
end
section
open PySem PySem.W PyProof.Rows
namespace Mine
set_option maxRecDepth 100000
set_option maxHeartbeats 4000000
theorem C_be0 (w : World) (x : Str) (t tm : Tok) (m : Nat) : Con w 110 3 30 (x.cps.size = 0 ∧ 4 ≤ m) [.str x t, .int m tm] (fun t => .str x t) := by
    unfold Con
    k_fill
    intros
    rename_i hpre _ _ hret
    obtain ⟨hsz, hm4⟩ := hpre
    have hle : x.length = 0 := hsz
    refine wpAny_call ?_
    k_dflt (refine' code_def ?k1 ?k2 ?k3 ?k4 ?k5 ?kA ?kF ?kK ?k6 ?k7 ?k8 ?k9 ?kB ?_ ?c2 ?c3 ?c4 ?c5; (case kA => exact rfl); (case kF => exact rfl); (case kK => assumption); (case k1 => k_asm); (case k2 => k_asm); (case k3 => k_asm); (case k4 => k_asm); (case k5 => k_asm); (case k6 => k_is); (case k7 => k_is); (case k8 => ktr_room); (case k9 => exact binds_K (by k_in) rfl (by k_is) rfl rfl rfl); (case c5 => decide); (case kB => exact locs rfl); (case c2 => exact rfl); (case c3 => exact rfl); (case c4 => exact rfl); k_whole; intro g' L' h' FG' F' N' B' X' T'; (try dsimp only); (try k_lift B'); (try k_fold))
    k_with_none
    k_with "getMethod str" => (exfalso; omega)
    k_steps
    all_goals cb_end hret
theorem C_dec0 (w : World) (x : Str) (t : Tok) : Con w 118 3 30 (x.cps.size = 0) [.str x t] (fun t => .str x t) := by
    unfold Con
    k_fill
    intros
    rename_i hpre _ _ hret
    have hle : x.length = 0 := hpre
    refine wpAny_call ?_
    k_dflt (refine' code_def ?k1 ?k2 ?k3 ?k4 ?k5 ?kA ?kF ?kK ?k6 ?k7 ?k8 ?k9 ?kB ?_ ?c2 ?c3 ?c4 ?c5; (case kA => exact rfl); (case kF => exact rfl); (case kK => assumption); (case k1 => k_asm); (case k2 => k_asm); (case k3 => k_asm); (case k4 => k_asm); (case k5 => k_asm); (case k6 => k_is); (case k7 => k_is); (case k8 => ktr_room); (case k9 => exact binds_K (by k_in) rfl (by k_is) rfl rfl rfl); (case c5 => decide); (case kB => exact locs rfl); (case c2 => exact rfl); (case c3 => exact rfl); (case c4 => exact rfl); k_whole; intro g' L' h' FG' F' N' B' X' T'; (try dsimp only); (try k_lift B'); (try k_fold))
    k_with_none
    k_with "storeName" => (exfalso; omega)
    k_steps
    all_goals cb_end hret
section
variable {M : Model} {A : Around} {E : Value → Shared → Prop} {s : Shared} {K : Frag} {h₀ : Heap} {C : Addr} {m₂ mg mb : Str → Option Value} {scope : Scope} {env : Env} {p : Program} {loose : List Str} {mean : ExcName → Option Value} {x : Str} {pos : Pos} {v : Value} {Q : Value → Shared → Prop}
theorem nm_own (hC : s.heap.Ns C m₂) (hx : m₂ x = some v) (h : Q v s)
    (hk : (compEnv scope C env).scope.kind = .function := by rfl) (hl : (compEnv scope C env).kindOf x = some .local := by rfl) (hd : (x == ("__debug__" : Str)) = false := by decide) :
    wpAny M A (eval (.Name x pos) (compEnv scope C env)) Q E s := wpAny_Name (wpAny_loadName_local hk hl hC hx h) hd
theorem nm_built (F : ∀ b o, h₀.get? b = some o → s.heap.get? b = some o) (X : K.In h₀) (T : Top p loose mean mg mb h₀) (e : nsIn K mainGlobals x = some none) (hv : bootBuiltins x = some v) (hn : x ≠ "__name__") (h : Q v s) (hg : env.globals = mainGlobals := by rfl) (hb : env.builtins = builtinsNs := by rfl)
    (hk : (compEnv scope C env).scope.kind = .function := by rfl) (hx : (compEnv scope C env).kindOf x = some .globalImplicit := by rfl) (hd : (x == ("__debug__" : Str)) = false := by decide) :
    wpAny M A (eval (.Name x pos) (compEnv scope C env)) Q E s :=
  PySem.Calls.Name_function_global hk hx (PySem.Calls.loadGlobal_builtin (env := compEnv scope C env) (show s.heap.Ns env.globals mg from hg ▸ (T.keeps F).g) (mg_none_of X T.g e) (show s.heap.Ns env.builtins mb from hb ▸ (T.keeps F).b) ((T.builtins x hn).trans hv) h) hd
end
theorem subF_mem {c : Nat → Bool} {r : List Nat} {x : Array Nat} {B : Nat} (hr : ∀ a ∈ r, a < B) (hx : ∀ a ∈ x.toList, a < B) (hB : 0 < B) : ∀ (k p : Nat), ∀ a ∈ subF c r x k p, a < B
  | 0, _, a, h => by cases h
  | k + 1, p, a, h => by
    rw [subF] at h
    rcases List.mem_append.mp h with h | h
    · split at h
      · exact hr a h
      · rcases List.mem_singleton.mp h with rfl
        by_cases hp : p < x.size
        · simp only [Array.getD, hp, dite_true]
          exact hx _ (by simp)
        · simpa [Array.getD, hp] using hB
    · exact subF_mem hr hx hB k (p + 1) a h
theorem fixed_256 {x : Array Nat} (hx : ∀ a ∈ x.toList, a < 256) : ∀ a ∈ (fixed x).toList, a < 256 := by
  unfold fixed
  simpa using subF_mem (c := cond3 x) (r := [13, 10]) (by decide) hx (by decide) x.size 0
theorem quoted_256 {x : Array Nat} (hx : ∀ a ∈ x.toList, a < 256) : ∀ a ∈ (quoted x).toList, a < 256 := by
  unfold quoted
  simpa using subF_mem (c := cond1 x) (r := [46, 46]) (by decide) hx (by decide) x.size 0
theorem fixed_len (x : Array Nat) : (fixed x).size ≤ 2 * x.size := by
  unfold fixed
  simpa using subF_len (c := cond3 x) (r := [13, 10]) (x := x) (by simp) x.size 0
theorem quoted_len (x : Array Nat) : (quoted x).size ≤ 2 * x.size := by
  unfold quoted
  simpa using subF_len (c := cond1 x) (r := [46, 46]) (x := x) (by simp) x.size 0
theorem ints_of {ts : List (Nat × Tok)} : IntsAre (ts.map fun p => Value.int (p.1 : Int) p.2) (ts.map fun p => (p.1 : Int)) := by
  induction ts with
  | nil => exact .nil
  | cons a l ih => exact .cons _ _ ih
theorem back8 {l : List Nat} (h : ∀ a ∈ l, a < 256) : (l.map Nat.toUInt8).map (·.toNat) = l := by
  rw [List.map_map]
  conv => rhs; rw [← List.map_id l]
  apply List.map_congr_left
  intro a ha
  have := h a ha
  simp only [Function.comp_apply, id]
  show (UInt8.ofNat a).toNat = a
  simp
  omega
theorem byteArr_nat {ts : List (Nat × Tok)} {l : List Nat} (e : ts.map (·.1) = l) (h : ∀ a ∈ l, a < 256) : (byteArr (ts.map fun p => (p.1 : Int))).map (·.toNat) = l.toArray := by
  unfold byteArr
  subst e
  apply Array.ext'
  have := back8 h
  simpa [List.map_map, Function.comp_def] using this
theorem joined_same {q : Array Nat} {ts : List (UInt8 × Tok)} (e : ts.map (·.1) = (q.toList.map Nat.toUInt8)) (h : ∀ a ∈ q.toList, a < 256) :
    Txt.join (Str.ofString "") (ts.map fun p => (⟨#[p.1.toNat]⟩ : Str)) = ⟨q⟩ := by
  have h1 := glued_empty (Str.ofString "") (by decide +kernel) (ts.map fun p => (⟨#[p.1.toNat]⟩ : Str))
  have h2 : (ts.map fun p => (⟨#[p.1.toNat]⟩ : Str)).flatMap (fun t => t.cps.toList) = q.toList := by
    have : (ts.map fun p => (⟨#[p.1.toNat]⟩ : Str)).flatMap (fun t => t.cps.toList) = (ts.map (·.1)).map (·.toNat) := by
      clear e h h1
      induction ts with
      | nil => rfl
      | cons a l ih => simp [ih]
    rw [this, e, back8 h]
  rw [h2] at h1
  cases hj : Txt.join (Str.ofString "") (ts.map fun p => (⟨#[p.1.toNat]⟩ : Str)) with
  | mk c =>
    rw [hj] at h1
    simp only at h1
    rw [Array.toList_inj.mp h1]
section
variable {prog : Program} {w : World} {A : Around} {E : Value → Shared → Prop} {s : Shared} {h₀ : Heap} {L D : Addr} {x y : Str} {t u : Tok} {Q : Value → Shared → Prop}
theorem ne_same (h : Q (.bool false) s) : wpAny (model prog w) A (compareOp .NotEq (.str x u) (.str x t)) Q E s := by
  refine ne_str ?_
  have : (x != x) = false := by simp
  rw [this]; exact h
theorem join_us {us : List (UInt8 × Tok)} {n2 : Nat} {rest : List (Addr × Obj)} (N : News h₀ L s.heap ((D, listOf (us.map fun p => Value.str ⟨#[p.1.toNat]⟩ p.2).toArray n2) :: rest))
    (hj : Txt.join (Str.ofString "") (us.map fun p => (⟨#[p.1.toNat]⟩ : Str)) = y) (hl : us.length ≤ 1000000) (h : ∀ t' k, Q (.str y t') { s with toks := k }) : wpAny (model prog w) A (call (.builtin "str.join") [.str (Str.ofString "") t, .ref D]) Q E s := by
  refine SC.join (l := us.map fun p => ((⟨#[p.1.toNat]⟩ : Str), p.2)) (texts := us.map fun p => (⟨#[p.1.toNat]⟩ : Str)) ?_ (by rw [List.map_map]; rfl) (joinOk_empty _ (by decide +kernel) _ ?_) ?_
  · have := News.isList N (.head _)
    simpa [strValues, List.map_map, Function.comp_def] using this
  · have e : (us.map fun p => (⟨#[p.1.toNat]⟩ : Str)).flatMap (fun t => t.cps.toList) = us.map fun p => p.1.toNat := by
      clear hj N hl
      induction us with
      | nil => rfl
      | cons a l ih => simp [ih]
    rw [e, List.length_map]; omega
  · rw [hj]; exact h
end
local macro_rules | `(tactic| walk_at "compareOp NotEq str str") => `(tactic| (refine ne_same ?_))
theorem C_po (w : World) (x y z : Str) (t tm : Tok) (m : Nat) (pb pd : Prop) (hb : ∀ t tm, Con w 110 3 30 pb [.str x t, .int m tm] (fun t => .str y t)) (hd : ∀ t, Con w 118 3 30 pd [.str ⟨quoted (fixed y.cps)⟩ t] (fun t => .str z t)) :
    Con w 133 6 60 (pb ∧ pd ∧ (y.cps.size ≤ 100000 ∧ ∀ c ∈ y.cps.toList, c ≠ 13) ∧ y.cps.size ≤ 5000 ∧ ∀ c ∈ y.cps.toList, c < 256) [.str x t, .int m tm] (fun t => .str z t) := by
    unfold Con
    k_fill
    intro loose mean mg mb nw
    intros
    rename_i hpre _ _ hret
    obtain ⟨hpb, hpd, hy, hys, hy256⟩ := hpre
    refine wpAny_call ?_
    k_dflt cell_enter
    k_with_none
    k_with "call ref" => ((with_reducible show wpAny _ _ (call (Value.ref 53) _) _ _ _); k_dflt (refine C_qd _ _ _ _ _ _ _ _ _ _ _ _ _ _ _ _ _ _ _ _ _ _ _ _ _ (by k_asm) (by k_asm) (by k_asm) (by k_asm) (by k_asm) (by first | exact rfl | assumption) (by assumption) (by ktr_room) (by ktr_units) ?_); intro t8 h8 tk8 F8 N8; dsimp only; (try k_sweep))
    k_with "call ref" => ((with_reducible show wpAny _ _ (call (Value.ref 67) _) _ _ _); k_dflt (refine C_fix _ _ _ _ _ _ _ _ _ _ _ _ _ _ _ _ _ _ _ _ _ _ _ _ _ (by k_asm) (by k_asm) (by k_asm) (by k_asm) (by k_asm) (by first | exact rfl | assumption) (by assumption) (by ktr_room) (by ktr_units) ?_); intro t8 h8 tk8 F8 N8; dsimp only; (try k_sweep))
    k_with "call ref" => ((with_reducible show wpAny _ _ (call (Value.ref 60) _) _ _ _); k_dflt (refine C_qp _ _ _ _ _ _ _ _ _ _ _ _ _ _ _ _ _ _ _ _ _ _ _ _ _ (by k_asm) (by k_asm) (by k_asm) (by k_asm) (by k_asm) (by first | exact rfl | assumption) (by assumption) (by ktr_room) (by ktr_units) ?_); intro t8 h8 tk8 F8 N8; dsimp only; (try k_sweep))
    k_with "call ref" => ((with_reducible show wpAny _ _ (call (Value.ref 110) _) _ _ _); k_dflt (refine' hb _ _ _ _ _ _ _ _ _ _ _ _ _ _ _ _ _ _ _ _ _ _ _ _ ?b1 ?b2 ?b3 ?b4 ?b5 ?bK ?bp ?bd ?bu ?_; (case b1 => k_asm); (case b2 => k_asm); (case b3 => k_asm); (case b4 => k_asm); (case b5 => k_asm); (case bK => first | exact rfl | assumption); (case bp => exact hpb); (case bd => ktr_room); (case bu => ktr_units)); intro t8 h8 tk8 F8 N8; dsimp only; (try k_sweep))
    k_with "call ref" => ((with_reducible show wpAny _ _ (call (Value.ref 118) _) _ _ _); k_dflt (refine' hd _ _ _ _ _ _ _ _ _ _ _ _ _ _ _ _ _ _ _ _ _ _ _ ?d1 ?d2 ?d3 ?d4 ?d5 ?dK ?dp ?dd ?du ?_; (case d1 => k_asm); (case d2 => k_asm); (case d3 => k_asm); (case d4 => k_asm); (case d5 => k_asm); (case dK => first | exact rfl | assumption); (case dp => exact hpd); (case dd => ktr_room); (case du => ktr_units)); intro t8 h8 tk8 F8 N8; dsimp only; (try k_sweep))
    k_with "pyIter str" => (refine comp_str rfl ?_ (by k_asm) (by k_asm) (fun c t => Value.int (c : Int) t) ?_ ?_)
    k_steps
    · have e9 : sizeLine = 16777216 := rfl
      have := fixed_len y.cps
      show (fixed y.cps).size ≤ sizeLine
      omega
    · refine Hold.mk ?_
      intro C c u s₃ m₃ E' hc hn hx hk
      k_with_none
      k_with "eval Name" => (first | (refine nm_own hn hx ?_) | (k_dflt (refine' nm_built hk ?nX ?nT ?ne ?nv ?nn ?_; (case nX => k_asm); (case nT => k_asm); (case ne => k_is); (case nv => exact PyProof.Rows.boot_ord); (case nn => decide))))
      k_steps
      exact ⟨_, _, rfl, fun _ _ e => e⟩
    · refine Hold.mk ?_
      intro D ts n' h1 tk hts F1 N1 hne1
      have hfx := fixed_256 hy256
      have hfl := fixed_len y.cps
      have hts' : ts.map (·.1) = (fixed y.cps).toList := hts
      have hr : ∀ n ∈ ts.map (fun p => (p.1 : Int)), 0 ≤ n ∧ n < 256 := by
        intro n hn
        obtain ⟨p, hp, rfl⟩ := List.mem_map.mp hn
        have := hfx p.1 (hts' ▸ List.mem_map.mpr ⟨p, hp, rfl⟩)
        omega
      have htl : ts.length ≤ 10000 := by
        have h5 : ts.length = (fixed y.cps).size := by rw [← Array.length_toList, ← hts', List.length_map]
        omega
      have hz : (ts.map fun p => Value.int (p.1 : Int) p.2).length ≤ sizeLine := by
        have e9 : sizeLine = 16777216 := rfl
        rw [List.length_map]; omega
      have hbn : (byteArr (ts.map fun p => (p.1 : Int))).map (·.toNat) = fixed y.cps := byteArr_nat hts' hfx
      have hq60 : ((byteArr (ts.map fun p => (p.1 : Int))).map (·.toNat)).size ≤ 1000000 := by
        rw [hbn]; omega
      k_with_none
      k_with "call ref" => ((with_reducible show wpAny _ _ (call (Value.ref 53) _) _ _ _); k_dflt (refine C_qd _ _ _ _ _ _ _ _ _ _ _ _ _ _ _ _ _ _ _ _ _ _ _ _ _ (by k_asm) (by k_asm) (by k_asm) (by k_asm) (by k_asm) (by first | exact rfl | assumption) (by assumption) (by ktr_room) (by ktr_units) ?_); intro t8 h8 tk8 F8 N8; dsimp only; (try k_sweep))
      k_with "call ref" => ((with_reducible show wpAny _ _ (call (Value.ref 67) _) _ _ _); k_dflt (refine C_fix _ _ _ _ _ _ _ _ _ _ _ _ _ _ _ _ _ _ _ _ _ _ _ _ _ (by k_asm) (by k_asm) (by k_asm) (by k_asm) (by k_asm) (by first | exact rfl | assumption) (by assumption) (by ktr_room) (by ktr_units) ?_); intro t8 h8 tk8 F8 N8; dsimp only; (try k_sweep))
      k_with "call ref" => ((with_reducible show wpAny _ _ (call (Value.ref 60) _) _ _ _); k_dflt (refine C_qp _ _ _ _ _ _ _ _ _ _ _ _ _ _ _ _ _ _ _ _ _ _ _ _ _ (by k_asm) (by k_asm) (by k_asm) (by k_asm) (by k_asm) (by first | exact rfl | assumption) (by assumption) (by ktr_room) (by ktr_units) ?_); intro t8 h8 tk8 F8 N8; dsimp only; (try k_sweep))
      k_with "call type:bytes" => (refine call_bytes_ints (News.isList N1 (.head _)) ints_of hr hz rfl ?_; intro h2 t2 k2 hk2; (have F2 := F1.keeps hk2); (have N2 := N1.grown hk2); clear F1 N1; dsimp only)
      k_with "eval ListComp" => ((with_reducible apply ListComp_rowsP); (case hfree => decide); (case hcell => decide); (case hkind => with_unfolding_all rfl); (case hnames => decide); (case hx => with_unfolding_all rfl); (case hs => intro _; with_unfolding_all rfl))
      k_with "pyIter bytes" => (refine comp_bytes rfl ?_ (by k_asm) (by k_asm) (fun c t => Value.str ⟨#[c.toNat]⟩ t) ?_ ?_)
      k_steps
      · rw [hbn]
        have e9 : sizeLine = 16777216 := rfl
        have := quoted_len (fixed y.cps)
        simp only [List.size_toArray, List.length_map, Array.length_toList]
        omega
      · refine Hold.mk ?_
        intro C c u s₃ m₃ E' hc hn hx hk
        have hc8 := c.toNat_lt
        k_with_none
        k_with "eval Name" => (first | (refine nm_own hn hx ?_) | (k_dflt (refine' nm_built hk ?oX ?oT ?oe ?ov ?on ?_; (case oX => k_asm); (case oT => k_asm); (case oe => k_is); (case ov => exact PyProof.Rows.boot_chr); (case on => decide))))
        k_steps
        exact ⟨_, _, rfl, fun _ _ e => e⟩
      · refine Hold.mk ?_
        intro D2 us n2 h3 tk3 hus F3 N3 hne3
        rw [hbn] at hus
        have hjs := joined_same (q := quoted (fixed y.cps)) hus (quoted_256 hfx)
        have hul : us.length ≤ 1000000 := by
          have h5 : us.length = (quoted (fixed y.cps)).size := by
            have := congrArg List.length hus
            simpa using this
          have := quoted_len (fixed y.cps)
          omega
        k_with_none
        k_with "call builtin:str.join" => (refine join_us (by k_asm) hjs hul ?_; intro _ _)
        k_with "call ref" => ((with_reducible show wpAny _ _ (call (Value.ref 118) _) _ _ _); k_dflt (refine' hd _ _ _ _ _ _ _ _ _ _ _ _ _ _ _ _ _ _ _ _ _ _ _ ?f1 ?f2 ?f3 ?f4 ?f5 ?fK ?fp ?fd ?fu ?_; (case f1 => k_asm); (case f2 => k_asm); (case f3 => k_asm); (case f4 => k_asm); (case f5 => k_asm); (case fK => first | exact rfl | assumption); (case fp => exact hpd); (case fd => ktr_room); (case fu => ktr_units)); intro t8 h8 tk8 F8 N8; dsimp only; (try k_sweep))
        k_steps
        all_goals cb_end hret
end Mine
end
section
open PySem PySem.W PyProof.Rows
namespace Mine
set_option maxRecDepth 100000
def ElS (h₀ : Heap) (L : Addr) (m : Str → Option Value) (s : Shared) (led : List (Addr × Obj)) (g : Str) (r : Value) (s₄ : Shared) : Prop :=
  ∃ t h' tk', r = .str g t ∧ s₄ = { s with heap := h', toks := tk' } ∧ Fr h₀ L h' m ∧ News h₀ L h' led
theorem ElS.mk {h₀ : Heap} {L : Addr} {m : Str → Option Value} {s : Shared} {led : List (Addr × Obj)} {g : Str} {t : Tok} {h' : Heap} {tk' : Nat} (F : Fr h₀ L h' m) (N : News h₀ L h' led) : ElS h₀ L m s led g (.str g t) { s with heap := h', toks := tk' } :=
  ⟨_, _, _, rfl, rfl, F, N⟩
section
variable {prog : Program} {w : World} {A : Around} {h₀ : Heap} {L : Addr} {m : Str → Option Value} {env : Env} {elt : Expr} {x : Str} {scope : Scope} {cl : List (Str × Addr)} {s : Shared} {S : List (Addr × Obj) → Prop} {P : Nat → Value → Prop} {Fin : List Value → List (Addr × Obj) → Prop} {news : List (Addr × Obj)}
theorem rest_str {n : Nat} (G : Nat → Str) (hS : S news)
    (turn : Hold (∀ i v I oI C oC D m₂ ys h tk (E' : Value → Shared → Prop), i < n → P i v → LCg.NsObj oC m₂ → m₂ x = some v → Fr h₀ L h m → News h₀ L h ((I, oI) :: (C, oC) :: (D, LCg.lst ys) :: news) →
      wpAny (model prog w) A (eval elt (compEnvC scope cl C env)) (ElS h₀ L m { s with heap := h, toks := tk } ((I, oI) :: (C, oC) :: (D, LCg.lst ys) :: news) (G i)) E' { s with heap := h, toks := tk }))
    (fin : Hold (∀ ts : List (Str × Tok), ts.map (·.1) = (List.range n).map G → Fin (strValues ts) news)) : LCg.CompRest prog w A h₀ L m env elt x scope cl s S P Fin n 0 [] news := by
  have key : ∀ (j i : Nat) (ts : List (Str × Tok)), i + j = n → ts.map (·.1) = (List.range i).map G → LCg.CompRest prog w A h₀ L m env elt x scope cl s S P Fin j i (strValues ts) news := by
    intro j
    induction j with
    | zero =>
      intro i ts hi ht
      have e : i = n := by omega
      subst e
      exact LCg.CompRest.zero (fin ts ht)
    | succ j ih =>
      intro i ts hi ht
      refine LCg.CompRest.succ ?_
      intro v I oI C oC D m₂ h tk E' hv hC hx F N off ne
      refine wpAny_mono (turn i v I oI C oC D m₂ _ h tk E' (by omega) hv hC hx F N) (fun y s₂ hq => ?_) fun _ _ e => e
      obtain ⟨t, h', tk', rfl, rfl, F', N'⟩ := hq
      refine ⟨h', tk', news, rfl, F', N', off, hS, ?_⟩
      have e : strValues ts ++ [Value.str (G i) t] = strValues (ts ++ [(G i, t)]) := by simp [strValues]
      show LCg.CompRest prog w A h₀ L m env elt x scope cl s S P Fin j (i + 1) (strValues ts ++ [Value.str (G i) t]) news
      rw [e]
      exact ih (i + 1) _ (by omega) (by rw [List.map_append, ht, List.range_succ, List.map_append]; rfl)
  exact key n 0 [] (by omega) rfl
theorem src_list {ax : Addr} {its : Array Value} {k : Nat} {Q : Value → Shared → Prop} {s₁ : Shared} (G : Nat → Str) (hh : A.handled = none) (F : Fr h₀ L s₁.heap m) (N : News h₀ L s₁.heap news) (hm : (ax, listOf its k) ∈ news) (hsz : its.size ≤ sizeLine)
    (turn : Hold (∀ i v I oI C oC D m₂ ys h tk (E' : Value → Shared → Prop), i < its.size → its[i]? = some v → LCg.NsObj oC m₂ → m₂ x = some v → Fr h₀ L h m → News h₀ L h ((I, oI) :: (C, oC) :: (D, LCg.lst ys) :: news) →
      wpAny (model prog w) A (eval elt (compEnvC scope cl C env)) (ElS h₀ L m { s₁ with heap := h, toks := tk } ((I, oI) :: (C, oC) :: (D, LCg.lst ys) :: news) (G i)) E' { s₁ with heap := h, toks := tk }))
    (fin : Hold (∀ (ts : List (Str × Tok)) D h tk, ts.map (·.1) = (List.range its.size).map G → Fr h₀ L h m → News h₀ L h ((D, LCg.lst (strValues ts)) :: news) → LCg.Off1 D news → Q (.ref D) { s₁ with heap := h, toks := tk })) :
    LCg.CompSrc prog w A h₀ L m env elt x scope cl (fun s₂ => LCg.FinE h₀ L m s₂ Q) (.ref ax) s₁ := by
  refine LCg.CompSrc.ledger hh F N hm hsz fun g => rest_str G (.inr ⟨_, hm, rfl, _, rfl⟩) (Hold.mk ?_) (Hold.mk ?_)
  · intro i v I oI C oC D m₂ ys h tk E' hi hv hC hx F' N'
    exact turn i v I oI C oC D m₂ ys h tk E' hi hv hC hx F' N'
  · intro ts ht D h tk F' N' o1
    exact fin ts D h tk ht F' N' o1
end
end Mine
end
section
open PySem PySem.W PyProof.Rows
namespace Mine
set_option maxRecDepth 100000
section
variable {prog : Program} {w : World} {A : Around} {E : Value → Shared → Prop} {s : Shared} {env : Env} {h₀ : Heap} {x : Str} {body : List Stmt} {Q : Flow → Shared → Prop}
theorem rangeH {r : Addr} {a₀ b₀ : Int} {t₀ u₀ v₀ : Tok} {n : Nat} {m₀ : Str → Option Value} {news : List (Addr × Obj)} (J : Nat → (Str → Option Value) → List (Addr × Obj) → Prop)
    (hh : A.handled = none) (hr : IsRange s.heap r a₀ b₀ 1 t₀ u₀ v₀) (hsmall : Builtin.Range.small a₀ b₀ 1 = true) (hn : Builtin.Range.rangeSize a₀ b₀ 1 = (n : Int)) (F : Fr h₀ env.locals s.heap m₀) (N : News h₀ env.locals s.heap news) (hj : J 0 m₀ news)
    (turn : Hold (∀ i t m₁ news₁ h tk own, i < n → OwnOff own (news₁.map (·.1)) → J i m₁ news₁ → Fr h₀ env.locals h (fun y => if y = x then some (.int (a₀ + (i : Int)) t) else m₁ y) → News h₀ env.locals h (news₁ ++ own) →
      wpAny (model prog w) A (execs body env) (InvPostG h₀ env.locals (J (i + 1)) own { s with heap := h, toks := tk } Q) E { s with heap := h, toks := tk }))
    (done : Hold (∀ m₁ news₁ h tk, J n m₁ news₁ → Fr h₀ env.locals h m₁ → News h₀ env.locals h news₁ → Q .next { s with heap := h, toks := tk })) :
    wpAny (model prog w) A (pyIter (.ref r)) (fun it s₂ => LoopAtV prog w A h₀ env x body Q E it s₂) E s := by
  refine wpAny_pyIter_range hr hsmall ?_
  have W := LCg.range_walks (prog := prog) (w := w) (A := A) (I := s.heap.objs.size) hh a₀ n
  refine ⟨_, _, _, n, _, _, m₀, news, J, rfl, W, ?_, ?_, ?_, (by show IsRangeIter _ _ _ _ _; rw [hn]; simpa using Heap.get?_push_size _ rfl), F.push _, (fun p hp => ⟨Heap.get?_push_of_some _ (N p hp).1, (N p hp).2⟩), hj, ?_, ?_⟩
  · intro hm
    exact absurd F.ns.lt ((List.mem_singleton.mp hm) ▸ Nat.lt_irrefl _)
  · intro b hb
    rw [List.mem_singleton.mp hb]
    exact next_is_new F
  · intro p hp hI
    exact absurd (Heap.lt_size (N p hp).1) ((List.mem_singleton.mp hI) ▸ Nat.lt_irrefl _)
  · rintro i v m₁ news₁ s₁ own ⟨hh', tk', rfl⟩ hin ⟨t, rfl⟩ hJ hoff hown hget hfp hst F₁ N₁
    have hsep : OwnOff own (news₁.map (·.1)) := by
      intro p hp b hb e
      obtain ⟨q, hq, rfl⟩ := List.mem_map.mp hb
      exact hoff q hq (e ▸ hown p hp)
    have N₂ : News h₀ env.locals hh' (news₁ ++ own) := fun p hp => N₁ p ((List.mem_append.mp hp).elim (fun h => List.mem_append.mpr (.inr h)) fun h => List.mem_append.mpr (.inl h))
    refine wpAny_mono (turn i t m₁ news₁ hh' tk' own hin hsep hJ F₁ N₂) (fun f s₂ p => ?_) fun _ _ e => e
    have fin : InvEndG h₀ env.locals (J (i + 1)) own { s with heap := hh', toks := tk' } s₂ →
        LoopStepU h₀ env.locals [s.heap.objs.size] own (J (i + 1)) { s with heap := hh', toks := tk' } .next s₂ := by
      rintro ⟨h', tk, m', news', nx, e, F', N', hn', ho, ha, hm⟩
      have hI0 : h₀.get? s.heap.objs.size = none := next_is_new F
      refine ⟨rfl, h', tk, m', nx, e, F', fun p hp => ?_, fun p hp hq => ?_, hm⟩
      · rcases List.mem_append.mp hp with h | h
        · exact N' p (ho p h)
        · exact N' p (hn' p h)
      · have hst' : hh'.get? s.heap.objs.size = some _ := hst
        exact ha _ (hfp _ (List.mem_singleton.mpr rfl) hI0 _ hst') p.1 (List.mem_map.mpr ⟨p, hp, rfl⟩) (List.mem_singleton.mp hq).symm
    cases f with
    | ret v => exact .ret p
    | brk => exact .brk p
    | next => exact .next (fin p)
    | cont => exact .cont (fin p)
  · rintro h' tk m' news' F' N' _ hJ
    exact done m' news' h' tk hJ F' N'
end
/-- a row: where it lies, its stamp, its ints -/
structure Row where
  a : Addr
  n : Nat
  l : List (Int × Tok)
def Row.obj (r : Row) : Obj := listOf (r.l.map fun p => Value.int p.1 p.2).toArray r.n
def Row.ints (r : Row) : List Int := r.l.map (·.1)
def Row.ent (r : Row) : Addr × Obj := (r.a, r.obj)
theorem Row.are (r : Row) : IntsAre (r.l.map fun p => Value.int p.1 p.2) r.ints := by
  unfold Row.ints
  induction r.l with
  | nil => exact .nil
  | cons a l ih => exact .cons _ _ ih
def refs (rs : List Row) : List Value := rs.map fun r => .ref r.a
def ElR (h₀ : Heap) (L : Addr) (m : Str → Option Value) (s : Shared) (led : List (Addr × Obj)) (z : Int) (r : Value) (s₄ : Shared) : Prop :=
  ∃ a t n h' tk', r = .ref a ∧ s₄ = { s with heap := h', toks := tk' } ∧ Fr h₀ L h' m ∧ News h₀ L h' ((a, listOf #[.int z t] n) :: led) ∧ ∀ p ∈ led, p.1 < a
section
variable {prog : Program} {w : World} {A : Around} {h₀ : Heap} {L : Addr} {m : Str → Option Value} {env : Env} {elt : Expr} {x : Str} {scope : Scope} {cl : List (Str × Addr)} {s : Shared} {P : Nat → Value → Prop} {Fin : List Value → List (Addr × Obj) → Prop} {news : List (Addr × Obj)}
theorem rest_rows {n : Nat} (G : Nat → Int)
    (turn : Hold (∀ i v I oI C oC D m₂ ys nw h tk (E' : Value → Shared → Prop), i < n → P i v → LCg.NsObj oC m₂ → m₂ x = some v → Fr h₀ L h m → News h₀ L h ((I, oI) :: (C, oC) :: (D, LCg.lst ys) :: nw) →
      wpAny (model prog w) A (eval elt (compEnvC scope cl C env)) (ElR h₀ L m { s with heap := h, toks := tk } ((I, oI) :: (C, oC) :: (D, LCg.lst ys) :: nw) (G i)) E' { s with heap := h, toks := tk }))
    (fin : Hold (∀ rs : List Row, rs.map Row.ints = (List.range n).map (fun i => [G i]) → Fin (refs rs) ((rs.map Row.ent).reverse ++ news))) : LCg.CompRest prog w A h₀ L m env elt x scope cl s (fun _ => True) P Fin n 0 [] news := by
  have key : ∀ (j i : Nat) (rs : List Row), i + j = n → rs.map Row.ints = (List.range i).map (fun i => [G i]) → LCg.CompRest prog w A h₀ L m env elt x scope cl s (fun _ => True) P Fin j i (refs rs) ((rs.map Row.ent).reverse ++ news) := by
    intro j
    induction j with
    | zero =>
      intro i rs hi hr
      have e : i = n := by omega
      subst e
      exact LCg.CompRest.zero (fin rs hr)
    | succ j ih =>
      intro i rs hi hr
      refine LCg.CompRest.succ ?_
      intro v I oI C oC D m₂ h tk E' hv hC hx F N off ne
      refine wpAny_mono (turn i v I oI C oC D m₂ _ _ h tk E' (by omega) hv hC hx F N) (fun y s₂ hq => ?_) fun _ _ e => e
      obtain ⟨a, t, k, h', tk', rfl, rfl, F', N', hlt⟩ := hq
      have e1 : refs rs ++ [Value.ref a] = refs (rs ++ [Row.mk a k [(G i, t)]]) := by simp [refs]
      have e2 : (a, listOf #[Value.int (G i) t] k) :: ((rs.map Row.ent).reverse ++ news) = ((rs ++ [Row.mk a k [(G i, t)]]).map Row.ent).reverse ++ news := by
        simp [Row.ent, Row.obj]
      refine LCg.CompEnd.intro F' N' (((rs ++ [Row.mk a k [(G i, t)]]).map Row.ent).reverse ++ news) ?_ ?_ trivial ?_
      · rw [← e2]
        intro p hp
        rcases List.mem_cons.mp hp with rfl | hp
        · exact .tail _ (.head _)
        · rcases List.mem_cons.mp hp with rfl | hp
          · exact .tail _ (.tail _ (.head _))
          · rcases List.mem_cons.mp hp with rfl | hp
            · exact .tail _ (.tail _ (.tail _ (.head _)))
            · rcases List.mem_cons.mp hp with rfl | hp
              · exact .head _
              · exact .tail _ (.tail _ (.tail _ (.tail _ hp)))
      · rw [← e2]
        refine ⟨⟨?_, ?_, ?_⟩, off⟩
        · exact Nat.ne_of_gt (hlt (I, oI) (.head _))
        · exact Nat.ne_of_gt (hlt (C, oC) (.tail _ (.head _)))
        · exact Nat.ne_of_gt (hlt (D, LCg.lst (refs rs)) (.tail _ (.tail _ (.head _))))
      · show LCg.CompRest prog w A h₀ L m env elt x scope cl s (fun _ => True) P Fin j (i + 1) (refs rs ++ [Value.ref a]) _
        rw [e1]
        exact ih (i + 1) _ (by omega) (by rw [List.map_append, hr, List.range_succ, List.map_append]; rfl)
  exact key n 0 [] (by omega) rfl
end
end Mine
end
section
open PySem PySem.W PyProof.Rows
namespace Mine
set_option maxRecDepth 100000
set_option maxHeartbeats 4000000
/-- the same, the precondition told of the ledger -/
abbrev ConL (w : World) (f : Addr) (dB uB : Nat) (pre : CbLed → Prop) (vs : List Value) (R : Tok → Value) : Prop :=
  ∀ (loose : List Str) (mean : ExcName → Option Value) (mg mb : Str → Option Value) (news : CbLed) (dp un : Nat) (gd : Option (List Code)) (cn : Str) (cs : Scope) (a : Addr) (ccd : Value) (cl : List (Str × Addr)) (outer : List Env) (A₀ : Around) (base h₀ : Heap) (L : Addr) (m : Str → Option Value) (s : Shared) (Q E : Value → Shared → Prop),
    Below A₀ base outer h₀ → Fr h₀ L s.heap m → (Mine.heapK w.params).In h₀ → News h₀ L s.heap news → Top Mine.view loose mean mg mb h₀ → cs.kind = .function →
    pre news → dp + dB < recursionLimit → un + uB < cLine → (∀ (t : Tok) (h' : Heap) (tk' : Nat), Fr h₀ L h' m → News h₀ L h' news → Q (R t) { s with heap := h', toks := tk' }) →
    wpAny (model PySem.Challenge.rw_ny0173_01.row.toRowW.prog w) (ktrTop dp un gd cn cs L a ccd cl outer) (call (.ref f) vs) Q E s
theorem strs_are (ss : List (Str × Tok)) : StrsAre (strValues ss) (ss.map (·.1)) := by
  unfold strValues
  induction ss with
  | nil => exact .nil
  | cons a l ih => exact .cons _ _ ih
theorem range_getD {α : Type} (l : List α) (d : α) : (List.range l.length).map (fun i => l.getD i d) = l := by
  apply List.ext_getElem?
  intro i
  rw [List.getElem?_map]
  by_cases h : i < l.length
  · simp [h]
  · simp [h]
theorem C_lm (w : World) (R S : Addr) (rows : List Row) (ss : List (Str × Tok)) (nR nS : Nat) (b l : Nat) (tb tl : Tok) :
    ConL w 128 3 30 (fun news => (R, listOf (rows.map fun r => Value.ref r.a).toArray nR) ∈ news ∧ (S, listOf (strValues ss).toArray nS) ∈ news ∧ (∀ r ∈ rows, (r.a, r.obj) ∈ news ∧ rowOk (ss.map (·.1)) b l r.ints) ∧ rows.length ≤ 1000 ∧ ss.length ≤ 1000 ∧ (∀ p ∈ ss, p.1.length ≤ 1000) ∧ JoinOk (Str.ofString "\n") (rows.map fun r => lineM (ss.map (·.1)) b l r.ints) = true) [.ref R, .int b tb, .int l tl, .ref S] (fun t => .str (mailM (ss.map (·.1)) b l (rows.map Row.ints)) t) := by
    unfold ConL
    k_fill
    intro loose mean mg mb nw
    intros
    rename_i hpre _ _ hret
    obtain ⟨hR, hS, hrows, hrl, hsl, hsz, hjoin⟩ := hpre
    refine wpAny_call ?_
    k_dflt (refine' code_defC ?k1 ?k2 ?k3 ?k4 ?k5 ?kA ?kF ?kK ?k6 ?k7 ?k8 ?k9 ?kB ?kD ?_ ?c2 ?c3 ?c4; (case kA => exact rfl); (case kF => exact rfl); (case kK => assumption); (case k1 => k_asm); (case k2 => k_asm); (case k3 => k_asm); (case k4 => k_asm); (case k5 => k_asm); (case k6 => k_is); (case k7 => k_is); (case k8 => ktr_room); (case k9 => first | exact BindsTo.of_eq rfl | exact binds_K (by k_in) rfl (by k_is) rfl rfl rfl); (case kB => exact rfl); (case kD => decide +kernel); (case c2 => exact rfl); (case c3 => exact rfl); (case c4 => exact rfl); k_whole; intro g' L' h' tk' cells' FG' F' N' Y' B' X' T' l1; (try k_lt l1); k_cells Y'; (try simp only [List.cons_append, List.nil_append] at N'); (try dsimp only); (try k_lift B'); (try k_fold))
    k_with_none
    k_with "eval ListComp" => (refine LCg.ListComp_U (F₀ := by k_asm) (by rfl) (by decide) (by rfl) (by decide) (by rfl) ?_)
    k_with "CompSrc" => (refine src_list (fun i => (rows.map fun r => lineM (ss.map (·.1)) b l r.ints).getD i Str.empty) rfl (by k_asm) (by k_asm) (.tail _ (.tail _ (.tail _ hR))) (by simp only [List.size_toArray, List.length_map]; exact Nat.le_trans hrl (by decide)) ?_ ?_)
    k_steps
    · refine Hold.mk ?_
      intro i v I oI C oC D m₂ ys h tk E' hi hv hC hx F2 N2
      have hv' : rows[i]?.map (fun r => Value.ref r.a) = some v := by simpa using hv
      obtain ⟨r, hr, rfl⟩ : ∃ r, rows[i]? = some r ∧ v = Value.ref r.a := by
        cases e : rows[i]? with
        | none => rw [e] at hv'; cases hv'
        | some r => rw [e] at hv'; exact ⟨r, rfl, (Option.some.inj hv').symm⟩
      obtain ⟨hrm, hb1, hb2, hb3, h01, h02, hl1, hl2, hl3⟩ := hrows r (List.mem_of_getElem? hr)
      have hL1 : h.IsList r.a (r.l.map fun p => Value.int p.1 p.2).toArray := News.isList N2 (.tail _ (.tail _ (.tail _ (.tail _ (.tail _ (.tail _ hrm))))))
      have hL2 : h.IsList S (strValues ss).toArray := News.isList N2 (.tail _ (.tail _ (.tail _ (.tail _ (.tail _ (.tail _ hS))))))
      have hri := r.are
      have hsi := strs_are ss
      have e7 : ((-(b : Int)) + (r.ints.length : Int)).toNat = r.ints.length - b := by omega
      have hl63 : (ss.map (·.1)).length ≤ 1000 := by rw [List.length_map]; exact hsl
      have hsgn : ((ss.map (·.1)).getD (r.ints.getD 0 0).toNat Str.empty).length ≤ 1000 := by
        have hlt : (r.ints.getD 0 0).toNat < (ss.map (·.1)).length := by omega
        have e0 : (ss.map (·.1)).getD (r.ints.getD 0 0).toNat Str.empty = (ss.map (·.1))[(r.ints.getD 0 0).toNat] := by
          rw [List.getD, List.getElem?_eq_getElem hlt]; rfl
        rw [e0]
        obtain ⟨p, hp, e⟩ := List.mem_map.mp (List.getElem_mem hlt)
        rw [← e]; exact hsz p hp
      have eG : (rows.map fun r => lineM (ss.map (·.1)) b l r.ints).getD i Str.empty = lineM (ss.map (·.1)) b l r.ints := by
        simp [List.getD, hr]
      rw [eG]
      k_with_none
      k_with "binaryOp Add str str" => ((refine SBL.add (hsz := ?_) ?_); ((have e9 : sizeLine = 16777216 := rfl); omega); intro _ _ _)
      k_with "subscriptTail Name UnaryOp ref int" => (k_dflt (refine item_list_ints_neg hL1 hri (by omega) (by omega) (by omega) ?_); intro _; (rw [e7]))
      k_with "subscriptTail Name Constant ref int" => (k_dflt (refine item_list_ints hL1 hri (by omega) (by omega) (by omega) ?_); intro _; (rw [show (0 : Int).toNat = 0 from rfl]))
      k_with "subscriptTail Name Subscript ref int" => (k_dflt (refine item_strsA hL2 hsi h01 h02 (by omega) ?_); intro _)
      k_steps
      exact ElS.mk F2 N2
    · refine Hold.mk ?_
      intro ts D h tk hts F2 N2 ho1
      have hts2 : ts.map (·.1) = rows.map fun r => lineM (ss.map (·.1)) b l r.ints := by
        rw [hts]
        have e : (rows.map fun r => Value.ref r.a).toArray.size = (rows.map fun r => lineM (ss.map (·.1)) b l r.ints).length := by simp
        rw [e]
        exact range_getD _ _
      have ej : mailM (ss.map (·.1)) b l (rows.map Row.ints) = Txt.join (Str.ofString "\n") (rows.map fun r => lineM (ss.map (·.1)) b l r.ints) := by
        unfold mailM
        rw [List.map_map]; rfl
      k_with_none
      k_with "call builtin:str.join" => (refine SC.join (l := ts) (News.isList (by k_asm) (.head _)) hts2 hjoin ?_; intro _ _)
      k_steps
      rename_i kF kN _ _
      rw [← ej]
      exact hret _ _ _ kF (cb_drop kN fun p hp => .tail _ (.tail _ (.tail _ (.tail _ hp))))
end Mine
end
section
open PySem PySem.W PyProof.Rows
namespace Mine
set_option maxRecDepth 100000
set_option maxHeartbeats 4000000
abbrev ConG (w : World) (f : Addr) (dB uB : Nat) (pre : Prop) (vs : List Value) (out : List (List Int)) : Prop :=
  ∀ (loose : List Str) (mean : ExcName → Option Value) (mg mb : Str → Option Value) (news : CbLed) (dp un : Nat) (gd : Option (List Code)) (cn : Str) (cs : Scope) (a : Addr) (ccd : Value) (cl : List (Str × Addr)) (outer : List Env) (A₀ : Around) (base h₀ : Heap) (L : Addr) (m : Str → Option Value) (s : Shared) (Q E : Value → Shared → Prop),
    Below A₀ base outer h₀ → Fr h₀ L s.heap m → (Mine.heapK w.params).In h₀ → News h₀ L s.heap news → Top Mine.view loose mean mg mb h₀ → cs.kind = .function →
    pre → dp + dB < recursionLimit → un + uB < cLine → (∀ (G : Addr) (nG : Nat) (rows : List Row) (h' : Heap) (tk' : Nat), rows.map Row.ints = out → Fr h₀ L h' m → News h₀ L h' ((G, listOf (refs rows).toArray nG) :: (rows.map Row.ent ++ news)) → (∀ p ∈ rows.map Row.ent ++ news, p.1 ≠ G) → Q (.ref G) { s with heap := h', toks := tk' }) →
    wpAny (model PySem.Challenge.rw_ny0173_01.row.toRowW.prog w) (ktrTop dp un gd cn cs L a ccd cl outer) (call (.ref f) vs) Q E s
def led (G nG Rg nR : Nat) (rr gg : List Row) (nw : List (Addr × Obj)) : List (Addr × Obj) := (G, listOf (refs gg).toArray nG) :: (Rg, listOf (refs rr).toArray nR) :: (rr.map Row.ent ++ gg.map Row.ent ++ nw)
theorem allLt_mem {d : Addr} : ∀ {l : List (Addr × Obj)}, AllLt d l → ∀ p ∈ l, p.1 < d
  | [], _, p, hp => nomatch hp
  | q :: l, h, p, hp => by
    rcases List.mem_cons.mp hp with rfl | hp
    · exact h.1
    · exact allLt_mem h.2 p hp
theorem off1_mem {d : Addr} : ∀ {l : List (Addr × Obj)}, LCg.Off1 d l → ∀ p ∈ l, p.1 ≠ d
  | [], _, p, hp => nomatch hp
  | q :: l, h, p, hp => by
    rcases List.mem_cons.mp hp with rfl | hp
    · exact h.1
    · exact off1_mem h.2 p hp
theorem splitG {rest gg : List Row} {Mr : Row} {nw : List (Addr × Obj)} {p : Addr × Obj} (h : p ∈ rest.map Row.ent ++ (gg ++ [Mr]).map Row.ent ++ nw) : p ∈ rest.map Row.ent ++ gg.map Row.ent ++ nw ∨ p = Mr.ent := by
  simp only [List.map_append, List.mem_append, List.map_cons, List.map_nil, List.mem_singleton] at h ⊢
  rcases h with (h | h | h) | h
  · exact .inl (.inl (.inl h))
  · exact .inl (.inl (.inr h))
  · exact .inr h
  · exact .inl (.inr h)
theorem splitR {rest gg : List Row} {Mr : Row} {nw : List (Addr × Obj)} {p : Addr × Obj} (h : p ∈ (rest ++ [Mr]).map Row.ent ++ gg.map Row.ent ++ nw) : p ∈ rest.map Row.ent ++ gg.map Row.ent ++ nw ∨ p = Mr.ent := by
  simp only [List.map_append, List.mem_append, List.map_cons, List.map_nil, List.mem_singleton] at h ⊢
  rcases h with ((h | h) | h) | h
  · exact .inl (.inl (.inl h))
  · exact .inr h
  · exact .inl (.inl (.inr h))
  · exact .inl (.inr h)
theorem pick1 (v : Value) (vs : List Value) : kms_pick (v :: vs) (some 1) none = vs := by
  unfold kms_pick kms_lo kms_hi
  simp
local macro_rules | `(tactic| walk_at "exec Assign cons ListComp") => `(tactic| (refine holdIt ?_))
local macro_rules | `(tactic| walk_at "CompSrc") => `(tactic| (refine holdIt ?_))
theorem C_lg (w : World) (men step : Nat) (t1 t2 : Tok) : ConG w 123 3 30 (men ∈ [3, 4, 5, 6] ∧ step ∈ [4, 5, 6, 7]) [.int men t1, .int step t2] (jos men step (men * step)).2 := by
    unfold ConG
    k_fill
    intro loose mean mg mb nw
    intros
    rename_i hpre _ _ hret
    obtain ⟨hmen, hstep⟩ := hpre
    have hm1 : 3 ≤ men ∧ men ≤ 6 := by simp at hmen; omega
    have hs1 : 4 ≤ step ∧ step ≤ 7 := by simp at hstep; omega
    have hms : men * step ≤ 42 := Nat.le_trans (Nat.mul_le_mul hm1.2 hs1.2) (by decide)
    refine wpAny_call ?_
    k_dflt cell_enter
    k_with_none
    k_steps
    refine Hold.mk ?_
    k_dflt (refine LCg.Assign_ListComp_U (F₀ := by k_asm) (by rfl) (by with_unfolding_all rfl) (by rfl) (by decide) (by rfl) (by decide) (by rfl) (by rfl) (by rfl) ?_)
    k_with_none
    k_steps
    rename_i h2 tk2 t2' u2 v2 hR2 F2 N2 hk2
    refine Hold.mk (LCg.CompSrc.range rfl F2 N2 hR2 (small_one (by omega) (by omega) (by omega) (by omega)) (n := men) (by rw [rangeSize_nat]; simp) (Nat.le_trans hm1.2 (by decide)) (fun g => rest_rows (fun i => 0 + (i : Int)) (Hold.mk ?_) (Hold.mk ?_)))
    · rintro i v I oI C oC D m₂ ys nwx h tk E' hi ⟨t, rfl⟩ hC hx F3 N3
      k_with_none
      k_with "newList" => (k_dflt (refine newList_K F3 N3 ?_ (by decide)); intro l' h' F' N' l1)
      k_steps
      rename_i l' h' F' N' l1
      refine ⟨_, _, _, _, _, rfl, rfl, F', N', ?_⟩
      intro p hp
      rcases List.mem_cons.mp hp with rfl | hp
      · exact l1.1
      · rcases List.mem_cons.mp hp with rfl | hp
        · exact l1.2.1
        · rcases List.mem_cons.mp hp with rfl | hp
          · exact l1.2.2.1
          · exact allLt_mem l1.2.2.2 p hp
    · intro rs hrs D h tk F3 N3 ho1
      k_with_none
      k_with "pyIter ref" => (refine holdIt ?_)
      k_steps
      rename_i G h4 l1 h5 F4 N4 h6 tk6 t6 u6 v6 hR6 F6 N6 hk6
      have hsz0 : ((men : Int) * (step : Int)) = ((men * step : Nat) : Int) := by push_cast; rfl
      have hDne := off1_mem ho1
      have hGlt := allLt_mem l1.2
      refine Hold.mk (rangeH (n := men * step) (fun k mm nx => ∃ (G' nG Rg nR : Nat) (rr gg : List Row), nx = led G' nG Rg nR rr gg nw ∧ mm (Str.ofString "men") = some (.int men t1) ∧ mm (Str.ofString "step") = some (.int step t2) ∧ mm (Str.ofString "ring") = some (.ref Rg) ∧ mm (Str.ofString "gone") = some (.ref G') ∧ rr.map Row.ints = (jos men step k).1 ∧ gg.map Row.ints = (jos men step k).2 ∧ (∀ p ∈ rr.map Row.ent ++ gg.map Row.ent ++ nw, p.1 ≠ G' ∧ p.1 ≠ Rg) ∧ G' ≠ Rg) rfl hR6 (small_one (by omega) (by omega) (by omega) (by omega)) (by rw [rangeSize_nat]; congr 1; omega) F6 (news := led G 0 D (refs rs).length rs [] nw) ?_ ⟨G, 0, D, (refs rs).length, rs, [], rfl, rfl, rfl, rfl, rfl, ?_, rfl, ?_, ?_⟩ ?_ ?_)
      · intro p hp
        refine N6 p ?_
        unfold led at hp
        rcases List.mem_cons.mp hp with rfl | hp
        · exact .head _
        · rcases List.mem_cons.mp hp with rfl | hp
          · exact .tail _ (.head _)
          · have hp' : p ∈ (rs.map Row.ent).reverse ++ nw := by simpa using hp
            exact .tail _ (.tail _ hp')
      · rw [hrs]
        simp [jos]
      · intro p hp
        have hp' : p ∈ (rs.map Row.ent).reverse ++ nw := by simpa using hp
        exact ⟨Nat.ne_of_lt (hGlt p hp'), hDne p hp'⟩
      · exact Nat.ne_of_gt l1.1
      · refine Hold.mk ?_
        rintro i t m₁ news₁ hA tkA own hi hoff ⟨G', nG, Rg, nR, rr, gg, rfl, e1, e2, e3, e4, hrr, hgg, hne, hGR⟩ FA NA
        have hnn := jos_ne men hmen step hstep i (List.mem_range.mpr hi)
        obtain ⟨r, rest, rfl⟩ : ∃ r rest, rr = r :: rest := by
          cases rr with
          | nil => exact absurd hrr.symm hnn
          | cons r rest => exact ⟨r, rest, rfl⟩
        have F7 : Fr _ _ hA _ := Fr_over1 FA [(Str.ofString "men", .int men t1), (Str.ofString "step", .int step t2), (Str.ofString "ring", .ref Rg), (Str.ofString "gone", .ref G')] (by
          intro p hp
          simp only [List.mem_cons, List.not_mem_nil, or_false] at hp
          rcases hp with rfl | rfl | rfl | rfl <;> assumption)
        unfold led at NA
        simp only [List.cons_append] at NA
        dsimp only [kstB] at F7
        have hLR : hA.IsList Rg (refs (r :: rest)).toArray := News.isList NA (.tail _ (.head _))
        clear FA e1 e2 e3 e4
        k_with_none
        k_with "subscriptTail Name Constant ref int" => (k_dflt (refine item_list (x := Value.ref r.a) hLR (by omega) (by omega) rfl ?_))
        k_with "binaryOp Add ref ref" => (refine holdIt ?_)
        k_steps
        rename_i lT hT FT NT lt1
        have hrl : r.l.length ≤ 50 := by
          have := jos_len men hmen step hstep i (List.mem_range.mpr hi) r.ints (hrr ▸ .head _)
          simpa [Row.ints] using this
        refine Hold.mk (kmk_add_lit (zs := (r.l ++ [(1 + (i : Int), t)]).map fun p => Value.int p.1 p.2) FT NT (News.isList (items := (r.l.map fun p => Value.int p.1 p.2).toArray) NT (.tail _ (.tail _ (.tail _ (List.mem_append_left _ (List.mem_append_left _ (List.mem_append_left _ (.head _)))))))) (News.isList NT (.head _)) (by simp) ?_ ?_)
        rotate_left 1
        · have e9 : sizeLine = 16777216 := rfl
          simp
          omega
        intro M hM FM NM ltM
        dsimp only
        k_with_none
        k_with "subscriptTail Name Slice ref ref" => (refine holdIt ?_)
        k_steps
        rename_i hS FS NS
        have hcnt := jos_cnt men hmen step hstep i (List.mem_range.mpr hi)
        rw [← hrr, ← hgg, List.length_map, List.length_map, List.length_cons] at hcnt
        have e9 : sizeLine = 16777216 := rfl
        refine Hold.mk ?_
        k_dflt (refine' kms_slice_lit ?slF ?slN ?sll ?slp ?slq ?sle ?_ ?sls ?slt ?slz; (case slF => exact FS); (case slN => exact NS); (case sll => exact News.isList NS (.tail _ (.tail _ (.tail _ (.head _))))); (case slp => kmk_part); (case slq => kmk_part); (case sle => exact pick1 (Value.ref r.a) (refs rest)); (case sls => with_unfolding_all rfl); (case slt => kmk_pure); (case slz => (simp [refs]; omega)))
        intro R2 hR FR NR ltR
        dsimp only
        k_with_none
        k_with "call builtin:list.append" => (refine holdIt ?_)
        k_steps
        · rename_i hX FX NX tkx hmod
          have hlT : G' < lT := lt1.1
          have hRG : G' < R2 := ltR (G', listOf (refs gg).toArray nG) (.tail _ (.tail _ (.head _)))
          have hMG : G' < M := ltM (G', listOf (refs gg).toArray nG) (.tail _ (.head _))
          have hMR : M < R2 := ltR (M, _) (.head _)
          have oldR : ∀ p ∈ (r :: rest).map Row.ent ++ gg.map Row.ent ++ nw ++ own, p.1 < R2 := fun p hp => ltR p (.tail _ (.tail _ (.tail _ (.tail _ hp))))
          have oldM : ∀ p ∈ (r :: rest).map Row.ent ++ gg.map Row.ent ++ nw ++ own, p.1 < M := fun p hp => ltM p (.tail _ (.tail _ (.tail _ hp)))
          have inO : ∀ p ∈ own, p ∈ (r :: rest).map Row.ent ++ gg.map Row.ent ++ nw ++ own := fun p hp => List.mem_append_right _ hp
          have inB : ∀ p ∈ rest.map Row.ent ++ gg.map Row.ent ++ nw, p ∈ (r :: rest).map Row.ent ++ gg.map Row.ent ++ nw := by
            intro p hp
            simp only [List.map_cons, List.cons_append]
            exact .tail _ hp
          have offO : ∀ p ∈ own, p.1 ≠ G' := fun p hp => hoff p hp G' (by simp [led])
          have offB : ∀ p ∈ own, ∀ q ∈ rest.map Row.ent ++ gg.map Row.ent ++ nw, p.1 ≠ q.1 := by
            intro p hp q hq
            refine hoff p hp q.1 (List.mem_map.mpr ⟨q, ?_, rfl⟩)
            exact .tail _ (.tail _ (inB q hq))
          have hj : jos men step i = (r.ints :: rest.map Row.ints, gg.map Row.ints) := Prod.ext hrr.symm hgg.symm
          have ec : (1 + (i : Int)) = ((i + 1 : Nat) : Int) := by omega
          have em : (1 + (i : Int)).fmod (step : Int) = (((i + 1) % step : Nat) : Int) := by rw [ec]; exact (Int.ofNat_fmod _ _).symm
          refine Hold.mk (append_K FX NX (.tail (Nat.ne_of_gt hRG) (.tail (Nat.ne_of_gt hMG) (.tail (Nat.ne_of_gt hlT) (.head ?_)))) ?_ ?_)
          · intro p hp
            rcases List.mem_cons.mp hp with rfl | hp
            · exact Ne.symm hGR
            · rcases List.mem_append.mp hp with hp | hp
              · exact (hne p hp).1
              · exact offO p hp
          rotate_left 1
          · simp [refs]; omega
          intro hY FY NY
          k_with_none
          k_steps
          have er : (refs gg).toArray.push (Value.ref M) = (refs (gg ++ [Row.mk M 0 (r.l ++ [(1 + (i : Int), t)])])).toArray := by simp [refs]
          rw [er] at NY
          refine InvEndG.intro (nx := led G' (nG + 1) R2 0 rest (gg ++ [Row.mk M 0 (r.l ++ [(1 + (i : Int), t)])]) nw) (by k_asm) NY ⟨G', _, R2, _, rest, _, rfl, rfl, rfl, rfl, rfl, ?_, ?_, ?_, Nat.ne_of_lt hRG⟩ ?_ ?_ ?_
          · rw [jos, hj]
            simp only [show (i + 1) % step = 0 by omega, if_true]
            try simp [Row.ints, ec]
          · rw [jos, hj]
            simp only [show (i + 1) % step = 0 by omega, if_true]
            try simp [Row.ints, ec]
          · intro p hp
            rcases splitG hp with hp | rfl
            · exact ⟨(hne p (inB p hp)).1, Nat.ne_of_lt (oldR p (List.mem_append_left _ (inB p hp)))⟩
            · exact ⟨Nat.ne_of_gt hMG, Nat.ne_of_lt hMR⟩
          · intro p hp b hb
            obtain ⟨q, hq, rfl⟩ := List.mem_map.mp hb
            unfold led at hq
            rcases List.mem_cons.mp hq with rfl | hq
            · exact offO p hp
            · rcases List.mem_cons.mp hq with rfl | hq
              · exact Nat.ne_of_lt (oldR p (inO p hp))
              · rcases splitG hq with hq | rfl
                · exact offB p hp q hq
                · exact Nat.ne_of_lt (oldM p (inO p hp))
          · intro p hp
            unfold led at hp
            rcases List.mem_cons.mp hp with rfl | hp
            · exact .tail _ (.tail _ (.tail _ (.head _)))
            · rcases List.mem_cons.mp hp with rfl | hp
              · exact .head _
              · rcases splitG hp with hp | rfl
                · exact .tail _ (.tail _ (.tail _ (.tail _ (.tail _ (List.mem_append_left _ (inB p hp))))))
                · exact .tail _ (.head _)
          · intro p hp
            exact .tail _ (.tail _ (.tail _ (.tail _ (.tail _ (inO p hp)))))
        · rename_i hX FX NX tkx hmod
          have hlT : G' < lT := lt1.1
          have hRG : G' < R2 := ltR (G', listOf (refs gg).toArray nG) (.tail _ (.tail _ (.head _)))
          have hMG : G' < M := ltM (G', listOf (refs gg).toArray nG) (.tail _ (.head _))
          have hMR : M < R2 := ltR (M, _) (.head _)
          have oldR : ∀ p ∈ (r :: rest).map Row.ent ++ gg.map Row.ent ++ nw ++ own, p.1 < R2 := fun p hp => ltR p (.tail _ (.tail _ (.tail _ (.tail _ hp))))
          have oldM : ∀ p ∈ (r :: rest).map Row.ent ++ gg.map Row.ent ++ nw ++ own, p.1 < M := fun p hp => ltM p (.tail _ (.tail _ (.tail _ hp)))
          have inO : ∀ p ∈ own, p ∈ (r :: rest).map Row.ent ++ gg.map Row.ent ++ nw ++ own := fun p hp => List.mem_append_right _ hp
          have inB : ∀ p ∈ rest.map Row.ent ++ gg.map Row.ent ++ nw, p ∈ (r :: rest).map Row.ent ++ gg.map Row.ent ++ nw := by
            intro p hp
            simp only [List.map_cons, List.cons_append]
            exact .tail _ hp
          have offO : ∀ p ∈ own, p.1 ≠ G' := fun p hp => hoff p hp G' (by simp [led])
          have offB : ∀ p ∈ own, ∀ q ∈ rest.map Row.ent ++ gg.map Row.ent ++ nw, p.1 ≠ q.1 := by
            intro p hp q hq
            refine hoff p hp q.1 (List.mem_map.mpr ⟨q, ?_, rfl⟩)
            exact .tail _ (.tail _ (inB q hq))
          have hj : jos men step i = (r.ints :: rest.map Row.ints, gg.map Row.ints) := Prod.ext hrr.symm hgg.symm
          have ec : (1 + (i : Int)) = ((i + 1 : Nat) : Int) := by omega
          have em : (1 + (i : Int)).fmod (step : Int) = (((i + 1) % step : Nat) : Int) := by rw [ec]; exact (Int.ofNat_fmod _ _).symm
          refine Hold.mk (append_K FX NX (.head (fun p hp => Nat.ne_of_lt (ltR p hp))) ?_ ?_)
          rotate_left 1
          · simp [refs]; omega
          intro hY FY NY
          k_with_none
          k_steps
          have er : (refs rest).toArray.push (Value.ref M) = (refs (rest ++ [Row.mk M 0 (r.l ++ [(1 + (i : Int), t)])])).toArray := by simp [refs]
          rw [er] at NY
          refine InvEndG.intro (nx := led G' nG R2 (0 + 1) (rest ++ [Row.mk M 0 (r.l ++ [(1 + (i : Int), t)])]) gg nw) (by k_asm) NY ⟨G', _, R2, _, _, gg, rfl, rfl, rfl, rfl, rfl, ?_, ?_, ?_, Nat.ne_of_lt hRG⟩ ?_ ?_ ?_
          · rw [jos, hj]
            simp only [show ¬ (i + 1) % step = 0 by omega, if_false]
            try simp [Row.ints, ec]
          · rw [jos, hj]
            simp only [show ¬ (i + 1) % step = 0 by omega, if_false]
            try simp [Row.ints, ec]
          · intro p hp
            rcases splitR hp with hp | rfl
            · exact ⟨(hne p (inB p hp)).1, Nat.ne_of_lt (oldR p (List.mem_append_left _ (inB p hp)))⟩
            · exact ⟨Nat.ne_of_gt hMG, Nat.ne_of_lt hMR⟩
          · intro p hp b hb
            obtain ⟨q, hq, rfl⟩ := List.mem_map.mp hb
            unfold led at hq
            rcases List.mem_cons.mp hq with rfl | hq
            · exact offO p hp
            · rcases List.mem_cons.mp hq with rfl | hq
              · exact Nat.ne_of_lt (oldR p (inO p hp))
              · rcases splitR hq with hq | rfl
                · exact offB p hp q hq
                · exact Nat.ne_of_lt (oldM p (inO p hp))
          · intro p hp
            unfold led at hp
            rcases List.mem_cons.mp hp with rfl | hp
            · exact .tail _ (.tail _ (.tail _ (.head _)))
            · rcases List.mem_cons.mp hp with rfl | hp
              · exact .head _
              · rcases splitR hp with hp | rfl
                · exact .tail _ (.tail _ (.tail _ (.tail _ (.tail _ (List.mem_append_left _ (inB p hp))))))
                · exact .tail _ (.head _)
          · intro p hp
            exact .tail _ (.tail _ (.tail _ (.tail _ (.tail _ (inO p hp)))))
      · refine Hold.mk ?_
        rintro m₁ news₁ hA tkA ⟨G', nG, Rg, nR, rr, gg, rfl, e1, e2, e3, e4, hrr, hgg, hne, hGR⟩ FA NA
        have F7 : Fr _ _ hA _ := Fr_over FA [(Str.ofString "gone", .ref G')] (by
          intro p hp
          simp only [List.mem_cons, List.not_mem_nil, or_false] at hp
          rcases hp with rfl
          assumption)
        unfold led at NA
        dsimp only [kstB] at F7
        clear FA e1 e2 e3 e4
        k_with_none
        k_steps
        rename_i kF kN _ _
        have inG : ∀ p ∈ gg.map Row.ent ++ nw, p ∈ rr.map Row.ent ++ gg.map Row.ent ++ nw := by
          intro p hp
          rw [List.append_assoc]
          exact List.mem_append_right _ hp
        refine hret G' nG gg _ _ hgg kF (cb_drop kN fun p hp => ?_) fun p hp => (hne p (inG p hp)).1
        rcases List.mem_cons.mp hp with rfl | hp
        · exact .head _
        · exact .tail _ (.tail _ (inG p hp))
end Mine
end
section
open PySem PySem.W PyProof.Rows
namespace Mine
set_option maxRecDepth 100000
/-- a text of signs -/
abbrev tx (l : List Nat) : Str := ⟨l.toArray⟩
theorem tx_of (x : Str) : tx x.cps.toList = x := by cases x; simp
/-- lines, each with its end -/
def ends (sep : List Nat) (P : List (List Nat)) : List Nat := P.flatMap (· ++ sep)
theorem ends_append (sep : List Nat) (P R : List (List Nat)) : ends sep (P ++ R) = ends sep P ++ ends sep R := by simp [ends]
theorem ends_cons (sep a : List Nat) (P : List (List Nat)) : ends sep (a :: P) = a ++ sep ++ ends sep P := by simp [ends]
def glue (sep : List Nat) : List (List Nat) → List Nat
  | [] => []
  | [a] => a
  | a :: b :: r => a ++ sep ++ glue sep (b :: r)
theorem glue_snoc (sep z : List Nat) : ∀ P : List (List Nat), glue sep (P ++ [z]) = ends sep P ++ z
  | [] => rfl
  | [a] => by simp [glue, ends]
  | a :: b :: r => by
    have := glue_snoc sep z (b :: r)
    simp only [List.cons_append] at this
    simp only [List.cons_append, glue, this, ends_cons]
    simp
theorem glued_eq (sep : Str) (ts : List Str) : (Txt.join sep ts).cps.toList = glue sep.cps.toList (ts.map fun t => t.cps.toList) := by
  unfold Txt.join Builtin.Str.glued
  cases ts with
  | nil => rfl
  | cons a r =>
    have key : ∀ (r : List Str) (acc : Array Nat), (r.foldl (fun acc p => acc ++ sep.cps ++ p.cps) acc).toList = acc.toList ++ (r.map fun t => sep.cps.toList ++ t.cps.toList).flatten := by
      intro r
      induction r with
      | nil => intro acc; simp
      | cons b r ih => intro acc; rw [List.foldl_cons, ih]; simp
    have k2 : ∀ (r : List Str) (a : List Nat), glue sep.cps.toList (a :: r.map fun t => t.cps.toList) = a ++ (r.map fun t => sep.cps.toList ++ t.cps.toList).flatten := by
      intro r
      induction r with
      | nil => intro a; simp [glue]
      | cons b r ih => intro a; simp only [List.map_cons, glue, ih]; simp
    simp only [List.drop_succ_cons, List.drop_zero, List.headD_cons, List.map_cons]
    rw [key, k2]
theorem join_tx (sep : Str) (ts : List Str) : Txt.join sep ts = tx (glue sep.cps.toList (ts.map fun t => t.cps.toList)) := by
  rw [← glued_eq]
theorem glue_ne (sep : List Nat) : ∀ (P R : List (List Nat)), P ≠ [] → R ≠ [] → glue sep (P ++ R) = glue sep P ++ sep ++ glue sep R
  | [], _, h, _ => absurd rfl h
  | [a], [], _, h => absurd rfl h
  | [a], b :: r, _, _ => by simp [glue]
  | a :: b :: r, R, _, h => by
    have := glue_ne sep (b :: r) R (by simp) h
    simp only [List.cons_append] at this ⊢
    simp only [glue, this]
    simp
theorem glue_flat (sep : List Nat) : ∀ (L : List (List (List Nat))), (∀ p ∈ L, p ≠ []) → glue sep (L.map (glue sep)) = glue sep L.flatten
  | [], _ => rfl
  | [a], _ => by simp [glue]
  | a :: b :: r, h => by
    have ih := glue_flat sep (b :: r) fun p hp => h p (.tail _ hp)
    have hb : (b :: r).flatten ≠ [] := by
      have := h b (.tail _ (.head _))
      simp [this]
    rw [List.flatten_cons, glue_ne sep a _ (h a (.head _)) hb, ← ih]
    simp only [List.map_cons, glue]
/- the replacings, as they go along -/
theorem drop_ar {x : Array Nat} {p : Nat} (h : p < x.size) : x.toList.drop p = x.getD p 0 :: x.toList.drop (p + 1) := by
  rw [List.drop_eq_getElem_cons (by simpa using h)]
  simp [Array.getD, h]
theorem subF3 (x : Array Nat) (r : List Nat) : ∀ (k p : Nat), p + k = x.size → subF (cond3 x) r x k p = (x.toList.drop p).flatMap fun c => if c = 10 then r else [c]
  | 0, p, h => by
    have : x.toList.drop p = [] := List.drop_eq_nil_of_le (by simp; omega)
    simp [subF, this]
  | k + 1, p, h => by
    rw [subF, subF3 x r k (p + 1) (by omega), drop_ar (by omega : p < x.size), List.flatMap_cons]
    congr 1
    unfold cond3
    by_cases e : x.getD p 0 = 10 <;> simp [e]
def q1 : Bool → List Nat → List Nat
  | _, [] => []
  | b, c :: r => (if b = true ∧ c = 46 then [46, 46] else [c]) ++ q1 (c == 10) r
theorem subF1 (x : Array Nat) : ∀ (k p : Nat), p + k = x.size → subF (cond1 x) [46, 46] x k p = q1 (isBeg x p) (x.toList.drop p)
  | 0, p, h => by
    have : x.toList.drop p = [] := List.drop_eq_nil_of_le (by simp; omega)
    simp [subF, this, q1]
  | k + 1, p, h => by
    rw [subF, subF1 x k (p + 1) (by omega), drop_ar (by omega : p < x.size), q1]
    congr 1
    · unfold cond1
      by_cases e : x.getD p 0 = 46
      · by_cases e2 : isBeg x p = true <;> simp [e, e2]
      · simp [e]
theorem fixed_eq (l : List Nat) : fixed l.toArray = (l.flatMap fun c => if c = 10 then [13, 10] else [c]).toArray := by
  unfold fixed
  rw [subF3 _ _ _ _ (by simp)]
  simp
theorem quoted_eq (l : List Nat) : quoted l.toArray = (q1 true l).toArray := by
  unfold quoted
  rw [subF1 _ _ _ (by simp)]
  simp [isBeg]
def dbl : List Nat → List Nat
  | [] => []
  | c :: r => if c = 46 then 46 :: 46 :: r else c :: r
theorem flat_no10 {l : List Nat} (h : 10 ∉ l) : (l.flatMap fun c => if c = 10 then [13, 10] else [c]) = l := by
  induction l with
  | nil => rfl
  | cons a l ih =>
    rw [List.flatMap_cons, ih (by simp at h; exact h.2)]
    have : a ≠ 10 := by rintro rfl; simp at h
    simp [this]
theorem fixed_ends {P : List (List Nat)} {z : List Nat} (h : ∀ p ∈ P, 10 ∉ p) (hz : 10 ∉ z) : fixed (ends [10] P ++ z).toArray = (ends [13, 10] P ++ z).toArray := by
  rw [fixed_eq]
  congr 1
  rw [List.flatMap_append, flat_no10 hz]
  congr 1
  induction P with
  | nil => rfl
  | cons a P ih =>
    rw [ends_cons, ends_cons, List.flatMap_append, ih fun p hp => h p (.tail _ hp), List.flatMap_append, flat_no10 (h a (.head _))]
    simp
theorem q1_in {l : List Nat} (h : 10 ∉ l) (r : List Nat) (hl : l ≠ []) : q1 false (l ++ r) = l ++ q1 false r := by
  induction l with
  | nil => exact absurd rfl hl
  | cons a l ih =>
    have h1 : a ≠ 10 := by rintro rfl; simp at h
    have h2 : 10 ∉ l := by simp at h; exact h.2
    rw [List.cons_append, q1]
    simp only [Bool.false_eq_true, false_and, if_false, List.cons_append, List.nil_append]
    have e : (a == 10) = false := by simpa using h1
    rw [e]
    by_cases hn : l = []
    · subst hn; rfl
    · rw [ih h2 hn]
theorem q1_in' {l : List Nat} (h : 10 ∉ l) (r : List Nat) : q1 false (l ++ r) = l ++ q1 false r := by
  by_cases hl : l = []
  · subst hl; rfl
  · exact q1_in h r hl
theorem q1_at {l : List Nat} (h : 10 ∉ l) (r : List Nat) (hl : l ≠ []) : q1 true (l ++ r) = dbl l ++ q1 false r := by
  cases l with
  | nil => exact absurd rfl hl
  | cons a l =>
    have h1 : a ≠ 10 := by rintro rfl; simp at h
    have h2 : 10 ∉ l := by simp at h; exact h.2
    have e : (a == 10) = false := by simpa using h1
    rw [List.cons_append, q1, e, q1_in' h2]
    unfold dbl
    by_cases ha : a = 46 <;> simp [ha]
theorem q1_line {l : List Nat} (h : 10 ∉ l) (r : List Nat) : q1 true (l ++ [13, 10] ++ r) = dbl l ++ [13, 10] ++ q1 true r := by
  by_cases hl : l = []
  · subst hl; simp [q1, dbl]
  · rw [List.append_assoc, q1_at h _ hl]
    simp [q1]
theorem quoted_ends {P : List (List Nat)} {z : List Nat} (h : ∀ p ∈ P, 10 ∉ p) (hz : 10 ∉ z) : quoted (ends [13, 10] P ++ z).toArray = (ends [13, 10] (P.map dbl) ++ dbl z).toArray := by
  rw [quoted_eq]
  congr 1
  induction P with
  | nil =>
    by_cases hn : z = []
    · subst hn; rfl
    · have := q1_at hz [] hn
      simpa [ends, q1] using this
  | cons a P ih =>
    rw [ends_cons, List.append_assoc, List.map_cons, ends_cons, q1_line (h a (.head _)), ih fun p hp => h p (.tail _ hp)]
    simp
/- lines -/
theorem strSub_tx (x : Str) (a b : Nat) (h : b ≤ x.length) : Builtin.Str.strSub x a b = tx ((x.cps.toList.drop a).take (b - a)) := by
  unfold Builtin.Str.strSub
  have : (x.cps.extract a b).toList = (x.cps.toList.drop a).take (b - a) := by simp
  rw [← this]
def lsStep (s : Str) (st : StrLaws.LsSt) (i : Nat) : StrLaws.LsSt :=
  if (decide (st.snd ≤ i) && Unicode.isLineBreak (s.cps.getD i 0)) = true then (st.fst.push (st.snd, i, StrLaws.lsNext s i), StrLaws.lsNext s i) else st
theorem lsBody_eq (s : Str) : StrLaws.lsBody s = fun i st => pure (ForInStep.yield (lsStep s st i)) := by
  funext i st
  unfold StrLaws.lsBody lsStep
  split <;> rfl
theorem spans_eq (s : Str) : Builtin.Str.lineSpans s = StrLaws.lsEnd s ((List.range' 0 s.length).foldl (lsStep s) (#[], 0)) := by
  rw [StrLaws.ls_eq, lsBody_eq, List.forIn_pure_yield_eq_foldl]
  rfl
theorem fold_plain (s : Str) : ∀ (k a : Nat) (st : StrLaws.LsSt), (∀ i, a ≤ i → i < a + k → Unicode.isLineBreak (s.cps.getD i 0) = false) → (List.range' a k).foldl (lsStep s) st = st
  | 0, _, _, _ => rfl
  | k + 1, a, st, h => by
    rw [List.range'_succ, List.foldl_cons]
    have e : lsStep s st a = st := by
      unfold lsStep
      rw [h a (Nat.le_refl _) (by omega), Bool.and_false]
      rfl
    rw [e]
    exact fold_plain s k (a + 1) st fun i h1 h2 => h i (by omega) (by omega)
theorem getD_mid {x : Str} {pre a post : List Nat} (h : x.cps.toList = pre ++ a ++ post) {i : Nat} (h1 : pre.length ≤ i) (h2 : i < pre.length + a.length) : x.cps.getD i 0 ∈ a := by
  rw [← getD_list, h, List.append_assoc, List.getD, List.getElem?_append_right h1, List.getElem?_append_left (by omega), List.getElem?_eq_getElem (by omega)]
  exact List.getElem_mem _
theorem getD_at {x : Str} {pre post : List Nat} {c : Nat} (h : x.cps.toList = pre ++ c :: post) : x.cps.getD pre.length 0 = c := by
  rw [← getD_list, h, List.getD, List.getElem?_append_right (Nat.le_refl _)]
  simp
def brkC (c : Nat) : Bool := Unicode.isLineBreak c
theorem brk10 : Unicode.isLineBreak 10 = true := by decide +kernel
theorem brk13 : Unicode.isLineBreak 13 = true := by decide +kernel
/-- one line's end met -/
theorem fold_end {x : Str} {sep pre post : List Nat} (hs : sep = [10] ∨ sep = [13, 10]) (h : x.cps.toList = pre ++ sep ++ post) (ar : Array (Nat × Nat × Nat)) (st : Nat) (hst : st ≤ pre.length) :
    (List.range' pre.length sep.length).foldl (lsStep x) (ar, st) = (ar.push (st, pre.length, pre.length + sep.length), pre.length + sep.length) := by
  rcases hs with rfl | rfl
  · have e1 : x.cps.getD pre.length 0 = 10 := getD_at (post := post) (by rw [h]; simp)
    show lsStep x (ar, st) pre.length = _
    unfold lsStep StrLaws.lsNext
    rw [e1, brk10]
    simp [hst]
  · have e1 : x.cps.getD pre.length 0 = 13 := getD_at (post := 10 :: post) (by rw [h]; simp)
    have e2 : x.cps[pre.length + 1]? = some 10 := by
      rw [← Array.getElem?_toList, h]
      simp
    show lsStep x (lsStep x (ar, st) pre.length) (pre.length + 1) = _
    have e3 : lsStep x (ar, st) pre.length = (ar.push (st, pre.length, pre.length + 2), pre.length + 2) := by
      unfold lsStep StrLaws.lsNext
      rw [e1, brk13, e2]
      simp [hst]
    rw [e3]
    unfold lsStep
    have : ¬ (pre.length + 2 ≤ pre.length + 1) := by omega
    simp [this]
theorem range'_split (a k m : Nat) : List.range' a (k + m) = List.range' a k ++ List.range' (a + k) m := by
  rw [List.range'_append_1]
theorem lines_run {x : Str} {sep z : List Nat} (hs : sep = [10] ∨ sep = [13, 10]) (hz : ∀ c ∈ z, brkC c = false) : ∀ (P : List (List Nat)) (pre : List Nat) (ar : Array (Nat × Nat × Nat)), (∀ p ∈ P, ∀ c ∈ p, brkC c = false) → x.cps.toList = pre ++ (ends sep P ++ z) →
    (StrLaws.lsEnd x ((List.range' pre.length (ends sep P ++ z).length).foldl (lsStep x) (ar, pre.length))).map (fun p => Builtin.Str.strSub x p.1 p.2.1) = ar.toList.map (fun p => Builtin.Str.strSub x p.1 p.2.1) ++ P.map tx ++ (if z = [] then [] else [tx z])
  | [], pre, ar, _, h => by
    have h' : x.cps.toList = pre ++ z ++ [] := by simpa [ends] using h
    have hl : x.length = pre.length + z.length := by
      have := congrArg List.length h'
      simpa [Str.length] using this
    have e0 : ends sep [] ++ z = z := rfl
    rw [e0, fold_plain x z.length pre.length _ fun i h1 h2 => hz _ (getD_mid h' h1 h2)]
    unfold StrLaws.lsEnd
    by_cases hn : z = []
    · subst hn
      have : ¬ (pre.length < x.length) := by simp at hl; omega
      simp [this]
    · have : pre.length < x.length := by
        have : z.length ≠ 0 := by simpa using hn
        omega
      simp only [this, if_true, hn, if_false]
      rw [Array.toList_push, List.map_append]
      simp only [List.map_cons, List.map_nil]
      rw [strSub_tx _ _ _ (Nat.le_refl _), h']
      have e : x.length - pre.length = z.length := by omega
      rw [e]
      simp
  | a :: P, pre, ar, hp, h => by
    have ha := hp a (.head _)
    have hP : ∀ p ∈ P, ∀ c ∈ p, brkC c = false := fun p hp' => hp p (.tail _ hp')
    have e0 : ends sep (a :: P) ++ z = a ++ (sep ++ (ends sep P ++ z)) := by rw [ends_cons]; simp
    rw [e0] at h ⊢
    have h1 : x.cps.toList = pre ++ a ++ (sep ++ (ends sep P ++ z)) := by rw [h]; simp
    have h2 : x.cps.toList = (pre ++ a) ++ sep ++ (ends sep P ++ z) := by rw [h]; simp
    have h3 : x.cps.toList = (pre ++ a ++ sep) ++ (ends sep P ++ z) := by rw [h]; simp
    have hl : x.length = pre.length + (a.length + (sep.length + (ends sep P ++ z).length)) := by
      have := congrArg List.length h
      simpa [Str.length] using this
    rw [List.length_append, List.length_append, range'_split, List.foldl_append, fold_plain x a.length pre.length _ fun i h1' h2' => ha _ (getD_mid h1 h1' h2'), range'_split, List.foldl_append]
    have e1 : pre.length + a.length = (pre ++ a).length := by simp
    rw [e1, fold_end hs h2 ar pre.length (by simp)]
    have e2 : (pre ++ a).length + sep.length = (pre ++ a ++ sep).length := (List.length_append ..).symm
    rw [e2, lines_run hs hz P (pre ++ a ++ sep) _ hP h3]
    rw [Array.toList_push, List.map_append]
    simp only [List.map_cons, List.map_nil]
    have e3 : Builtin.Str.strSub x pre.length (pre ++ a).length = tx a := by
      rw [strSub_tx _ _ _ (by simp; omega), h1]
      simp
    rw [e3]
    simp
theorem lines_is (x : Str) : Txt.lines x = (Builtin.Str.lineSpans x).map (fun p => Builtin.Str.strSub x p.1 p.2.1) := by
  have e : linesOf x = (Builtin.Str.lineSpans x).map (fun p => Builtin.Str.strSub x p.1 p.2.1) := by
    unfold linesOf lineCuts
    rw [List.map_map]
    apply List.map_congr_left
    intro ⟨i, j, k⟩ _
    rfl
  unfold Txt.lines
  split
  · rename_i h
    have h' := eq_of_beq h
    rw [← e]
    unfold linesOf
    rw [h']
    simp [strSub_whole]
  · exact e
theorem lines_ends {sep z : List Nat} {P : List (List Nat)} (hs : sep = [10] ∨ sep = [13, 10]) (hP : ∀ p ∈ P, ∀ c ∈ p, brkC c = false) (hz : ∀ c ∈ z, brkC c = false) :
    Txt.lines (tx (ends sep P ++ z)) = P.map tx ++ (if z = [] then [] else [tx z]) := by
  have h := lines_run (x := tx (ends sep P ++ z)) hs hz P [] #[] hP (by simp)
  rw [lines_is, spans_eq]
  have e : (tx (ends sep P ++ z)).length = (ends sep P ++ z).length := by simp [Str.length, tx]
  rw [e]
  simpa using h
theorem rstrip_id {l : List Nat} (h : l = [] ∨ Unicode.isSpace (l.getD (l.length - 1) 0) = false) : Txt.rstrip (tx l) = tx l := by
  unfold Txt.rstrip
  rw [PyProof.Rows.stripBy_eq]
  have hl : (tx l).length = l.length := by simp [Str.length, tx]
  have hf := hi_facts Unicode.isSpace (tx l) 0 (Nat.zero_le _)
  have e0 : stripLo Unicode.isSpace false (tx l) = 0 := rfl
  rw [e0]
  have : stripHi Unicode.isSpace true (tx l) 0 = (tx l).length := by
    rcases h with rfl | h
    · have := hf.2.1
      simp [hl] at this ⊢
      exact this
    · by_cases hlt : stripHi Unicode.isSpace true (tx l) 0 < (tx l).length
      · have h2 := hf.2.2.1 (l.length - 1) (by omega) (by omega)
        rw [← getD_list] at h2
        simp only [tx] at h2
        rw [h] at h2
        cases h2
      · have := hf.2.1
        omega
  rw [this]
  exact strSub_whole _
theorem decL_tx {l : List Nat} (h : l = [] ∨ Unicode.isSpace (l.getD (l.length - 1) 0) = false) : decL (tx l) = if l.isEmpty then [10] else decT l := by
  unfold decL
  rw [rstrip_id h]
end Mine
end
section
open PySem PySem.W PyProof.Rows
namespace Mine
set_option maxRecDepth 100000
/-- full stops -/
abbrev st (n : Nat) : List Nat := List.replicate n 46
theorem st_succ (n : Nat) : st (n + 1) = 46 :: st n := rfl
theorem st_add (a b : Nat) : st a ++ st b = st (a + b) := by simp [st]
def hx (c : Nat) : List Nat := [61, hexU (c / 16), hexU (c % 16)]
/-- the pieces with a soft break, and the stops left -/
def chs (m t : Nat) : Nat → Nat → List (List Nat) × Nat
  | 0, k => ([], k)
  | f + 1, k => if k + t ≤ m then ([], k) else if k + 2 = m then ([st k ++ [61]], 0) else ((st (m - 1) ++ [61]) :: (chs m t f (k + 1 - m)).1, (chs m t f (k + 1 - m)).2)
def fin (m k c : Nat) : List (List Nat) :=
  if c = 32 ∨ c = 9 then (if k + 3 ≤ m then [st k ++ hx c] else if k + 2 = m then [st k ++ [c, 61], []] else [st k ++ [61], hx c])
  else [st k ++ enc1 c]
theorem fin_ne (m k c : Nat) : fin m k c ≠ [] := by
  unfold fin
  split
  · split
    · simp
    · split <;> simp
  · simp
def phs (m n c : Nat) : List (List Nat) := (chs m (enc1 c).length (n + (enc1 c).length + 1) n).1 ++ fin m (chs m (enc1 c).length (n + (enc1 c).length + 1) n).2 c
theorem phs_ne (m n c : Nat) : phs m n c ≠ [] := by
  unfold phs
  have := fin_ne m (chs m (enc1 c).length (n + (enc1 c).length + 1) n).2 c
  simp [this]
section
variable {m n t : Nat} {tl : List Nat}
theorem len_line : (tx (st n ++ tl)).length = n + tl.length := by simp [Str.length]
theorem at_stop {i : Nat} (h : i < n) : at_ (tx (st n ++ tl)) i = 46 := by
  unfold at_
  rw [← getD_list]
  simp [List.getD, List.getElem?_append_left, h]
theorem at_tl {i : Nat} (h : n ≤ i) : at_ (tx (st n ++ tl)) i = tl.getD (i - n) 0 := by
  unfold at_
  rw [← getD_list]
  simp only [List.getD]
  rw [List.getElem?_append_right (by simpa using h)]
  simp
theorem cut_stops {a b : Nat} (h1 : a ≤ b) (h : b ≤ n) : cut (tx (st n ++ tl)) a b = tx (st (b - a)) := by
  unfold cut
  simp only [tx]
  congr 2
  rw [List.drop_append_of_le_length (by simp; omega)]
  rw [List.take_append_of_le_length (by simp; omega)]
  simp [st]
  omega
theorem cut_mid {a b : Nat} (h1 : a ≤ n) (h : n ≤ b) : cut (tx (st n ++ tl)) a b = tx (st (n - a) ++ tl.take (b - n)) := by
  unfold cut
  simp only [tx]
  congr 2
  rw [List.drop_append_of_le_length (by simp; omega), List.take_append]
  have e1 : (st n).drop a = st (n - a) := by simp [st]
  have e2 : (st (n - a)).take (b - a) = st (n - a) := List.take_of_length_le (by simp; omega)
  have e3 : b - a - (st (n - a)).length = b - n := by simp; omega
  rw [e1, e2, e3]
theorem app_tx (a b : List Nat) : tx a ++ tx b = tx (a ++ b) := by
  rw [← tx_of (tx a ++ tx b), cps_app]
theorem eqs_tx : Str.ofString "=" = tx [61] := by decide +kernel
theorem brk_chs (hm : 4 ≤ m) (ht : tl.length = 1 ∨ (tl.length = 3 ∧ tl.getD 0 0 = 61)) : ∀ (f s : Nat) (p : List Str), s ≤ n → n + tl.length < f + s →
    brk m (tx (st n ++ tl)) f s p = (p ++ (chs m tl.length f (n - s)).1.map tx, n - (chs m tl.length f (n - s)).2)
  | 0, s, p, h1, h2 => by
    exfalso; omega
  | f + 1, s, p, h1, h2 => by
    rw [brk, chs, len_line]
    by_cases c1 : s + m + 1 ≤ n + tl.length
    · rw [if_pos c1]
      have n1 : ¬ (n - s + tl.length ≤ m) := by omega
      rw [if_neg n1]
      have a1 : at_ (tx (st n ++ tl)) (s + m - 3) ≠ 61 := by
        rw [at_stop (by omega)]; decide
      rw [if_neg a1]
      by_cases c2 : n - s + 2 = m
      · have e3 : tl.length = 3 ∧ tl.getD 0 0 = 61 := by
          rcases ht with h | h
          · omega
          · exact h
        have a2 : at_ (tx (st n ++ tl)) (s + m - 2) = 61 := by
          rw [at_tl (by omega)]
          have : s + m - 2 - n = 0 := by omega
          rw [this]; exact e3.2
        rw [if_pos a2, if_pos c2]
        have e4 : s + m - 2 = n := by omega
        have e5 : brk m (tx (st n ++ tl)) f (s + m - 2) (p ++ [cut (tx (st n ++ tl)) s (s + m - 1)]) = (p ++ [cut (tx (st n ++ tl)) s (s + m - 1)], s + m - 2) := by
          cases f with
          | zero => rfl
          | succ f => rw [brk, len_line, if_neg (by omega)]
        rw [e5, cut_mid h1 (by omega), e4]
        have e6 : s + m - 1 - n = 1 := by omega
        have e7 : tl.take 1 = [61] := by
          cases tl with
          | nil => simp at e3
          | cons a r => simp at e3 ⊢; exact e3.2
        rw [e6, e7]
        simp
      · have a2 : at_ (tx (st n ++ tl)) (s + m - 2) ≠ 61 := by
          rw [at_stop (by omega)]; decide
        rw [if_neg a2, if_neg c2]
        rw [brk_chs hm ht f (s + m - 1) _ (by omega) (by omega)]
        have e1 : n - (s + m - 1) = n - s + 1 - m := by omega
        rw [e1, cut_stops (by omega) (by omega), eqs_tx, app_tx]
        have e2 : s + m - 1 - s = m - 1 := by omega
        rw [e2]
        simp
    · rw [if_neg c1, if_pos (by omega)]
      have : n - (n - s) = s := by omega
      simp [this]
end
theorem hexU_not (d : Nat) (h : d < 16) : hexU d ≠ 32 ∧ hexU d ≠ 9 := by
  have : ∀ d, d < 16 → hexU d ≠ 32 ∧ hexU d ≠ 9 := by decide
  exact this d h
theorem quo_tx {c : Nat} (h : c = 32 ∨ c = 9) : quo c = tx (hx c) := by
  rcases h with rfl | rfl <;> decide +kernel
theorem soft_tx : soft = tx [61, 10] := by decide +kernel
theorem plain_bl {c : Nat} (h : c = 32 ∨ c = 9) : enc1 c = [c] := by
  rcases h with rfl | rfl <;> decide
theorem enc1_cases (c : Nat) : (enc1 c = [c] ∧ plainC c = true) ∨ (enc1 c = hx c ∧ plainC c = false) := by
  unfold enc1 hx
  cases h : plainC c
  · right; simp
  · left; simp
theorem enc1_shape (c : Nat) : (enc1 c).length = 1 ∨ ((enc1 c).length = 3 ∧ (enc1 c).getD 0 0 = 61) := by
  rcases enc1_cases c with ⟨h, _⟩ | ⟨h, _⟩ <;> rw [h] <;> simp [hx]
theorem lastP_fin {m n k c : Nat} (hk : k ≤ n) (hm : k + (enc1 c).length ≤ m) (hc : c < 256) : (lastP m (tx (st n ++ enc1 c)) (n - k)).cps.toList = glue [10] (fin m k c) := by
  unfold lastP fin
  rw [len_line]
  by_cases hb : c = 32 ∨ c = 9
  · have e1 := plain_bl hb
    rw [if_pos hb]
    have a1 : at_ (tx (st n ++ enc1 c)) (n + (enc1 c).length - 1) = c := by
      rw [at_tl (by rw [e1]; simp), e1]; simp
    rw [a1, if_pos ⟨by rw [e1]; simp, hb⟩]
    rw [e1] at hm ⊢
    simp only [List.length_cons, List.length_nil] at hm ⊢
    have e2 : cut (tx (st n ++ [c])) (n - k) (n + (0 + 1) - 1) = tx (st k) := by
      rw [cut_stops (by omega) (by omega)]
      have : n + (0 + 1) - 1 - (n - k) = k := by omega
      rw [this]
    rw [e2, soft_tx, quo_tx hb]
    by_cases c1 : k + 3 ≤ m
    · rw [if_pos (by omega), if_pos c1, app_tx]
      simp [glue]
    · rw [if_neg (by omega), if_neg c1]
      by_cases c2 : k + 2 = m
      · rw [if_pos (by omega), if_pos c2]
        show (tx (st k) ++ (tx [c] ++ tx [61, 10])).cps.toList = _
        rw [app_tx, app_tx]
        simp [glue]
      · rw [if_neg (by omega), if_neg c2, app_tx, app_tx]
        simp [glue]
  · rw [if_neg hb]
    have a1 : ¬ (at_ (tx (st n ++ enc1 c)) (n + (enc1 c).length - 1) = 32 ∨ at_ (tx (st n ++ enc1 c)) (n + (enc1 c).length - 1) = 9) := by
      rcases enc1_cases c with ⟨e, _⟩ | ⟨e, _⟩
      · rw [at_tl (by rw [e]; simp), e]; simpa using hb
      · rw [at_tl (by rw [e]; simp [hx]), e]
        have := hexU_not (c % 16) (by omega)
        simp only [hx, List.length_cons, List.length_nil]
        have e9 : n + (0 + 1 + 1 + 1) - 1 - n = 2 := by omega
        rw [e9]
        simp [this]
    rw [if_neg (by rintro ⟨_, h⟩; exact a1 h), cut_mid (by omega) (by omega)]
    have e1 : n - (n - k) = k := by omega
    have e2 : n + (enc1 c).length - n = (enc1 c).length := by omega
    rw [e1, e2]
    simp [glue]
theorem chs_le {m t : Nat} (hm : 4 ≤ m) (ht : t = 1 ∨ t = 3) : ∀ (f k : Nat), k + t < f → (chs m t f k).2 ≤ k ∧ (chs m t f k).2 + t ≤ m ∧ (t = 1 → 1 ≤ k → 1 ≤ (chs m t f k).2)
  | 0, k, h => by omega
  | f + 1, k, h => by
    rw [chs]
    split
    · refine ⟨Nat.le_refl _, by assumption, fun _ h => h⟩
    · split
      · exact ⟨Nat.zero_le _, by omega, by intros; omega⟩
      · have := chs_le hm ht f (k + 1 - m) (by omega)
        refine ⟨by dsimp only; omega, this.2.1, fun h1 h2 => this.2.2 h1 (by omega)⟩
theorem glue_app (sep : List Nat) {F : List (List Nat)} (hF : F ≠ []) : ∀ A : List (List Nat), glue sep (A ++ F) = ends sep A ++ glue sep F
  | [] => rfl
  | a :: A => by
    have ih := glue_app sep hF A
    rw [List.cons_append, ends_cons]
    cases h : A ++ F with
    | nil => simp at h; exact absurd h.2 hF
    | cons b r =>
      rw [glue, ← h, ih]
      simp
theorem lineP_phs {m n c : Nat} (hm : 4 ≤ m) (hc : c < 256) : glue [10] ((lineP m (tx (st n ++ enc1 c))).map fun t => t.cps.toList) = glue [10] (phs m n c) := by
  unfold lineP phs
  have hf : (tx (st n ++ enc1 c)).length + 1 = n + (enc1 c).length + 1 := by rw [len_line]
  rw [hf, brk_chs hm (enc1_shape c) _ 0 [] (by omega) (by omega)]
  have ht : (enc1 c).length = 1 ∨ (enc1 c).length = 3 := by
    rcases enc1_shape c with h | h
    · exact .inl h
    · exact .inr h.1
  have hl := chs_le hm ht (n + (enc1 c).length + 1) n (by omega)
  simp only [Nat.sub_zero, List.nil_append, List.map_append, List.map_cons, List.map_nil]
  rw [lastP_fin hl.1 hl.2.1 hc, glue_snoc, glue_app _ (fin_ne _ _ _)]
  congr 2
  rw [List.map_map]
  exact List.map_id'' (fun _ => rfl) _
/- what is decoded of it -/
theorem decT_st {r : List Nat} (hr : r ≠ []) : ∀ a, decT (st a ++ r) = st a ++ decT r
  | 0 => rfl
  | a + 1 => by
    rw [st_succ, List.cons_append, decT_ne (by decide), decT_st hr a]
    have : (st a ++ r).isEmpty = false := by simp [hr]
    simp [this]
def decN (l : List Nat) : List Nat := if l.isEmpty then [10] else decT l
theorem dbl_st {r : List Nat} {a : Nat} (h : 1 ≤ a) : dbl (st a ++ r) = st (a + 1) ++ r := by
  obtain ⟨b, rfl⟩ : ∃ b, a = b + 1 := ⟨a - 1, by omega⟩
  rw [st_succ, List.cons_append]
  simp [dbl, st_succ]
theorem decN_st {r : List Nat} {a : Nat} (h : 1 ≤ a) (hr : r ≠ []) : decN (dbl (st a ++ r)) = st (a + 1) ++ decT r := by
  rw [dbl_st h]
  unfold decN
  have : (st (a + 1) ++ r).isEmpty = false := by simp [hr]
  rw [this]
  exact decT_st hr _
/-- the stops told anew -/
def more (m n : Nat) : Nat := n + (n + m - 2) / (m - 1)
theorem hex_back : ∀ c, c < 256 → decT (hx c) = [c, 10] := by decide +kernel
theorem hx_dbl (c : Nat) : dbl (hx c) = hx c := by simp [dbl, hx]
theorem hx_nil (c : Nat) : hx c ≠ [] := by simp [hx]
theorem decN_hx {c k : Nat} (h : c < 256) : decN (dbl (st k ++ hx c)) = st (k + (if k = 0 then 0 else 1)) ++ [c, 10] := by
  by_cases hk : k = 0
  · subst hk
    show decN (dbl (hx c)) = _
    rw [hx_dbl]
    unfold decN
    have : (hx c).isEmpty = false := by simp [hx]
    rw [this]
    simpa using hex_back c h
  · rw [decN_st (by omega) (hx_nil c), hex_back c h]
    simp [hk]
theorem fin_dec {m k c : Nat} (hc : c < 256) (hm : 4 ≤ m) (hk : k + (enc1 c).length ≤ m) (h1 : (enc1 c).length = 1 → 1 ≤ k) (h61 : plainC c = true → c ≠ 61) :
    (fin m k c).flatMap (fun p => decN (dbl p)) = st (k + (if k = 0 then 0 else 1)) ++ [c, 10] := by
  unfold fin
  by_cases hb : c = 32 ∨ c = 9
  · have e1 := plain_bl hb
    rw [e1] at h1 hk
    have hk1 := h1 rfl
    simp only [List.length_cons, List.length_nil] at hk
    rw [if_pos hb]
    by_cases c1 : k + 3 ≤ m
    · rw [if_pos c1]
      simp only [List.flatMap_cons, List.flatMap_nil, List.append_nil]
      exact decN_hx hc
    · rw [if_neg c1]
      have hk0 : k ≠ 0 := by omega
      by_cases c2 : k + 2 = m
      · rw [if_pos c2]
        simp only [List.flatMap_cons, List.flatMap_nil, List.append_nil]
        rw [decN_st hk1 (by simp), decT_ne (by rcases hb with rfl | rfl <;> decide), decT_soft]
        simp [hk0, decN, dbl]
      · rw [if_neg c2]
        simp only [List.flatMap_cons, List.flatMap_nil, List.append_nil]
        rw [decN_st hk1 (by simp), decT_soft]
        have := decN_hx (k := 0) hc
        simp only [st, List.replicate_zero, List.nil_append] at this
        rw [this]
        simp [hk0]
  · rw [if_neg hb]
    simp only [List.flatMap_cons, List.flatMap_nil, List.append_nil]
    rcases enc1_cases c with ⟨e, hp⟩ | ⟨e, _⟩
    · rw [e] at h1 ⊢
      have hk1 := h1 rfl
      have hk0 : k ≠ 0 := by omega
      rw [decN_st hk1 (by simp), decT_ne (h61 hp)]
      simp [hk0]
    · rw [e]; exact decN_hx hc
theorem more_le {m k : Nat} (hm : 4 ≤ m) (h : k + 1 ≤ m) : more m k = k + (if k = 0 then 0 else 1) := by
  unfold more
  by_cases hk : k = 0
  · subst hk
    have : 0 + m - 2 < m - 1 := by omega
    rw [Nat.div_eq_of_lt this]; rfl
  · have e : k + m - 2 = (k - 1) + (m - 1) := by omega
    have e2 : k - 1 < m - 1 := by omega
    rw [if_neg hk, e, Nat.add_div_right _ (by omega), Nat.div_eq_of_lt e2]
theorem more_step {m k : Nat} (hm : 4 ≤ m) (h : m ≤ k + 1) : more m k = m + more m (k + 1 - m) := by
  unfold more
  have e : k + m - 2 = (k + 1 - m + m - 2) + (m - 1) := by omega
  have e2 : k = (m - 1) + (k + 1 - m) := by omega
  rw [e, Nat.add_div_right _ (by omega)]
  generalize (k + 1 - m + m - 2) / (m - 1) = q
  omega
theorem chs_dec {m t : Nat} (hm : 4 ≤ m) (ht : t = 1 ∨ t = 3) : ∀ (f k : Nat), k + t < f → ∃ D, (chs m t f k).1.flatMap (fun p => decN (dbl p)) = st D ∧ D + ((chs m t f k).2 + (if (chs m t f k).2 = 0 then 0 else 1)) = more m k
  | 0, k, h => absurd h (Nat.not_lt_zero _)
  | f + 1, k, h => by
    rw [chs]
    by_cases c1 : k + t ≤ m
    · rw [if_pos c1]
      refine ⟨0, rfl, ?_⟩
      rw [Nat.zero_add, more_le hm (by omega)]
    · rw [if_neg c1]
      by_cases c2 : k + 2 = m
      · rw [if_pos c2]
        refine ⟨k + 1, ?_, ?_⟩
        · simp only [List.flatMap_cons, List.flatMap_nil, List.append_nil]
          rw [decN_st (by omega) (by simp), decT_soft]
          simp
        · have : k ≠ 0 := by omega
          rw [more_le hm (by omega), if_neg this]; rfl
      · rw [if_neg c2]
        obtain ⟨D, e1, e2⟩ := chs_dec hm ht f (k + 1 - m) (by omega)
        refine ⟨m + D, ?_, ?_⟩
        · simp only [List.flatMap_cons]
          have e3 : m - 1 + 1 = m := by omega
          rw [decN_st (by omega) (by simp), decT_soft, e1, List.append_nil, st_add, e3]
        · rw [Nat.add_assoc, e2]
          exact (more_step hm (by omega)).symm
theorem phs_dec {m n c : Nat} (hm : 4 ≤ m ∧ m ≤ 7) (hn : 1 ≤ n) (hc : c < 256) (h61 : plainC c = true → c ≠ 61) : (phs m n c).flatMap (fun p => decN (dbl p)) = st (more m n) ++ [c, 10] := by
  have ht : (enc1 c).length = 1 ∨ (enc1 c).length = 3 := by
    rcases enc1_shape c with h | h
    · exact .inl h
    · exact .inr h.1
  have hl := chs_le hm.1 ht (n + (enc1 c).length + 1) n (by omega)
  obtain ⟨D, e1, e2⟩ := chs_dec hm.1 ht (n + (enc1 c).length + 1) n (by omega)
  unfold phs
  rw [List.flatMap_append, e1, fin_dec hc hm.1 hl.2.1 (fun h => hl.2.2 h hn) h61, ← List.append_assoc, st_add, e2]
end Mine
end
section
open PySem PySem.W PyProof.Rows
namespace Mine
set_option maxRecDepth 100000
/- the signs of the lines -/
def okC (c : Nat) : Bool := !brkC c && Nat.blt c 256
theorem ok_tab : ∀ c, c < 256 → plainC c = true → c ≠ 10 → c ≠ 13 → okC c = true := by decide +kernel
theorem ok_hexU : ∀ d, d < 16 → okC (hexU d) = true ∧ Unicode.isSpace (hexU d) = false := by decide +kernel
theorem sp_tab0 : ∀ c, c < 256 → (!plainC c || Nat.beq c 10 || Nat.beq c 13 || Nat.beq c 32 || Nat.beq c 9 || !Unicode.isSpace c) = true := by decide +kernel
theorem sp_tab (c : Nat) (h : c < 256) (h1 : plainC c = true) (h2 : c ≠ 10) (h3 : c ≠ 13) (h4 : c ≠ 32) (h5 : c ≠ 9) : Unicode.isSpace c = false := by
  have := sp_tab0 c h
  simpa [h1, h2, h3, h4, h5] using this
theorem ok_46 : okC 46 = true := by decide +kernel
theorem ok_61 : okC 61 = true := by decide +kernel
theorem sp_61 : Unicode.isSpace 61 = false := by decide +kernel
theorem sp_46 : Unicode.isSpace 46 = false := by decide +kernel
theorem ok_32 : okC 32 = true := by decide +kernel
theorem ok_9 : okC 9 = true := by decide +kernel
theorem plain_61 : plainC 61 = false := by decide
theorem okC_brk {c : Nat} (h : okC c = true) : brkC c = false := by
  unfold okC at h
  simp at h
  exact h.1
theorem okC_256 {c : Nat} (h : okC c = true) : c < 256 := by
  unfold okC at h
  simp at h
  exact h.2
theorem okC_10 {c : Nat} (h : okC c = true) : c ≠ 10 := by
  rintro rfl
  have := okC_brk h
  unfold brkC at this
  rw [brk10] at this
  cases this
theorem okC_13 {c : Nat} (h : okC c = true) : c ≠ 13 := by
  rintro rfl
  have := okC_brk h
  unfold brkC at this
  rw [brk13] at this
  cases this
/-- a line as it is sent: plain signs, no blank behind -/
def okL (l : List Nat) : Prop := (∀ c ∈ l, okC c = true) ∧ (l = [] ∨ Unicode.isSpace (l.getD (l.length - 1) 0) = false)
theorem okL_app {a b : List Nat} (ha : ∀ c ∈ a, okC c = true) (hb : okL b) (hn : b ≠ []) : okL (a ++ b) := by
  refine ⟨fun c hc => (List.mem_append.mp hc).elim (ha c) (hb.1 c), .inr ?_⟩
  rcases hb.2 with h | h
  · exact absurd h hn
  · have hl : 0 < b.length := List.length_pos_iff.mpr hn
    rw [List.getD, List.getElem?_append_right (by rw [List.length_append]; omega)]
    have e : (a ++ b).length - 1 - a.length = b.length - 1 := by rw [List.length_append]; omega
    rw [e]; exact h
theorem st_ok (n : Nat) : ∀ c ∈ st n, okC c = true := fun c hc => by
  rw [List.eq_of_mem_replicate hc]; exact ok_46
theorem okL_dbl {l : List Nat} (h : okL l) : okL (dbl l) := by
  cases l with
  | nil => exact h
  | cons a r =>
    rw [dbl]
    by_cases ha : a = 46
    · subst ha
      rw [if_pos rfl]
      exact okL_app (a := [46]) (st_ok 1) h (by simp)
    · rw [if_neg ha]; exact h
theorem okL_61 : okL [61] := ⟨by simpa using ok_61, .inr (by simpa using sp_61)⟩
theorem okL_nil : okL [] := ⟨by simp, .inl rfl⟩
theorem okL_hx {c : Nat} (h : c < 256) : okL (hx c) := by
  have h1 := ok_hexU (c / 16) (by omega)
  have h2 := ok_hexU (c % 16) (by omega)
  refine ⟨?_, .inr ?_⟩
  · simp only [hx, List.mem_cons, List.not_mem_nil, or_false]
    rintro d (rfl | rfl | rfl)
    · exact ok_61
    · exact h1.1
    · exact h2.1
  · simpa [hx] using h2.2
theorem enc1_ok {c : Nat} (h : c < 256) (h10 : c ≠ 10) (h13 : c ≠ 13) : ∀ d ∈ enc1 c, okC d = true := by
  rcases enc1_cases c with ⟨e, hp⟩ | ⟨e, _⟩
  · rw [e]
    simp only [List.mem_singleton]
    rintro d rfl
    exact ok_tab d h hp h10 h13
  · rw [e]; exact (okL_hx h).1
theorem enc1_ne (c : Nat) : enc1 c ≠ [] := by
  rcases enc1_cases c with ⟨e, hp⟩ | ⟨e, _⟩ <;> rw [e] <;> simp [hx]
theorem fin_ok {m k c : Nat} (h : c < 256) (h10 : c ≠ 10) (h13 : c ≠ 13) : ∀ p ∈ fin m k c, okL p := by
  unfold fin
  by_cases hb : c = 32 ∨ c = 9
  · rw [if_pos hb]
    have hc : okC c = true := by rcases hb with rfl | rfl; exact ok_32; exact ok_9
    split
    · simp only [List.mem_singleton]
      rintro p rfl
      exact okL_app (st_ok k) (okL_hx h) (hx_nil c)
    · split
      · simp only [List.mem_cons, List.not_mem_nil, or_false]
        rintro p (rfl | rfl)
        · refine okL_app (st_ok k) ?_ (by simp)
          exact okL_app (a := [c]) (by simpa using hc) okL_61 (by simp)
        · exact okL_nil
      · simp only [List.mem_cons, List.not_mem_nil, or_false]
        rintro p (rfl | rfl)
        · exact okL_app (st_ok k) okL_61 (by simp)
        · exact okL_hx h
  · rw [if_neg hb]
    simp only [List.mem_singleton]
    rintro p rfl
    refine okL_app (st_ok k) ⟨enc1_ok h h10 h13, .inr ?_⟩ (enc1_ne c)
    rcases enc1_cases c with ⟨e, hp⟩ | ⟨e, _⟩
    · rw [e]
      simpa using sp_tab c h hp h10 h13 (fun e => hb (.inl e)) (fun e => hb (.inr e))
    · rw [e]
      simpa [hx] using (ok_hexU (c % 16) (by omega)).2
theorem chs_ok {m t : Nat} : ∀ (f k : Nat), ∀ p ∈ (chs m t f k).1, okL p
  | 0, k => by simp [chs]
  | f + 1, k => by
    rw [chs]
    split
    · simp
    · split
      · simp only [List.mem_singleton]
        rintro p rfl
        exact okL_app (st_ok k) okL_61 (by simp)
      · intro p hp
        rcases List.mem_cons.mp hp with rfl | hp
        · exact okL_app (st_ok _) okL_61 (by simp)
        · exact chs_ok f _ p hp
theorem phs_ok {m n c : Nat} (h : c < 256) (h10 : c ≠ 10) (h13 : c ≠ 13) : ∀ p ∈ phs m n c, okL p := by
  intro p hp
  rcases List.mem_append.mp hp with hp | hp
  · exact chs_ok _ _ p hp
  · exact fin_ok h h10 h13 p hp
/- how long -/
def wt (P : List (List Nat)) : Nat := (P.map fun p => p.length + 1).sum
theorem wt_app (P R : List (List Nat)) : wt (P ++ R) = wt P + wt R := by simp [wt]
theorem ends_len (sep : List Nat) (hs : sep.length = 1) (P : List (List Nat)) : (ends sep P).length = wt P := by
  induction P with
  | nil => rfl
  | cons a P ih => rw [ends_cons]; simp [wt, ih, hs] at *; omega
theorem fin_wt {m k c : Nat} : wt (fin m k c) ≤ k + 6 := by
  unfold fin
  split
  · split
    · simp [wt, hx]
    · split
      · simp [wt]
      · simp [wt, hx]
  · have := enc1_len c
    simp [wt]; omega
theorem chs_wt {m t : Nat} (hm : 4 ≤ m) (ht : t = 1 ∨ t = 3) : ∀ (f k : Nat), k + t < f → 3 * (wt (chs m t f k).1 + (chs m t f k).2) ≤ 5 * k + 6
  | 0, k, h => by omega
  | f + 1, k, h => by
    rw [chs]
    split
    · simp [wt]; omega
    · split
      · simp [wt]; omega
      · have := chs_wt hm ht f (k + 1 - m) (by omega)
        simp only [wt, List.map_cons, List.sum_cons, List.length_append, List.length_replicate, List.length_cons, List.length_nil] at this ⊢
        omega
theorem phs_wt {m n c : Nat} (hm : 4 ≤ m) : 3 * wt (phs m n c) ≤ 5 * n + 24 := by
  have ht : (enc1 c).length = 1 ∨ (enc1 c).length = 3 := by
    rcases enc1_shape c with h | h
    · exact .inl h
    · exact .inr h.1
  have h1 := chs_wt hm ht (n + (enc1 c).length + 1) n (by omega)
  unfold phs
  rw [wt_app]
  have := fin_wt (m := m) (k := (chs m (enc1 c).length (n + (enc1 c).length + 1) n).2) (c := c)
  omega
end Mine
end
section
open PySem PySem.W PyProof.Rows
namespace Mine
set_option maxRecDepth 100000
/-- a mail: of each line the stops and the sign -/
def mailT (M : List (Nat × Nat)) : List (List Nat) := M.map fun p => st p.1 ++ [p.2]
def goodM (M : List (Nat × Nat)) : Prop := ∀ p ∈ M, 1 ≤ p.1 ∧ p.1 ≤ 42 ∧ p.2 < 256 ∧ p.2 ≠ 10 ∧ p.2 ≠ 13
theorem enc1_10 : enc1 10 = [10] := by decide
theorem enc1_46 : enc1 46 = [46] := by decide
theorem enc_st (n : Nat) : (st n).flatMap enc1 = st n := by
  induction n with
  | zero => rfl
  | succ n ih => rw [st_succ, List.flatMap_cons, ih, enc1_46]; rfl
theorem enc_glue : ∀ L : List (List Nat), (glue [10] L).flatMap enc1 = glue [10] (L.map fun l => l.flatMap enc1)
  | [] => rfl
  | [a] => rfl
  | a :: b :: r => by
    have := enc_glue (b :: r)
    simp only [List.map_cons, glue] at this ⊢
    rw [List.flatMap_append, List.flatMap_append, this]
    simp [enc1_10]
def encM (M : List (Nat × Nat)) : List (List Nat) := M.map fun p => st p.1 ++ enc1 p.2
theorem bencT_mail (M : List (Nat × Nat)) : bencT (tx (glue [10] (mailT M))) = tx (glue [10] (encM M)) := by
  unfold bencT
  simp only [tx]
  rw [enc_glue]
  congr 3
  unfold mailT encM
  rw [List.map_map]
  apply List.map_congr_left
  intro p _
  simp [enc_st]
theorem snoc_of {α : Type} {l : List α} (h : l ≠ []) : ∃ a b, l = a ++ [b] := ⟨l.dropLast, l.getLast h, (List.dropLast_concat_getLast h).symm⟩
theorem line_ok {n c : Nat} (h : c < 256) (h10 : c ≠ 10) (h13 : c ≠ 13) : ∀ d ∈ st n ++ enc1 c, okC d = true := by
  intro d hd
  rcases List.mem_append.mp hd with hd | hd
  · exact st_ok n d hd
  · exact enc1_ok h h10 h13 d hd
theorem lines_enc {M : List (Nat × Nat)} (hM : M ≠ []) (h : goodM M) : Txt.lines (tx (glue [10] (encM M))) = (encM M).map tx := by
  obtain ⟨M0, q, rfl⟩ := snoc_of hM
  have e : encM (M0 ++ [q]) = encM M0 ++ [st q.1 ++ enc1 q.2] := by simp [encM]
  have hq := h q (by simp)
  have hz := line_ok (n := q.1) hq.2.2.1 hq.2.2.2.1 hq.2.2.2.2
  rw [e, glue_snoc, lines_ends (.inl rfl)]
  · have : st q.1 ++ enc1 q.2 ≠ [] := by simp [enc1_ne]
    rw [if_neg this]
    simp
  · intro p hp c hc
    obtain ⟨r, hr, rfl⟩ := List.mem_map.mp hp
    have hr' := h r (List.mem_append_left _ hr)
    exact okC_brk (line_ok hr'.2.2.1 hr'.2.2.2.1 hr'.2.2.2.2 c hc)
  · intro c hc
    exact okC_brk (hz c hc)
def phM (m : Nat) (M : List (Nat × Nat)) : List (List Nat) := (M.map fun p => phs m p.1 p.2).flatten
theorem phM_ne {m : Nat} {M : List (Nat × Nat)} (hM : M ≠ []) : phM m M ≠ [] := by
  cases M with
  | nil => exact absurd rfl hM
  | cons p M => simp [phM, phs_ne]
theorem nl_tx : (Str.ofString "\n").cps.toList = [10] := by decide +kernel
theorem lineP_ne (m : Nat) (x : Str) : (lineP m x).map (fun t => t.cps.toList) ≠ [] := by simp [lineP]
theorem benc_mail {m : Nat} (hm : 4 ≤ m) {M : List (Nat × Nat)} (hM : M ≠ []) (h : goodM M) : benc m (tx (glue [10] (mailT M))) = tx (glue [10] (phM m M)) := by
  unfold benc
  rw [bencT_mail, lines_enc hM h, join_tx, nl_tx]
  refine congrArg tx ?_
  have e1 : ((encM M).map tx).flatMap (lineP m) = (M.map fun p => lineP m (tx (st p.1 ++ enc1 p.2))).flatten := by
    unfold encM
    rw [List.map_map, List.flatMap_def, List.map_map]
    rfl
  rw [e1, List.map_flatten, List.map_map]
  have e2 := glue_flat [10] (M.map ((List.map fun t => t.cps.toList) ∘ fun p => lineP m (tx (st p.1 ++ enc1 p.2)))) (by
    intro p hp
    obtain ⟨r, _, rfl⟩ := List.mem_map.mp hp
    exact lineP_ne m _)
  have e3 := glue_flat [10] (M.map fun p => phs m p.1 p.2) (by
    intro p hp
    obtain ⟨r, _, rfl⟩ := List.mem_map.mp hp
    exact phs_ne _ _ _)
  unfold phM
  rw [← e2, ← e3, List.map_map, List.map_map]
  congr 1
  apply List.map_congr_left
  intro p hp
  exact lineP_phs hm (h p hp).2.2.1
theorem phM_ok {m : Nat} {M : List (Nat × Nat)} (h : goodM M) : ∀ p ∈ phM m M, okL p := by
  intro p hp
  unfold phM at hp
  obtain ⟨l, hl, hpl⟩ := List.mem_flatten.mp hp
  obtain ⟨r, hr, rfl⟩ := List.mem_map.mp hl
  have := h r hr
  exact phs_ok this.2.2.1 this.2.2.2.1 this.2.2.2.2 p hpl
theorem okL_no10 {l : List Nat} (h : okL l) : 10 ∉ l := fun hm => okC_10 (h.1 10 hm) rfl
theorem phM_dec {m : Nat} (hm : 4 ≤ m ∧ m ≤ 7) {M : List (Nat × Nat)} (h : goodM M) : (phM m M).flatMap (fun p => decN (dbl p)) = ends [10] (mailT (M.map fun p => (more m p.1, p.2))) := by
  unfold phM
  induction M with
  | nil => rfl
  | cons p M ih =>
    have hp := h p (.head _)
    rw [List.map_cons, List.flatten_cons, List.flatMap_append, ih fun q hq => h q (.tail _ hq)]
    rw [phs_dec hm hp.1 hp.2.2.1 (fun hpl e => by rw [e, plain_61] at hpl; cases hpl)]
    simp [mailT, ends]
theorem decS_end {T : List Nat} (hT : T ≠ []) (h : T.getD (T.length - 1) 0 = 10) : decS (tx T) = decD (tx T) := by
  unfold decS
  have hl : (tx T).length ≠ 0 := by simpa [Str.length] using hT
  have e : Txt.item (tx T) (-1) = ⟨#[10]⟩ := by
    rw [item_last hl]
    unfold at_
    rw [← getD_list]
    have : (tx T).length - 1 = T.length - 1 := by simp [Str.length]
    rw [this]
    simp only [tx]
    rw [h]
  rw [e]
  have := StrLaws.found_one (Str.ofString "\r\n") 10
  have q : decide (10 ∈ (Str.ofString "\r\n").cps.toList) = true := by decide +kernel
  rw [q] at this
  rw [if_neg]
  simpa using this
theorem decS_mid {T R : List Nat} (hT : T ≠ []) (h : T.getD (T.length - 1) 0 ≠ 10 ∧ T.getD (T.length - 1) 0 ≠ 13) (hR : decD (tx T) = tx (R ++ [10])) : decS (tx T) = tx R := by
  unfold decS
  have hl : (tx T).length ≠ 0 := by simpa [Str.length] using hT
  have e : Txt.item (tx T) (-1) = ⟨#[T.getD (T.length - 1) 0]⟩ := by
    rw [item_last hl]
    unfold at_
    rw [← getD_list]
    have : (tx T).length - 1 = T.length - 1 := by simp [Str.length]
    rw [this]
  rw [e]
  have := StrLaws.found_one (Str.ofString "\r\n") (T.getD (T.length - 1) 0)
  have e0 : (Str.ofString "\r\n").cps.toList = [13, 10] := by decide +kernel
  have q : decide (T.getD (T.length - 1) 0 ∈ (Str.ofString "\r\n").cps.toList) = false := by
    rw [e0]
    simp only [List.mem_cons, List.not_mem_nil, or_false, decide_eq_false_iff_not]
    rintro (h1 | h1)
    · exact h.2 h1
    · exact h.1 h1
  rw [q] at this
  rw [if_pos (by simpa using this), hR]
  have hlen : (tx (R ++ [10])).length = R.length + 1 := by simp [Str.length]
  have hcn : (Str.ofString "\n").cps = #[10] := by decide +kernel
  have hnl : (Str.ofString "\n").length = 1 := by rw [Str.length, hcn]; rfl
  have hen : Txt.endswith (tx (R ++ [10])) (Str.ofString "\n") = true := by
    unfold Txt.endswith Builtin.Str.subAt
    rw [hlen, hnl, hcn]
    have : (tx (R ++ [10])).cps.extract (R.length + 1 - 1) (R.length + 1 - 1 + 1) = #[10] := by
      apply Array.ext'
      simp
    rw [this]
    simp
  rw [if_pos hen, sl_nn1 (by omega)]
  unfold cut
  rw [hlen]
  simp
theorem last_app {a b : List Nat} (hb : b ≠ []) : (a ++ b).getD ((a ++ b).length - 1) 0 = b.getD (b.length - 1) 0 := by
  have hl : 0 < b.length := List.length_pos_iff.mpr hb
  rw [List.getD, List.getElem?_append_right (by rw [List.length_append]; omega)]
  have e : (a ++ b).length - 1 - a.length = b.length - 1 := by rw [List.length_append]; omega
  rw [e]; rfl
theorem getD_mem' {l : List Nat} (h : l ≠ []) : l.getD (l.length - 1) 0 ∈ l := by
  have hl : 0 < l.length := List.length_pos_iff.mpr h
  rw [List.getD, List.getElem?_eq_getElem (by omega)]
  exact List.getElem_mem _
theorem decL_dbl {p : List Nat} (h : okL p) : decL (tx (dbl p)) = decN (dbl p) := decL_tx (okL_dbl h).2
theorem flat_dec {P : List (List Nat)} (h : ∀ p ∈ P, okL p) : ((P.map dbl).map tx).flatMap decL = P.flatMap (fun p => decN (dbl p)) := by
  induction P with
  | nil => rfl
  | cons a P ih =>
    simp only [List.map_cons, List.flatMap_cons]
    rw [ih fun p hp => h p (.tail _ hp), decL_dbl (h a (.head _))]
/-- the plain law -/
theorem mail_law {m : Nat} (hm : 4 ≤ m ∧ m ≤ 7) {M : List (Nat × Nat)} (hM : M ≠ []) (h : goodM M) :
    decS ⟨quoted (fixed (benc m (tx (glue [10] (mailT M)))).cps)⟩ = tx (glue [10] (mailT (M.map fun p => (more m p.1, p.2)))) ∧ quoted (fixed (benc m (tx (glue [10] (mailT M)))).cps) ≠ #[] := by
  rw [benc_mail hm.1 hM h]
  obtain ⟨P, z, hPz⟩ := snoc_of (phM_ne (m := m) hM)
  have hok : ∀ p ∈ P ++ [z], okL p := hPz ▸ phM_ok h
  have hP : ∀ p ∈ P, okL p := fun p hp => hok p (List.mem_append_left _ hp)
  have hz : okL z := hok z (by simp)
  have hdec := phM_dec hm h
  obtain ⟨M0, q, rfl⟩ := snoc_of hM
  have hR : ends [10] (mailT ((M0 ++ [q]).map fun p => (more m p.1, p.2))) = glue [10] (mailT ((M0 ++ [q]).map fun p => (more m p.1, p.2))) ++ [10] := by
    have e : mailT ((M0 ++ [q]).map fun p => (more m p.1, p.2)) = mailT (M0.map fun p => (more m p.1, p.2)) ++ [st (more m q.1) ++ [q.2]] := by simp [mailT]
    rw [e, glue_snoc, ends_append]
    simp [ends]
  rw [hR] at hdec
  generalize hRR : glue [10] (mailT ((M0 ++ [q]).map fun p => (more m p.1, p.2))) = R at hdec ⊢
  have hRne : R ≠ [] := by
    have e : mailT ((M0 ++ [q]).map fun p => (more m p.1, p.2)) = mailT (M0.map fun p => (more m p.1, p.2)) ++ [st (more m q.1) ++ [q.2]] := by simp [mailT]
    rw [← hRR, e, glue_snoc]
    simp
  rw [hPz] at hdec ⊢
  rw [glue_snoc]
  show decS ⟨quoted (fixed (ends [10] P ++ z).toArray)⟩ = _ ∧ _
  have hf : fixed (tx (ends [10] P ++ z)).cps = (ends [13, 10] P ++ z).toArray := fixed_ends (fun p hp => okL_no10 (hP p hp)) (okL_no10 hz)
  have hq : quoted (ends [13, 10] P ++ z).toArray = (ends [13, 10] (P.map dbl) ++ dbl z).toArray := quoted_ends (fun p hp => okL_no10 (hP p hp)) (okL_no10 hz)
  rw [hf, hq]
  have hbrk : ∀ p ∈ P.map dbl, ∀ c ∈ p, brkC c = false := by
    intro p hp c hc
    obtain ⟨r, hr, rfl⟩ := List.mem_map.mp hp
    exact okC_brk ((okL_dbl (hP r hr)).1 c hc)
  have hbz : ∀ c ∈ dbl z, brkC c = false := fun c hc => okC_brk ((okL_dbl hz).1 c hc)
  have hlines := lines_ends (sep := [13, 10]) (.inr rfl) hbrk hbz
  have hflat := flat_dec hP
  by_cases hzn : z = []
  · subst hzn
    have hd0 : dbl [] = [] := rfl
    rw [hd0, List.append_nil] at hlines ⊢
    rw [if_pos rfl, List.append_nil] at hlines
    have hPd : P.flatMap (fun p => decN (dbl p)) = R := by
      rw [List.flatMap_append] at hdec
      have e : [([] : List Nat)].flatMap (fun p => decN (dbl p)) = [10] := rfl
      rw [e] at hdec
      exact List.append_cancel_right hdec
    have hPn : P ≠ [] := by
      rintro rfl
      exact hRne hPd.symm
    obtain ⟨P0, y, rfl⟩ := snoc_of hPn
    have hT : ends [13, 10] ((P0 ++ [y]).map dbl) = ends [13, 10] (P0.map dbl) ++ dbl y ++ [13, 10] := by simp [ends]
    have hTn : ends [13, 10] ((P0 ++ [y]).map dbl) ≠ [] := by rw [hT]; simp
    refine ⟨?_, by simpa using hTn⟩
    have := decS_end hTn (by rw [hT, last_app (by simp)]; rfl)
    rw [this]
    unfold decD
    rw [hlines, hflat, hPd]
  · have hdz : dbl z ≠ [] := by
      cases z with
      | nil => exact absurd rfl hzn
      | cons a r => rw [dbl]; split <;> simp
    rw [if_neg hdz] at hlines
    have hTn : ends [13, 10] (P.map dbl) ++ dbl z ≠ [] := by simp [hdz]
    refine ⟨?_, by simpa using hTn⟩
    have hlast := (okL_dbl hz).1 _ (getD_mem' hdz)
    refine decS_mid hTn (by rw [last_app hdz]; exact ⟨okC_10 hlast, okC_13 hlast⟩) ?_
    unfold decD
    rw [hlines, List.flatMap_append, hflat]
    have e : [tx (dbl z)].flatMap decL = [z].flatMap (fun p => decN (dbl p)) := by
      simp [decL_dbl hz]
    rw [e, ← List.flatMap_append, hdec]
end Mine
end
section
open PySem PySem.W PyProof.Rows
namespace Mine
set_option maxRecDepth 100000
theorem glue_wt {L : List (List Nat)} (h : L ≠ []) : (glue [10] L).length + 1 = wt L := by
  obtain ⟨P, z, rfl⟩ := snoc_of h
  rw [glue_snoc, List.length_append, ends_len _ rfl, wt_app]
  simp [wt]; omega
theorem wt_sum {α : Type} {B : Nat} (f : α → List (List Nat)) : ∀ M : List α, (∀ p ∈ M, wt (f p) ≤ B) → wt (M.map f).flatten ≤ M.length * B
  | [], _ => by simp [wt]
  | a :: M, h => by
    have h1 := wt_sum f M fun p hp => h p (.tail _ hp)
    have h2 := h a (.head _)
    rw [List.map_cons, List.flatten_cons, wt_app, List.length_cons, Nat.succ_mul]
    omega
theorem phM_wt {m : Nat} (hm : 4 ≤ m) {M : List (Nat × Nat)} (h : goodM M) (hl : M.length ≤ 6) : wt (phM m M) ≤ 468 := by
  have := wt_sum (B := 78) (fun p : Nat × Nat => phs m p.1 p.2) M (by
    intro p hp
    have h1 := phs_wt (n := p.1) (c := p.2) hm
    have h2 := (h p hp).2.1
    omega)
  have e : M.length * 78 ≤ 6 * 78 := Nat.mul_le_mul_right _ hl
  unfold phM
  omega
theorem mail_wt {M : List (Nat × Nat)} (h : goodM M) (hl : M.length ≤ 6) : wt (mailT M) ≤ 264 := by
  have := wt_sum (B := 44) (fun p : Nat × Nat => [st p.1 ++ [p.2]]) M (by
    intro p hp
    have h2 := (h p hp).2.1
    simp [wt]; omega)
  have e : M.length * 44 ≤ 6 * 44 := Nat.mul_le_mul_right _ hl
  have e2 : (M.map fun p : Nat × Nat => [st p.1 ++ [p.2]]).flatten = mailT M := by
    unfold mailT
    clear this e h hl
    induction M with
    | nil => rfl
    | cons a M ih => simp [ih]
  rw [e2] at this
  omega
theorem mem_glue {L : List (List Nat)} {c : Nat} (h : c ∈ glue [10] L) : c = 10 ∨ ∃ l ∈ L, c ∈ l := by
  induction L with
  | nil => cases h
  | cons a L ih =>
    cases L with
    | nil => exact .inr ⟨a, .head _, h⟩
    | cons b r =>
      rw [glue, List.mem_append, List.mem_append] at h
      rcases h with (h | h) | h
      · exact .inr ⟨a, .head _, h⟩
      · exact .inl (by simpa using h)
      · rcases ih h with h | ⟨l, hl, hc⟩
        · exact .inl h
        · exact .inr ⟨l, .tail _ hl, hc⟩
theorem glue_nn {L : List (List Nat)} (h : L ≠ []) (h2 : ∀ l ∈ L, l ≠ []) : glue [10] L ≠ [] := by
  obtain ⟨P, z, rfl⟩ := snoc_of h
  rw [glue_snoc]
  have := h2 z (by simp)
  simp [this]
theorem joinOk_wt {ts : List Str} (h : wt (ts.map fun t => t.cps.toList) ≤ 10000) : JoinOk (Str.ofString "\n") ts = true := by
  unfold JoinOk
  have e := StrLaws.joinTotal (Str.ofString "\n") ts
  have hn : (Str.ofString "\n").length = 1 := by decide +kernel
  have e2 : (ts.map (·.length)).sum + ts.length * (Str.ofString "\n").length = wt (ts.map fun t => t.cps.toList) := by
    rw [hn]
    clear e h
    induction ts with
    | nil => rfl
    | cons a r ih =>
      have e3 : a.cps.toList.length = a.length := by simp [Str.length]
      simp only [wt, List.map_cons, List.sum_cons, List.length_cons, e3] at ih ⊢
      omega
  have e4 : ts.toArray.foldl (fun a p => a + p.length + (Str.ofString "\n").length) 0 ≤ 10000 := by
    rw [e, e2]; exact h
  have key : ∀ n, n ≤ 10000 → (!Builtin.Str.tooLong n) = true := by
    intro n hn
    unfold Builtin.Str.tooLong
    have e9 : sizeLine = 16777216 := rfl
    simp
    omega
  exact key _ e4
/-- what body_encode asks of the mail -/
theorem be_pre {m : Nat} (hm : 4 ≤ m ∧ m ≤ 7) {M : List (Nat × Nat)} (hM : M ≠ []) (h : goodM M) (hl : M.length ≤ 6) (x : Str) (hx : x = tx (glue [10] (mailT M))) :
    x.cps.size ≤ 300 ∧ x.cps.size ≠ 0 ∧ (∀ c ∈ x.cps.toList, c < 256) ∧ 4 ≤ m ∧ m ≤ 100 ∧ (Txt.lines (bencT x)).length ≤ 1000 ∧ (bencT x).length ≠ 0 ∧ at_ (bencT x) ((bencT x).length - 1) ∉ [13, 10] ∧ JoinOk (Str.ofString "\n") ((Txt.lines (bencT x)).flatMap (lineP m)) = true := by
  subst hx
  have hMt : mailT M ≠ [] := by simpa [mailT] using hM
  have hMe : encM M ≠ [] := by simpa [encM] using hM
  have h1 := glue_wt hMt
  have h2 := mail_wt h hl
  have hne : glue [10] (mailT M) ≠ [] := glue_nn hMt (by
    intro l hl
    obtain ⟨p, _, rfl⟩ := List.mem_map.mp hl
    simp)
  have hnb : glue [10] (encM M) ≠ [] := glue_nn hMe (by
    intro l hl
    obtain ⟨p, _, rfl⟩ := List.mem_map.mp hl
    simp [enc1_ne])
  have hlen : (tx (glue [10] (encM M))).length = (glue [10] (encM M)).length := by simp [Str.length]
  refine ⟨?_, ?_, ?_, hm.1, by omega, ?_, ?_, ?_, ?_⟩
  · simp only [tx, List.size_toArray]; omega
  · simp only [tx, List.size_toArray]
    exact fun e => hne (List.eq_nil_of_length_eq_zero e)
  · intro c hc
    have hc' : c ∈ glue [10] (mailT M) := by simpa using hc
    rcases mem_glue hc' with rfl | ⟨l, hl, hc⟩
    · decide
    · obtain ⟨p, hp, rfl⟩ := List.mem_map.mp hl
      rcases List.mem_append.mp hc with hc | hc
      · rw [List.eq_of_mem_replicate hc]; decide
      · rw [List.mem_singleton.mp hc]; exact (h p hp).2.2.1
  · rw [bencT_mail, lines_enc hM h, List.length_map]
    simp only [encM, List.length_map]; omega
  · rw [bencT_mail, hlen]
    exact fun e => hnb (List.eq_nil_of_length_eq_zero e)
  · rw [bencT_mail, hlen]
    obtain ⟨M0, q, rfl⟩ := snoc_of hM
    have e : encM (M0 ++ [q]) = encM M0 ++ [st q.1 ++ enc1 q.2] := by simp [encM]
    have hq := h q (by simp)
    have hz := line_ok (n := q.1) hq.2.2.1 hq.2.2.2.1 hq.2.2.2.2
    have hzn : st q.1 ++ enc1 q.2 ≠ [] := by simp [enc1_ne]
    unfold at_
    rw [← getD_list]
    show (glue [10] (encM (M0 ++ [q]))).getD _ 0 ∉ _
    rw [e, glue_snoc, last_app hzn]
    have := hz _ (getD_mem' hzn)
    simp only [List.mem_cons, List.not_mem_nil, or_false]
    rintro (e | e)
    · exact okC_13 this e
    · exact okC_10 this e
  · refine joinOk_wt ?_
    have e1 := benc_mail hm.1 hM h
    unfold benc at e1
    rw [join_tx, nl_tx] at e1
    have e2 := congrArg (fun x : Str => x.cps.toList.length) e1
    simp only [tx] at e2
    have h3 := phM_wt hm.1 h hl
    have h4 := glue_wt (phM_ne (m := m) hM)
    by_cases hp : (List.flatMap (lineP m) (Txt.lines (bencT (tx (glue [10] (mailT M)))))).map (fun t => t.cps.toList) = []
    · rw [hp]; simp [wt]
    · have h5 := glue_wt hp
      simp only [tx] at h5 ⊢
      omega
/-- what comes of it, for the server -/
theorem be_post {m : Nat} (hm : 4 ≤ m ∧ m ≤ 7) {M : List (Nat × Nat)} (hM : M ≠ []) (h : goodM M) (hl : M.length ≤ 6) (y : Str) (hy : y = benc m (tx (glue [10] (mailT M)))) :
    (y.cps.size ≤ 100000 ∧ ∀ c ∈ y.cps.toList, c ≠ 13) ∧ y.cps.size ≤ 467 ∧ ∀ c ∈ y.cps.toList, c < 256 := by
  rw [benc_mail hm.1 hM h] at hy
  subst hy
  have h3 := phM_wt hm.1 h hl
  have h4 := glue_wt (phM_ne (m := m) hM)
  have hc : ∀ c ∈ glue [10] (phM m M), c ≠ 13 ∧ c < 256 := by
    intro c hc
    rcases mem_glue hc with rfl | ⟨l, hl, hc⟩
    · decide
    · have := (phM_ok h l hl).1 c hc
      exact ⟨okC_13 this, okC_256 this⟩
  refine ⟨⟨?_, ?_⟩, ?_, ?_⟩
  · simp only [tx, List.size_toArray]; omega
  · intro c h'
    exact (hc c (by simpa using h')).1
  · simp only [tx, List.size_toArray]; omega
  · intro c h'
    exact (hc c (by simpa using h')).2
/- the mail, of the rows -/
def nb (b l : Nat) (r : List Int) : Nat := ((l : Int) + 1 - r.getD (r.length - b) 0).toNat
def sc (ss : List Str) (r : List Int) : Nat := at_ (ss.getD (r.getD 0 0).toNat Str.empty) 0
def okS (s : Str) : Prop := ∃ c, s = tx [c] ∧ c < 256 ∧ c ≠ 10 ∧ c ≠ 13
theorem dot_tx : Str.ofString "." = tx [46] := by decide +kernel
theorem mul_st (n : Nat) (h : 1 ≤ n) : Txt.mul (Str.ofString ".") (n : Int) = tx (st n) := by
  unfold Txt.mul
  rw [if_neg (by omega)]
  rw [dot_tx]
  by_cases h1 : n = 1
  · subst h1
    rfl
  · have e : ((n : Int) == 1) = false := by simpa using (by omega : ¬ ((n : Int) = 1))
    have e2 : ((tx [46]).length == 0) = false := rfl
    rw [e, e2]
    simp only [Bool.or_self, Bool.false_eq_true, if_false]
    have key : ∀ (k : Nat) (acc : Array Nat), (List.replicate k (tx [46]).cps).foldl (· ++ ·) acc = acc ++ (st k).toArray := by
      intro k
      induction k with
      | zero => intro acc; simp
      | succ k ih =>
        intro acc
        rw [List.replicate_succ, List.foldl_cons, ih]
        apply Array.ext'
        simp [List.replicate_succ]
    rw [Int.toNat_natCast, key]
    simp
theorem lineM_tx {ss : List Str} {b l : Nat} {r : List Int} (hn : 1 ≤ nb b l r) (h0 : 0 ≤ r.getD 0 0) (h1 : (r.getD 0 0).toNat < ss.length) (hs : ∀ s ∈ ss, okS s) : lineM ss b l r = tx (st (nb b l r) ++ [sc ss r]) ∧ sc ss r < 256 ∧ sc ss r ≠ 10 ∧ sc ss r ≠ 13 := by
  have e0 : ss.getD (r.getD 0 0).toNat Str.empty = ss[(r.getD 0 0).toNat] := by
    rw [List.getD, List.getElem?_eq_getElem h1]; rfl
  obtain ⟨c, hc, hc1, hc2, hc3⟩ := hs _ (List.getElem_mem h1)
  have e1 : sc ss r = c := by
    unfold sc
    rw [e0, hc]; rfl
  unfold lineM
  rw [e1]
  refine ⟨?_, hc1, hc2, hc3⟩
  have e2 : (l : Int) + 1 - r.getD (r.length - b) 0 = ((nb b l r : Nat) : Int) := by
    unfold nb at hn ⊢
    omega
  rw [e2, mul_st _ hn, e0, hc, app_tx]
theorem mailM_tx {ss : List Str} {b l : Nat} {rr : List (List Int)} (h : ∀ r ∈ rr, 1 ≤ nb b l r ∧ 0 ≤ r.getD 0 0 ∧ (r.getD 0 0).toNat < ss.length) (hs : ∀ s ∈ ss, okS s) : mailM ss b l rr = tx (glue [10] (mailT (rr.map fun r => (nb b l r, sc ss r)))) := by
  unfold mailM
  rw [join_tx, nl_tx, List.map_map]
  refine congrArg tx (congrArg (glue [10]) ?_)
  unfold mailT
  rw [List.map_map]
  apply List.map_congr_left
  intro r hr
  have := h r hr
  simp only [Function.comp_apply]
  rw [(lineM_tx this.1 this.2.1 this.2.2 hs).1]
/- the rows of the ring -/
def rowB (men step : Nat) (r : List Int) : Bool := Nat.ble r.length 50 && Nat.ble 2 r.length && decide (0 ≤ r.getD 0 0) && decide (r.getD 0 0 < men) &&
  (List.range 50).all fun b => !(Nat.ble 1 b && Nat.ble (b + 1) r.length) || (decide (0 ≤ r.getD (r.length - b) 0) && decide (r.getD (r.length - b) 0 ≤ ((men * step : Nat) : Int)) && (!(Nat.ble (b + 2) r.length) || (Nat.ble 1 (nb b (men * step) r) && Nat.ble (nb b (men * step) r) 42 && Nat.beq (nb (b + 1) (men * step) r) (more step (nb b (men * step) r)))))
theorem rows_all : ([3, 4, 5, 6].all fun men => [4, 5, 6, 7].all fun step => Nat.ble (jos men step (men * step)).2.length 6 && (jos men step (men * step)).2.all fun r => rowB men step r) = true := by decide +kernel
structure RowG (men step : Nat) (r : List Int) : Prop where
  le : r.length ≤ 50
  ge : 2 ≤ r.length
  n0 : 0 ≤ r.getD 0 0
  n1 : r.getD 0 0 < men
  b0 : ∀ b, 1 ≤ b → b + 1 ≤ r.length → 0 ≤ r.getD (r.length - b) 0 ∧ r.getD (r.length - b) 0 ≤ ((men * step : Nat) : Int)
  b1 : ∀ b, 1 ≤ b → b + 2 ≤ r.length → 1 ≤ nb b (men * step) r ∧ nb b (men * step) r ≤ 42 ∧ nb (b + 1) (men * step) r = more step (nb b (men * step) r)
theorem rows_good {men step : Nat} (hm : men ∈ [3, 4, 5, 6]) (hs : step ∈ [4, 5, 6, 7]) : (jos men step (men * step)).2.length ≤ 6 ∧ ∀ r ∈ (jos men step (men * step)).2, RowG men step r := by
  have h := List.all_eq_true.mp (List.all_eq_true.mp rows_all men hm) step hs
  rw [Bool.and_eq_true] at h
  refine ⟨by simpa using h.1, fun r hr => ?_⟩
  have h2 := List.all_eq_true.mp h.2 r hr
  unfold rowB at h2
  simp only [Bool.and_eq_true, decide_eq_true_eq, List.all_eq_true, Nat.ble_eq] at h2
  obtain ⟨⟨⟨⟨a1, a2⟩, a3⟩, a4⟩, a5⟩ := h2
  refine ⟨a1, a2, a3, a4, fun b hb hb2 => ?_, fun b hb hb2 => ?_⟩
  · have := a5 b (List.mem_range.mpr (by omega))
    have e : (Nat.ble 1 b && Nat.ble (b + 1) r.length) = true := by simp [hb, hb2]
    rw [e] at this
    simp only [Bool.not_true, Bool.false_or, Bool.and_eq_true, decide_eq_true_eq] at this
    exact ⟨this.1.1, this.1.2⟩
  · have := a5 b (List.mem_range.mpr (by omega))
    have e : (Nat.ble 1 b && Nat.ble (b + 1) r.length) = true := by simp [hb]; omega
    have e2 : Nat.ble (b + 2) r.length = true := by simpa using hb2
    rw [e, e2] at this
    simp only [Bool.not_true, Bool.false_or, Bool.and_eq_true, decide_eq_true_eq, Nat.ble_eq, Nat.beq_eq] at this
    exact ⟨this.2.1.1, this.2.1.2, this.2.2⟩
end Mine
end
section
open PySem PySem.W PyProof.Rows
namespace Mine
set_option maxRecDepth 100000
set_option maxHeartbeats 4000000
/-- a row that the next server is told of -/
structure RowM (ns b l m : Nat) (r : List Int) : Prop where
  n0 : 0 ≤ r.getD 0 0
  n1 : (r.getD 0 0).toNat < ns
  g1 : 1 ≤ nb b l r
  g2 : nb b l r ≤ 42
  g3 : nb (b + 1) l r = more m (nb b l r)
theorem more_ge (m n : Nat) : n ≤ more m n := Nat.le_add_right _ _
theorem Con_true {w : World} {f : Addr} {dB uB : Nat} {pre : Prop} {vs : List Value} {R : Tok → Value} (c : Con w f dB uB pre vs R) (h : pre) : Con w f dB uB True vs R := by
  intro l1 l2 l3 l4 l5 l6 l7 l8 l9 l10 l11 l12 l13 l14 l15 l16 l17 l18 l19 l20 l21 l22 k1 k2 k3 k4 k5 k6 k7 k8 k9 k10
  exact c l1 l2 l3 l4 l5 l6 l7 l8 l9 l10 l11 l12 l13 l14 l15 l16 l17 l18 l19 l20 l21 l22 k1 k2 k3 k4 k5 k6 h k8 k9 k10
theorem C_mail (w : World) (ss : List Str) (b l m : Nat) (rr : List (List Int)) (t tm : Tok) (hs : ∀ s ∈ ss, okS s) (hm : 4 ≤ m ∧ m ≤ 7) (hl : rr.length ≤ 6) (hr : ∀ r ∈ rr, RowM ss.length b l m r) :
    Con w 133 6 60 True [.str (mailM ss b l rr) t, .int m tm] (fun t => .str (mailM ss (b + 1) l rr) t) := by
  by_cases hn : rr = []
  · subst hn
    have e1 : mailM ss b l [] = tx [] := rfl
    have e2 : mailM ss (b + 1) l [] = tx [] := rfl
    rw [e1, e2]
    have e3 : quoted (fixed (tx []).cps) = #[] := rfl
    refine Con_true (C_po w (tx []) (tx []) (tx []) t tm m _ ((tx []).cps.size = 0) (fun t tm => C_be0 w (tx []) t tm m) (fun t => ?_)) ⟨⟨rfl, hm.1⟩, ?_, ?_, ?_, ?_⟩
    · rw [e3]; exact C_dec0 w (tx []) t
    · rfl
    · exact ⟨by decide, by simp⟩
    · decide
    · simp
  · have h1 : ∀ r ∈ rr, 1 ≤ nb b l r ∧ 0 ≤ r.getD 0 0 ∧ (r.getD 0 0).toNat < ss.length := fun r h => ⟨(hr r h).g1, (hr r h).n0, (hr r h).n1⟩
    have h2 : ∀ r ∈ rr, 1 ≤ nb (b + 1) l r ∧ 0 ≤ r.getD 0 0 ∧ (r.getD 0 0).toNat < ss.length := fun r h => ⟨by rw [(hr r h).g3]; exact Nat.le_trans (hr r h).g1 (more_ge _ _), (hr r h).n0, (hr r h).n1⟩
    have hg : goodM (rr.map fun r => (nb b l r, sc ss r)) := by
      intro p hp
      obtain ⟨r, h, rfl⟩ := List.mem_map.mp hp
      have := lineM_tx (h1 r h).1 (h1 r h).2.1 (h1 r h).2.2 hs
      exact ⟨(hr r h).g1, (hr r h).g2, this.2⟩
    have hM : (rr.map fun r => (nb b l r, sc ss r)) ≠ [] := by simpa using hn
    have hl' : (rr.map fun r => (nb b l r, sc ss r)).length ≤ 6 := by simpa using hl
    have e2 : mailM ss (b + 1) l rr = tx (glue [10] (mailT ((rr.map fun r => (nb b l r, sc ss r)).map fun p => (more m p.1, p.2)))) := by
      rw [mailM_tx h2 hs, List.map_map]
      refine congrArg tx (congrArg (glue [10]) (congrArg mailT ?_))
      apply List.map_congr_left
      intro r h
      simp only [Function.comp_apply]
      rw [(hr r h).g3]
    rw [mailM_tx h1 hs, e2]
    have hlaw := mail_law hm hM hg
    have hpre := be_pre hm hM hg hl' _ rfl
    have hpost := be_post hm hM hg hl' _ rfl
    generalize hx : tx (glue [10] (mailT (rr.map fun r => (nb b l r, sc ss r)))) = x at *
    rw [← hlaw.1]
    have hq1 := quoted_len (fixed (benc m x).cps)
    have hq2 := fixed_len (benc m x).cps
    have hq3 : (quoted (fixed (benc m x).cps)).size ≤ 2000 := by omega
    refine Con_true (C_po w x (benc m x) _ t tm m _ _ (fun t tm => C_be w x t tm m) (fun t => C_dec w _ t)) ⟨hpre, ⟨hq3, ?_, ?_⟩, hpost.1, by omega, hpost.2.2⟩
    · intro e
      exact hlaw.2 (Array.eq_empty_of_size_eq_zero e)
    · have := StrLaws.lines_weight ⟨quoted (fixed (benc m x).cps)⟩
      have e : (Str.mk (quoted (fixed (benc m x).cps))).length = (quoted (fixed (benc m x).cps)).size := rfl
      omega
end Mine
end
section
open PySem PySem.W PyProof.Rows
namespace Mine
set_option maxRecDepth 100000
/- rows compared with an empty list -/
def rowsD (rows : List Row) : List PyData := rows.map fun r => .list (r.ints.map .int)
theorem rowsD_lay : ∀ rows : List Row, PyData.canLayAll0 (rowsD rows) = true
  | [] => rfl
  | r :: rows => by
    have := rowsD_lay rows
    simp only [rowsD, List.map_cons, PyData.canLayAll0, PyData.canLay0, canLayAll0_ints, Bool.true_and]
    exact this
theorem rowsD_depth : ∀ rows : List Row, PyData.depthAll (rowsD rows) ≤ 3
  | [] => by simp [rowsD, PyData.depthAll]
  | r :: rows => by
    have h1 := rowsD_depth rows
    have h2 := PySem.W.depthAll_ints r.ints
    simp only [rowsD, List.map_cons, PyData.depthAll, PyData.depth] at h1 ⊢
    omega
theorem rowsD_shaped (rows : List Row) : SeqAt.shaped (.list (rowsD rows)) = true := by
  have h1 := rowsD_depth rows
  have h2 : PyData.depth (.list (rowsD rows)) ≤ 64 := by simp only [PyData.depth]; omega
  show (PyData.canLay0 (.list (rowsD rows)) && decide (PyData.depth (.list (rowsD rows)) ≤ 64)) = true
  rw [Bool.and_eq_true]
  exact ⟨by simp only [PyData.canLay0]; exact rowsD_lay rows, decide_eq_true h2⟩
theorem rows_read {h : Heap} : ∀ rows : List Row, (∀ r ∈ rows, h.get? r.a = some r.obj) → ∃ as, ReadsAll h (refs rows) (rowsD rows) as
  | [], _ => ⟨_, .nil⟩
  | r :: rows, H => by
    obtain ⟨as, hr⟩ := rows_read rows fun q hq => H q (.tail _ hq)
    have h1 : Reads h (.ref r.a) (.list (r.ints.map .int)) [r.a] := reads_of_ints (vs := r.l.map fun p => Value.int p.1 p.2) ⟨_, H r (.head _), rfl, r.n, rfl⟩ r.are
    exact ⟨_, .cons h1 hr⟩
section
variable {prog : Program} {w : World} {A : Around} {E : Value → Shared → Prop} {s : Shared} {h₀ : Heap} {L : Addr} {news : List (Addr × Obj)} {Q : Value → Shared → Prop}
theorem ne_rows {R Z : Addr} {n k : Nat} {rows : List Row} (N : News h₀ L s.heap news) (hR : (R, listOf (refs rows).toArray n) ∈ news) (hrs : ∀ r ∈ rows, r.ent ∈ news) (hZ : (Z, listOf #[] k) ∈ news) (hu : A.units + 64 < cLine)
    (h : Q (.bool (decide (rows ≠ []))) s) : wpAny (model prog w) A (compareOp .NotEq (.ref R) (.ref Z)) Q E s := by
  obtain ⟨as, hr⟩ := rows_read rows fun r hr => (N _ (hrs r hr)).1
  refine ne_dataH (da := .list (rowsD rows)) (db := .list []) (reads_list_at (N _ hR).1 rfl rfl hr) (reads_list_at (N _ hZ).1 rfl rfl .nil) (rowsD_shaped rows) (by decide) hu ?_
  have e : (!PyData.eqv (.list (rowsD rows)) (.list [])) = decide (rows ≠ []) := by
    cases rows with
    | nil => simp [rowsD, PyData.eqv, PyData.eqvAll]
    | cons r rows => simp [rowsD, PyData.eqv, PyData.eqvAll]
  rw [e]; exact h
end
/- a comprehension that picks rows -/
def TestR (h₀ : Heap) (L : Addr) (m : Str → Option Value) (s : Shared) (led : List (Addr × Obj)) (b ok : Bool) (s₄ : Shared) : Prop :=
  ok = b ∧ ∃ h' tk', s₄ = { s with heap := h', toks := tk' } ∧ Fr h₀ L h' m ∧ News h₀ L h' led
def EltR (h₀ : Heap) (L : Addr) (m : Str → Option Value) (s : Shared) (led : List (Addr × Obj)) (r : Value) (y : Value) (s₄ : Shared) : Prop :=
  y = r ∧ ∃ h' tk', s₄ = { s with heap := h', toks := tk' } ∧ Fr h₀ L h' m ∧ News h₀ L h' led
section
variable {prog : Program} {w : World} {A : Around} {h₀ : Heap} {L : Addr} {m : Str → Option Value} {env : Env} {ct elt : Expr} {x : Str} {scope : Scope} {cl : List (Str × Addr)} {s : Shared} {S : List (Addr × Obj) → Prop} {Fin : List Value → List (Addr × Obj) → Prop} {news : List (Addr × Obj)}
theorem rest_pick (g : Row → Bool) (rows : List Row) (hS : S news)
    (turn : Hold (∀ r I oI C oC D m₂ ys h tk (E' : Value → Shared → Prop), r ∈ rows → LCg.NsObj oC m₂ → m₂ x = some (.ref r.a) → Fr h₀ L h m → News h₀ L h ((I, oI) :: (C, oC) :: (D, LCg.lst ys) :: news) →
      wpAny (model prog w) A (isTrue ct (compEnvC scope cl C env) (eval ct (compEnvC scope cl C env))) (TestR h₀ L m { s with heap := h, toks := tk } ((I, oI) :: (C, oC) :: (D, LCg.lst ys) :: news) (g r)) E' { s with heap := h, toks := tk }))
    (take : Hold (∀ r I oI C oC D m₂ ys h tk (E' : Value → Shared → Prop), r ∈ rows → LCg.NsObj oC m₂ → m₂ x = some (.ref r.a) → Fr h₀ L h m → News h₀ L h ((I, oI) :: (C, oC) :: (D, LCg.lst ys) :: news) →
      wpAny (model prog w) A (eval elt (compEnvC scope cl C env)) (EltR h₀ L m { s with heap := h, toks := tk } ((I, oI) :: (C, oC) :: (D, LCg.lst ys) :: news) (.ref r.a)) E' { s with heap := h, toks := tk }))
    (fin : Hold (Fin (refs (rows.filter g)) news)) : LCt.CompRestT prog w A h₀ L m env ct elt x scope cl s S (fun i v => (refs rows).toArray[i]? = some v) Fin (refs rows).toArray.size 0 [] news := by
  have key : ∀ (todo done : List Row), done ++ todo = rows → LCt.CompRestT prog w A h₀ L m env ct elt x scope cl s S (fun i v => (refs rows).toArray[i]? = some v) Fin todo.length done.length (refs (done.filter g)) news := by
    intro todo
    induction todo with
    | nil =>
      intro done e
      rw [List.append_nil] at e
      subst e
      exact LCt.CompRestT.zero fin
    | cons r todo ih =>
      intro done e
      rw [List.length_cons]
      refine LCt.CompRestT.succ ?_
      intro v I oI C oC D m₂ h tk E' hv hC hx F N off ne
      have hv' : v = .ref r.a := by
        have h1 : (refs rows)[done.length]? = some v := by simpa using hv
        rw [← e] at h1
        simp [refs] at h1
        exact h1.symm
      subst hv'
      have hr : r ∈ rows := e ▸ List.mem_append_right _ (.head _)
      have ih' := ih (done ++ [r]) (by rw [← e]; simp)
      rw [List.length_append, List.length_cons, List.length_nil, List.filter_append] at ih'
      refine wpAny_mono (turn r I oI C oC D m₂ _ h tk E' hr hC hx F N) (fun ok s₂ hq => ?_) fun _ _ e => e
      obtain ⟨rfl, h', tk', rfl, F', N'⟩ := hq
      cases hg : g r with
      | false =>
        simp only [Bool.false_eq_true, if_false]
        refine ⟨h', tk', news, rfl, F', N', off, hS, ?_⟩
        have e1 : refs (done.filter g ++ [r].filter g) = refs (done.filter g) := by simp [hg]
        rw [e1] at ih'
        exact ih'
      | true =>
        simp only [if_true]
        have e1 : refs (done.filter g ++ [r].filter g) = refs (done.filter g) ++ [.ref r.a] := by simp [hg, refs]
        rw [e1] at ih'
        refine wpAny_mono (take r I oI C oC D m₂ _ h' tk' E' hr hC hx F' N') (fun y s₃ hy => ?_) fun _ _ e => e
        obtain ⟨rfl, h'', tk'', rfl, F'', N''⟩ := hy
        exact ⟨h'', tk'', news, rfl, F'', N'', off, hS, ih'⟩
  have := key rows [] rfl
  have e : (refs rows).toArray.size = rows.length := by simp [refs]
  rw [e]
  exact this
end
/- the cell -/
theorem cell_ne {h₀ h : Heap} {L : Addr} {news : List (Addr × Obj)} (N : News h₀ L h news) {c : Addr} {o : Obj} {v : Option Value} (hc : (c, o) ∈ news) (hd : o.data = .cell v) : ∀ p ∈ news, (∃ its n, p.2 = listOf its n) → p.1 ≠ c := by
  rintro p hp ⟨its, n, e⟩ rfl
  have h1 := (N p hp).1
  have h2 := (N _ hc).1
  rw [h1] at h2
  have h3 : p.2 = o := Option.some.inj h2
  rw [← h3, e] at hd
  cases hd
section
variable {M : Model} {A : Around} {E : Value → Shared → Prop} {s : Shared} {h₀ : Heap} {L a : Addr} {m : Str → Option Value} {cn : Str} {cs : Scope} {ccd : Value} {cl : List (Str × Addr)}
  {x : Str} {v : Value} {Q : Unit → Shared → Prop} {rest : List (Addr × Obj)} {c : Addr} {o : Obj} {v₀ : Option Value}
theorem store_cell (F : Fr h₀ L s.heap m) (N : News h₀ L s.heap ((c, o) :: rest)) (hc : cl.lookup x = some c) (hd : o.data = .cell v₀) (hl : ∀ p ∈ rest, ∃ its n, p.2 = listOf its n)
    (h : ∀ h' o', Fr h₀ L h' m → News h₀ L h' ((c, o') :: rest) → o'.data = .cell (some v) → Q () { s with heap := h' })
    (hk : cs.kind = .function := by rfl) (hx : (envX cn cs L a ccd cl).kindOf x = some .cell := by rfl) : wpAny M A (storeName (envX cn cs L a ccd cl) x v) Q E s :=
  storeX_C F N hc (.head fun p hp => cell_ne N (.head _) hd p (.tail _ hp) (hl p hp)) hd h hk hx
end
section
variable {prog : Program} {w : World} {A : Around} {E : Value → Shared → Prop} {s : Shared} {Q : Value → Shared → Prop}
theorem len_row {r : Row} (hl : s.heap.IsList r.a (r.l.map fun p => Value.int p.1 p.2).toArray) (hr : r.l.length ≤ 50)
    (h : ∀ t, Q (.int (r.l.length : Int) t) { s with toks := s.toks + 1 + 1 }) : wpAny (model prog w) A (call (.builtin "len") [.ref r.a]) Q E s := by
  refine PySem.Calls.call_len_list hl ?_ ?_
  · simp; omega
  · have e : ((r.l.map fun p => Value.int p.1 p.2).toArray.size : Int) = (r.l.length : Int) := by simp
    rw [e]; exact h _
end
/-- a sign -/
def sgn (x : Int) : Str := if x.fmod 256 = 10 ∨ x.fmod 256 = 13 then Str.ofString "." else ⟨#[(x.fmod 256).toNat]⟩
theorem sgn_ok (x : Int) : okS (sgn x) := by
  unfold sgn
  have h1 := Int.fmod_nonneg_of_pos x (show (0 : Int) < 256 by decide)
  have h2 := Int.fmod_lt_of_pos x (show (0 : Int) < 256 by decide)
  split
  · exact ⟨46, dot_tx, by decide, by decide, by decide⟩
  · rename_i h
    refine ⟨(x.fmod 256).toNat, rfl, by omega, ?_, ?_⟩
    · intro e; exact h (.inl (by omega))
    · intro e; exact h (.inr (by omega))
theorem msB {men step : Nat} (hmen : men ∈ [3, 4, 5, 6]) (hstep : step ∈ [4, 5, 6, 7]) : men * step ≤ 42 := by
  have hm1 : men ≤ 6 := by simp at hmen; omega
  have hs1 : step ≤ 7 := by simp at hstep; omega
  exact Nat.le_trans (Nat.mul_le_mul hm1 hs1) (by decide)
theorem lm_pre {men step b : Nat} (hmen : men ∈ [3, 4, 5, 6]) (hstep : step ∈ [4, 5, 6, 7]) {ts : List (Str × Tok)} {news : List (Addr × Obj)} {D S : Addr} {nD : Nat} {rs : List Row} (hD : (D, listOf (refs rs).toArray nD) ∈ news) (hS : (S, lstS ts) ∈ news)
    (hin : ∀ r ∈ rs, r.ent ∈ news) (hg : ∀ r ∈ rs, RowG men step r.ints) (hb : 1 ≤ b) (hb2 : ∀ r ∈ rs, b + 1 ≤ r.ints.length) (hl : rs.length ≤ 6) (hts : (ts.map (·.1)).length = men) (hok : ∀ s ∈ ts.map (·.1), okS s) :
    (D, listOf (rs.map fun r => Value.ref r.a).toArray nD) ∈ news ∧ (S, listOf (strValues ts).toArray ts.length) ∈ news ∧ (∀ r ∈ rs, (r.a, r.obj) ∈ news ∧ rowOk (ts.map (·.1)) b (men * step) r.ints) ∧ rs.length ≤ 1000 ∧ ts.length ≤ 1000 ∧ (∀ p ∈ ts, p.1.length ≤ 1000) ∧ JoinOk (Str.ofString "\n") (rs.map fun r => lineM (ts.map (·.1)) b (men * step) r.ints) = true := by
  have hms := msB hmen hstep
  have hm6 : men ≤ 6 := by simp at hmen; omega
  refine ⟨hD, hS, fun r hr => ⟨hin r hr, ?_⟩, by omega, ?_, ?_, ?_⟩
  · have g := hg r hr
    have g0 := g.b0 b hb (hb2 r hr)
    have g1 := hb2 r hr
    have g2 := g.le
    refine ⟨hb, by omega, by omega, g.n0, ?_, g0.1, g0.2, by omega⟩
    rw [hts]; exact g.n1
  · rw [List.length_map] at hts
    omega
  · intro p hp
    obtain ⟨c, hc, _⟩ := hok p.1 (List.mem_map.mpr ⟨p, hp, rfl⟩)
    rw [hc]
    exact Nat.le_of_ble_eq_true rfl
  · refine joinOk_wt ?_
    have key : ∀ l : List Row, (∀ r ∈ l, r ∈ rs) → wt ((l.map fun r => lineM (ts.map (·.1)) b (men * step) r.ints).map fun t => t.cps.toList) ≤ l.length * 45 := by
      intro l
      induction l with
      | nil => intro _; simp [wt]
      | cons r l ih =>
        intro h
        have h1 := ih fun q hq => h q (.tail _ hq)
        have hr := h r (.head _)
        have g := hg r hr
        have g0 := g.b0 b hb (hb2 r hr)
        have n1 : 1 ≤ nb b (men * step) r.ints := by unfold nb; omega
        have n2 : nb b (men * step) r.ints ≤ 43 := by unfold nb; omega
        have g3 := g.n0
        have g4 := g.n1
        have e := (lineM_tx (ss := ts.map (·.1)) n1 g.n0 (by rw [hts]; omega) hok).1
        simp only [wt, List.map_cons, List.sum_cons, List.length_cons] at h1 ⊢
        rw [e]
        have e2 : (tx (st (nb b (men * step) r.ints) ++ [sc (ts.map (·.1)) r.ints])).cps.toList.length = nb b (men * step) r.ints + 1 := by simp
        rw [e2, Nat.succ_mul]
        omega
    have := key rs fun _ h => h
    have e : rs.length * 45 ≤ 6 * 45 := Nat.mul_le_mul_right _ hl
    omega
theorem mail_pre {men step b : Nat} (hmen : men ∈ [3, 4, 5, 6]) (hstep : step ∈ [4, 5, 6, 7]) {ss : List Str} {rs : List Row} (hg : ∀ r ∈ rs, RowG men step r.ints) (hb : 1 ≤ b) (hb2 : ∀ r ∈ rs, b + 2 ≤ r.ints.length) (hts : ss.length = men) :
    ∀ r ∈ rs.map Row.ints, RowM ss.length b (men * step) step r := by
  intro r hr
  obtain ⟨q, hq, rfl⟩ := List.mem_map.mp hr
  have g := hg q hq
  have g1 := g.b1 b hb (hb2 q hq)
  have g3 := g.n0
  have g4 := g.n1
  exact ⟨g.n0, by rw [hts]; omega, g1.1, g1.2.1, g1.2.2⟩
end Mine
end
section
open PySem PySem.W PyProof.Rows
set_option maxRecDepth 100000
set_option maxHeartbeats 8000000
local macro_rules | `(tactic| walk_at "subscriptTail BinOp Slice ref ref") => `(tactic| (k_here; k_dflt (refine kba_turn (value' := PySem.Expr.Name (PySem.Str.ofString "_") ⟨0, 0, 0, 0⟩) (fun _ => rfl) ?_)))
local macro_rules | `(tactic| walk_at "subscriptTail BinOp") => `(tactic| (k_here; k_dflt (refine kba_turn (value' := PySem.Expr.Name (PySem.Str.ofString "_") ⟨0, 0, 0, 0⟩) (fun _ => rfl) ?_)))
local macro_rules | `(tactic| walk_at "execs cons Assign cons") => `(tactic| ((with_reducible refine wpAny_execs_cons ?_); try dsimp only))
namespace Mine
theorem ints_at {vs : List Value} {ns : List Int} (h : IntsAre vs ns) : ∀ {i : Nat} {v : Value}, vs[i]? = some v → ∃ n t, v = .int n t ∧ ns[i]? = some n := by
  induction h with
  | nil => intro i v e; cases e
  | cons n t hr ih =>
    intro i v e
    cases i with
    | zero => cases e; exact ⟨_, _, rfl, rfl⟩
    | succ i => exact ih e
section
variable {prog : Program} {w : World} {A : Around} {E : Value → Shared → Prop} {s : Shared} {h₀ : Heap} {L : Addr} {m : Str → Option Value}
theorem app_at3 {l D S : Addr} {Ol Od : Obj} {ps : List (Str × Tok)} {rest : List (Addr × Obj)} {x : Str} {t : Tok} {Q : Value → Shared → Prop} (F : Fr h₀ L s.heap m) (N : News h₀ L s.heap ((l, Ol) :: (D, Od) :: (S, lstS ps) :: rest)) (d : l ≠ S ∧ D ≠ S ∧ ∀ p ∈ rest, p.1 ≠ S) (hsz : ps.length ≤ 10000000)
    (h : ∀ h', Fr h₀ L h' m → News h₀ L h' ((l, Ol) :: (D, Od) :: (S, lstS (ps ++ [(x, t)])) :: rest) → Q .none { s with heap := h' }) : wpAny (model prog w) A (call (.builtin "list.append") [.ref S, .str x t]) Q E s := by
  have e : listOf ((strValues ps).toArray.push (.str x t)) (ps.length + 1) = lstS (ps ++ [(x, t)]) := by
    simp [lstS, strValues]
  refine append_K F N (its := (strValues ps).toArray) (n := ps.length) (.tail d.1 (.tail d.2.1 (.head d.2.2))) ?_ ?_
  · intro h' F' N'
    rw [e] at N'
    exact h h' F' N'
  · have e9 : sizeLine = 16777216 := rfl
    simp [strValues]
    omega
end
theorem led_lists {S G : Addr} {ts : List (Str × Tok)} {rs rows : List Row} {nG : Nat} : ∀ p ∈ (S, lstS ts) :: (G, listOf (refs rs).toArray nG) :: rows.map Row.ent, ∃ its n, p.2 = listOf its n := by
  intro p hp
  rcases List.mem_cons.mp hp with rfl | hp
  · exact ⟨_, _, rfl⟩
  · rcases List.mem_cons.mp hp with rfl | hp
    · exact ⟨_, _, rfl⟩
    · obtain ⟨r, _, rfl⟩ := List.mem_map.mp hp
      exact ⟨_, _, rfl⟩
structure WSt where
  b : Nat
  tb : Tok
  o : Obj
  R : Addr
  nR : Nat
  rs : List Row
theorem men_of (X : Int) : ∃ men : Nat, men ∈ [3, 4, 5, 6] ∧ 3 + X.fmod 4 = (men : Int) := by
  have h1 := Int.fmod_nonneg_of_pos X (show (0 : Int) < 4 by decide)
  have h2 := Int.fmod_lt_of_pos X (show (0 : Int) < 4 by decide)
  refine ⟨(3 + X.fmod 4).toNat, ?_, by omega⟩
  have : X.fmod 4 = 0 ∨ X.fmod 4 = 1 ∨ X.fmod 4 = 2 ∨ X.fmod 4 = 3 := by omega
  rcases this with e | e | e | e <;> rw [e] <;> decide
theorem step_of (X : Int) : ∃ step : Nat, step ∈ [4, 5, 6, 7] ∧ 4 + X.fmod 4 = (step : Int) := by
  have h1 := Int.fmod_nonneg_of_pos X (show (0 : Int) < 4 by decide)
  have h2 := Int.fmod_lt_of_pos X (show (0 : Int) < 4 by decide)
  refine ⟨(4 + X.fmod 4).toNat, ?_, by omega⟩
  have : X.fmod 4 = 0 ∨ X.fmod 4 = 1 ∨ X.fmod 4 = 2 ∨ X.fmod 4 = 3 := by omega
  rcases this with e | e | e | e <;> rw [e] <;> decide
end Mine
local macro_rules | `(tactic| walk_at "compareOp NotEq ref ref") => `(tactic| (refine Mine.holdIt ?_))
local macro_rules | `(tactic| walk_at "call builtin:len") => `(tactic| (refine Mine.holdIt ?_))
local macro_rules | `(tactic| walk_at "compareOp NotEq str str") => `(tactic| (refine Mine.ne_same ?_))
local macro_rules | `(tactic| walk_at "WPost") => `(tactic| (dsimp only [Mine.WPost]))
local macro_rules | `(tactic| walk_at "exec Assign cons ListComp") => `(tactic| (refine Mine.holdIt ?_))
open Mine in
theorem Mine.cw : PySem.Challenge.rw_ny0173_01.Holds := by
  refine hdK (by rfl) (by rfl) (by rfl) ?_
  w_strict k_go0
  all_goals try k_fold
  rename Shared => sh1
  rename World => w
  rename_i xs hs0 hlay0 hL1 hr1 hl2 w5 w4 w3 w2 w1a hL0 ra w1x r0 hI0 hr0 hcond1 hcond0 K0 hD h₁ tk₁ F0 cell hcell N0 X0
  k_with_none
  k_with "pyIter ref" => (refine holdIt ?_)
  k_steps
  rename_i S hS6 l1e hS5 D3 ws2 hS4 hI2 hC1 hLL1 l1d l0 hS3 l1c D2 hS2 i1 n1 s1 e1 e2 e3 l1b D1 ws1 hS1 hI1 l1a D ws h1 F1 N1 hI hC hL l1
  obtain ⟨men, hmen, emen⟩ := men_of ((List.take 1 xs ++ [0]).getD 0 0)
  obtain ⟨step, hstep, estep⟩ := step_of (((List.take 1 xs ++ [0]).getD 0 0).fdiv 4)
  obtain ⟨ns, eN, hI'⟩ : ∃ ns : List Int, ns.length = men ∧ IntsAre ws ns := by
    refine ⟨_, ?_, hI⟩
    simp only [emen]
    simp
  have N2 : News sh1.heap _ h1 [(D, listOf ws.toArray 0), (S, lstS []), (sh1.heap.objs.size + 1, cell)] := cb_drop N1 (by
    intro p hp
    simp only [List.mem_cons, List.not_mem_nil, or_false] at hp
    rcases hp with rfl | rfl | rfl
    · exact .head _
    · exact .tail _ (.tail _ (.tail _ (.tail _ (.tail _ (.head _)))))
    · exact .tail _ (.tail _ (.tail _ (.tail _ (.tail _ (.tail _ (.tail _ (.tail _ (.tail _ (.head _))))))))))
  have hSD : S < D := l1.2.2.2.2.1
  have hCS : sh1.heap.objs.size + 1 < S := l1e.2.2.2
  clear N1 hI hC hL hI2 hI1 e1 e2 e3 i1 s1 hC1 hLL1 l1 l1a l1b l1c l1d l1e
  refine Hold.mk (forH (vs := ws) (nn := 0) (fun i mm nx => ∃ (ts : List (Str × Tok)) (t1 t2 : Tok), nx = [(D, listOf ws.toArray 0), (S, lstS ts), (sh1.heap.objs.size + 1, cell)] ∧ mm (Str.ofString "men") = some (.int men t1) ∧ mm (Str.ofString "step") = some (.int step t2) ∧ mm (Str.ofString "signs") = some (.ref S) ∧ ts.map (·.1) = (ns.take i).map sgn) rfl (.head _) F1 N2 ⟨[], ?ta, ?tb, rfl, ?em, ?es, rfl, rfl⟩ ?turn ?done)
  case em => rw [← emen]; rfl
  case es => rw [← estep]; rfl
  case turn =>
    refine Hold.mk ?_
    rintro i v m₁ news₁ h tk own hv hoff hmem ⟨ts, t1, t2, rfl, e1, e2, e3, hts⟩ FA NA
    obtain ⟨x, tx, rfl, hx⟩ := ints_at hI' hv
    have F7 : Fr _ _ h _ := Fr_over1 FA [(Str.ofString "men", .int men t1), (Str.ofString "step", .int step t2), (Str.ofString "signs", .ref S)] (by
      intro p hp
      simp only [List.mem_cons, List.not_mem_nil, or_false] at hp
      rcases hp with rfl | rfl | rfl <;> assumption)
    simp only [List.cons_append, List.nil_append] at NA
    dsimp only [kstB] at F7
    clear FA e1 e2 e3 F1 N2
    k_with_none
    k_with "call builtin:list.append" => (refine holdIt ?_)
    k_steps
    · rename_i lA hA FB NB ltA a1 a2 a3
      refine Hold.mk (app_at3 FB NB ⟨Nat.ne_of_gt ltA.2.1, Nat.ne_of_gt hSD, ?_⟩ ?_ ?_)
      · intro p hp
        rcases List.mem_cons.mp hp with rfl | hp
        · exact Nat.ne_of_lt hCS
        · exact hoff p hp S (by simp)
      · have := congrArg List.length hts
        simp only [List.length_map, List.length_take] at this
        have : men ≤ 6 := by simp at hmen; omega
        omega
      intro h8 F8 N8
      k_with_none
      k_steps
      refine invE (nw := []) (by k_asm) (cb_drop N8 fun p hp => .tail _ hp) hoff ⟨.head _, _, _, _, rfl, rfl, rfl, rfl, ?_⟩
      rw [List.map_append, hts, List.take_add_one, hx, List.map_append]
      have : sgn x = Str.ofString "." := by
        unfold sgn
        have a4 : x.fmod 256 = 10 ∨ x.fmod 256 = 13 := by
          simp at a3
          rcases a3 with a3 | a3
          · exact .inl a3.symm
          · exact .inr a3.symm
        rw [if_pos a4]
      simp [this]
    · rename_i lA hA FB NB ltA a1 a2 a3
      refine Hold.mk (app_at3 FB NB ⟨Nat.ne_of_gt ltA.2.1, Nat.ne_of_gt hSD, ?_⟩ ?_ ?_)
      · intro p hp
        rcases List.mem_cons.mp hp with rfl | hp
        · exact Nat.ne_of_lt hCS
        · exact hoff p hp S (by simp)
      · have := congrArg List.length hts
        simp only [List.length_map, List.length_take] at this
        have : men ≤ 6 := by simp at hmen; omega
        omega
      intro h8 F8 N8
      k_with_none
      k_steps
      refine invE (nw := []) (by k_asm) (cb_drop N8 fun p hp => .tail _ hp) hoff ⟨.head _, _, _, _, rfl, rfl, rfl, rfl, ?_⟩
      rw [List.map_append, hts, List.take_add_one, hx, List.map_append]
      have : sgn x = ⟨#[(x.fmod 256).toNat]⟩ := by
        unfold sgn
        have a4 : ¬ (x.fmod 256 = 10 ∨ x.fmod 256 = 13) := by
          simp at a3
          rintro (q | q)
          · exact a3.1 q.symm
          · exact a3.2 q.symm
        rw [if_neg a4]
      simp [this]
  case done =>
    refine Hold.mk ?_
    rintro m₁ news₁ h tk ⟨ts, t1, t2, rfl, e1, e2, e3, hts⟩ FA NA
    have F7 : Fr _ _ h _ := Fr_over FA [(Str.ofString "men", .int men t1), (Str.ofString "step", .int step t2), (Str.ofString "signs", .ref S)] (by
      intro p hp
      simp only [List.mem_cons, List.not_mem_nil, or_false] at hp
      rcases hp with rfl | rfl | rfl <;> assumption)
    have hwl : ws.length = ns.length := hI'.length
    rw [hwl, List.take_length] at hts
    dsimp only [kstB] at F7
    have N7 : News sh1.heap _ h [(S, lstS ts), (sh1.heap.objs.size + 1, cell)] := cb_drop NA fun p hp => .tail _ hp
    clear FA NA e1 e2 e3 F1 N2
    k_with_none
    k_with "call ref" => (refine holdIt ?_)
    k_steps
    refine Hold.mk ?_
    k_dflt (refine' C_lg w men step _ _ _ _ _ _ _ _ _ _ _ _ _ _ _ _ _ _ _ _ _ _ _ _ ?k1 ?k2 ?k3 ?k4 ?k5 ?kK ?kp ?kd ?ku ?kR; (case k1 => k_asm); (case k2 => k_asm); (case k3 => k_asm); (case k4 => k_asm); (case k5 => k_asm); (case kK => first | exact rfl | assumption); (case kp => exact ⟨hmen, hstep⟩); (case kd => ktr_room); (case ku => ktr_units))
    intro G nG rows h8 tk8 hrows F8 N8 hG
    have N9 : News _ _ h8 ((sh1.heap.objs.size + 1, cell) :: (S, lstS ts) :: (G, listOf (refs rows).toArray nG) :: rows.map Row.ent) := cb_drop N8 (by
      intro p hp
      rcases List.mem_cons.mp hp with rfl | hp
      · exact .tail _ (List.mem_append_right _ (.tail _ (.head _)))
      · rcases List.mem_cons.mp hp with rfl | hp
        · exact .tail _ (List.mem_append_right _ (.head _))
        · rcases List.mem_cons.mp hp with rfl | hp
          · exact .head _
          · exact .tail _ (List.mem_append_left _ hp))
    clear N8 hG
    dsimp only
    k_with_none
    k_with "storeName" => (k_dflt (refine store_cell (by k_asm) (by k_asm) rfl hcell ?_ ?_); (intro p hp; exact led_lists p hp); intro h9 o9 F9 N9 hd9; dsimp only)
    k_with "exec While Compare cons nil" => (refine holdIt ?_)
    k_steps
    obtain ⟨t9, hd9'⟩ : ∃ t, o9.data = .cell (some (.int ((1 : Nat) : Int) t)) := ⟨_, hd9⟩
    have hrg := rows_good hmen hstep
    have hrl : rows.length ≤ 6 := by
      have := congrArg List.length hrows
      rw [List.length_map] at this
      omega
    have hrr : ∀ r ∈ rows, RowG men step r.ints := fun r hr => hrg.2 _ (hrows ▸ List.mem_map.mpr ⟨r, hr, rfl⟩)
    have hil : ∀ r : Row, r.ints.length = r.l.length := fun r => by simp [Row.ints]
    refine Hold.mk (whileH (fun (c : WSt) => (sh1.heap.objs.size + 1, c.o) :: (S, lstS ts) :: (c.R, listOf (refs c.rs).toArray c.nR) :: rows.map Row.ent) (fun (c : WSt) => [(Str.ofString "rows", .ref c.R)]) [Str.ofString "came"]
      (fun c => c.o.data = .cell (some (.int c.b c.tb)) ∧ 1 ≤ c.b ∧ c.rs = rows.filter (fun r => decide (c.b < r.l.length))) (fun c => 60 - c.b) ⟨1, t9, o9, G, nG, rows⟩ F9 N9 ?hk ⟨hd9', Nat.le_refl _, ?hp⟩ ?turn)
    case hk =>
      intro p hp
      simp only [List.mem_cons, List.not_mem_nil, or_false] at hp
      rcases hp with rfl
      rfl
    case hp =>
      refine (List.filter_eq_self.mpr fun r hr => ?_).symm
      have := (hrr r hr).ge
      rw [hil] at this
      exact decide_eq_true (by dsimp only; omega)
    case turn =>
      refine Hold.mk ?_
      clear F9 N9 hd9 hd9'
      rintro ⟨b, tb, oc, R, nR, rs⟩ u h10 tk10 ⟨hoc, hb1, hrs⟩ F10 N10
      dsimp only at hoc hb1 hrs F10 N10 ⊢
      dsimp only [kstB] at F10
      have hsub : ∀ r ∈ rs, r ∈ rows := fun r hr => (List.mem_filter.mp (hrs ▸ hr)).1
      k_with_none
      k_steps
      rename_i Z h11 F11 N11 lt11
      refine Hold.mk ?_
      refine ne_rows (rows := rs) N11 (.tail _ (.tail _ (.tail _ (.head _)))) (fun r hr => .tail _ (.tail _ (.tail _ (.tail _ (List.mem_map.mpr ⟨r, hsub r hr, rfl⟩))))) (.head _) (by ke_room) ?_
      have N12 : News _ _ h11 ((sh1.heap.objs.size + 1, oc) :: (S, lstS ts) :: (R, listOf (refs rs).toArray nR) :: rows.map Row.ent) := cb_drop N11 fun p hp => .tail _ hp
      clear N11 lt11
      k_with_none
      k_steps
      rename_i hne
      refine Hold.mk ?_
      k_dflt (refine LCt.Assign_ListComp_T (F₀ := F11) (by rfl) (by with_unfolding_all rfl) (by with_unfolding_all rfl) (by decide) (by rfl) (by decide) (by rfl) (by rfl) (by rfl) ?_)
      k_with_none
      k_with "CompSrcT" => (refine holdIt ?_)
      k_steps
      refine Hold.mk (LCt.CompSrcT.ledger rfl F11 N12 (.tail _ (.tail _ (.head _))) ?sz (fun g => rest_pick (fun r => decide (b + 1 < r.l.length)) rs (.inr ⟨_, .tail _ (.tail _ (.head _)), rfl, _, rfl⟩) (Hold.mk ?_) (Hold.mk ?_) (Hold.mk ?_)))
      case sz =>
        have e9 : sizeLine = 16777216 := rfl
        have : rs.length ≤ rows.length := by rw [hrs]; exact List.length_filter_le _ _
        simp only [refs, List.size_toArray, List.length_map]
        omega
      · intro r I oI C oC D14 m₂ ys h14 tk14 E' hr hC hx F14 N14
        have hL14 : h14.IsList r.a (r.l.map fun p => Value.int p.1 p.2).toArray := News.isList N14 (.tail _ (.tail _ (.tail _ (.tail _ (.tail _ (.tail _ (List.mem_map.mpr ⟨r, hsub r hr, rfl⟩)))))))
        have hlr := (hrr r (hsub r hr)).le
        rw [hil] at hlr
        k_with_none
        k_steps
        refine Hold.mk (len_row hL14 hlr ?_)
        intro t14
        k_with_none
        k_steps
        exact ⟨decide_eq_decide.mpr (by omega), _, _, rfl, F14, N14⟩
      · intro r I oI C oC D14 m₂ ys h14 tk14 E' hr hC hx F14 N14
        k_with_none
        k_steps
        exact ⟨rfl, _, _, rfl, F14, N14⟩
      · intro D15 h15 tk15 F15 N15 ho15
        have N16 : News _ _ h15 ((sh1.heap.objs.size + 1, oc) :: (S, lstS ts) :: (D15, listOf (refs (rs.filter fun r => decide (b + 1 < r.l.length))).toArray (refs (rs.filter fun r => decide (b + 1 < r.l.length))).length) :: rows.map Row.ent) := cb_drop N15 (by
          intro p hp
          rcases List.mem_cons.mp hp with rfl | hp
          · exact .tail _ (.head _)
          · rcases List.mem_cons.mp hp with rfl | hp
            · exact .tail _ (.tail _ (.head _))
            · rcases List.mem_cons.mp hp with rfl | hp
              · exact .head _
              · exact .tail _ (.tail _ (.tail _ (.tail _ hp))))
        clear N15 ho15
        have hrs2 : (rs.filter fun r => decide (b + 1 < r.l.length)) = rows.filter fun r => decide (b + 1 < r.l.length) := by
          rw [hrs, List.filter_filter]
          apply List.filter_congr
          intro r _
          by_cases hq : b + 1 < r.l.length
          · have : b < r.l.length := by omega
            simp [hq, this]
          · simp [hq]
        generalize hq2 : (rs.filter fun r => decide (b + 1 < r.l.length)) = rs2 at *
        k_with_none
        k_with "call ref" => (refine holdIt ?_)
        k_steps
        refine Hold.mk ?_
        have hms : (men : Int) * (step : Int) = ((men * step : Nat) : Int) := by push_cast; rfl
        have hb1' : (b : Int) + 1 = ((b + 1 : Nat) : Int) := by push_cast; rfl
        have hrs2b : ∀ r ∈ rs2, b + 2 ≤ r.ints.length := by
          intro r hr
          rw [hrs2] at hr
          have := of_decide_eq_true (List.mem_filter.mp hr).2
          rw [hil]; omega
        have hrs2b' : ∀ r ∈ rs2, b + 1 ≤ r.ints.length := fun r hr => Nat.le_of_succ_le (hrs2b r hr)
        have hsub2 : ∀ r ∈ rs2, r ∈ rows := fun r hr => by
          rw [hrs2] at hr
          exact (List.mem_filter.mp hr).1
        have hg2 : ∀ r ∈ rs2, RowG men step r.ints := fun r hr => hrr r (hsub2 r hr)
        have hl2 : rs2.length ≤ 6 := by
          have : rs2.length ≤ rows.length := by rw [hrs2]; exact List.length_filter_le _ _
          omega
        have htl : (ts.map (·.1)).length = men := by rw [hts, List.length_map, eN]
        have hok : ∀ s ∈ ts.map (·.1), okS s := by
          rw [hts]
          intro s hs
          obtain ⟨x, _, rfl⟩ := List.mem_map.mp hs
          exact sgn_ok x
        have hst7 : 4 ≤ step ∧ step ≤ 7 := by simp at hstep; omega
        rw [hms]
        k_dflt (refine' C_lm w D15 S rs2 ts (refs rs2).length ts.length b (men * step) _ _ _ _ _ _ _ _ _ _ _ _ _ _ _ _ _ _ _ _ _ _ _ _ ?m1 ?m2 ?m3 ?m4 ?m5 ?mK ?mp ?md ?mu ?mR; (case m1 => k_asm); (case m2 => k_asm); (case m3 => k_asm); (case m4 => k_asm); (case m5 => k_asm); (case mK => first | exact rfl | assumption); (case mp => exact lm_pre hmen hstep (.tail _ (.tail _ (.head _))) (.tail _ (.head _)) (fun r hr => .tail _ (.tail _ (.tail _ (List.mem_map.mpr ⟨r, hsub2 r hr, rfl⟩)))) hg2 hb1 hrs2b' hl2 htl hok); (case md => ktr_room); (case mu => ktr_units))
        intro t17 h17 tk17 F17 N17
        dsimp only
        clear F15 N16
        k_with_none
        k_with "call ref" => (refine holdIt ?_)
        k_steps
        refine Hold.mk ?_
        k_dflt (refine' C_mail w (ts.map (·.1)) b (men * step) step (rs2.map Row.ints) _ _ hok hst7 (by rw [List.length_map]; exact hl2) (mail_pre hmen hstep hg2 hb1 hrs2b htl) _ _ _ _ _ _ _ _ _ _ _ _ _ _ _ _ _ _ _ _ _ _ ?q1 ?q2 ?q3 ?q4 ?q5 ?qK ?qp ?qd ?qu ?qR; (case q1 => k_asm); (case q2 => k_asm); (case q3 => k_asm); (case q4 => k_asm); (case q5 => k_asm); (case qK => first | exact rfl | assumption); (case qp => exact trivial); (case qd => ktr_room); (case qu => ktr_units))
        intro t18 h18 tk18 F18 N18
        dsimp only
        clear F17 N17
        k_with_none
        k_with "call ref" => (refine holdIt ?_)
        k_with "storeName" => (k_dflt (refine store_cell (by k_asm) (by k_asm) rfl hoc ?_ ?_); (intro p hp; exact led_lists p hp); intro h19 o19 F19 N19 hd19; dsimp only)
        k_steps
        refine Hold.mk ?_
        rw [hms, hb1']
        k_dflt (refine' C_lm w D15 S rs2 ts (refs rs2).length ts.length (b + 1) (men * step) _ _ _ _ _ _ _ _ _ _ _ _ _ _ _ _ _ _ _ _ _ _ _ _ ?v1 ?v2 ?v3 ?v4 ?v5 ?vK ?vp ?vd ?vu ?vR; (case v1 => k_asm); (case v2 => k_asm); (case v3 => k_asm); (case v4 => k_asm); (case v5 => k_asm); (case vK => first | exact rfl | assumption); (case vp => exact lm_pre hmen hstep (.tail _ (.tail _ (.head _))) (.tail _ (.head _)) (fun r hr => .tail _ (.tail _ (.tail _ (List.mem_map.mpr ⟨r, hsub2 r hr, rfl⟩)))) hg2 (Nat.le_add_left _ _) hrs2b hl2 htl hok); (case vd => ktr_room); (case vu => ktr_units))
        intro t20 h20 tk20 F20 N20
        dsimp only
        clear F19 N19
        k_with_none
        k_steps
        obtain ⟨t19, hd19'⟩ : ∃ t, o19.data = .cell (some (.int ((b + 1 : Nat) : Int) t)) := by
          rw [← hb1']; exact ⟨_, hd19⟩
        have hb60 : b < 50 := by
          obtain ⟨r, hr⟩ := List.exists_mem_of_ne_nil rs hne
          have h1 := (hrr r (hsub r hr)).le
          rw [hrs] at hr
          have h2 := of_decide_eq_true (List.mem_filter.mp hr).2
          rw [hil] at h1
          omega
        refine Hold.mk (ksw_end ⟨b + 1, t19, o19, D15, (refs rs2).length, rs2⟩ F20 N20 (fun p hp => hp) trivial ?wk ?ws ⟨hd19', Nat.le_add_left _ _, hrs2⟩ ?wm)
        case wk =>
          intro p hp
          simp only [List.mem_cons, List.not_mem_nil, or_false] at hp
          rcases hp with rfl
          rfl
        case ws => ksw_same
        case wm => dsimp only; omega
end
theorem PySem.Challenge.cw_ny0173_01_holds : PySem.Challenge.rw_ny0173_01.Holds :=
  Mine.cw

import PyProof.Rows.All
import Wide.All
import OpenK.AllK
import Wide.FinOn
import PySem.Challenge.RW_ty0001_01
set_option Elab.async false
set_option linter.unusedVariables false

/- part Rx1 -/
section PartRx1
open PySem PySem.Sre
namespace Mine

def code1 : Array Nat := #[14,4,0,1,1,6,1,16,46,1]

theorem runFor_done {m : M} (h : m.outcome.isSome = true) : ∀ n, m.runFor n = m
  | 0 => rfl
  | n + 1 => by unfold M.runFor; rw [if_pos h]
theorem runFor_succ {m : M} (h : m.outcome = none) (n : Nat) : m.runFor (n + 1) = m.step.runFor n := by
  show (if m.outcome.isSome then m else M.runFor n m.step) = _
  rw [h]; rfl
theorem runFor_add (m : M) : ∀ a b : Nat, m.runFor (a + b) = (m.runFor a).runFor b
  | 0, b => by rw [Nat.zero_add]; rfl
  | a + 1, b => by
    by_cases h : m.outcome.isSome = true
    · rw [runFor_done h, runFor_done h, runFor_done h]
    · have h' : m.outcome = none := by simpa using h
      rw [show a + 1 + b = (a + b) + 1 by omega, runFor_succ h', runFor_succ h', runFor_add _ a b]

/-- what a run ends with, within k steps -/
def Ends (k : Nat) (m : M) (r : Option (Nat × Nat)) : Prop :=
  ∃ j, j ≤ k ∧ match r with
    | some (a, e) => (∃ x, (m.runFor j).outcome = some x ∧ x = .matched) ∧ (m.runFor j).start = a ∧ (m.runFor j).handed = e
    | none => ∃ x, (m.runFor j).outcome = some x ∧ x = .failed

theorem Ends.mono {k k' : Nat} {m : M} {r} (h : Ends k m r) (hk : k ≤ k') : Ends k' m r := let ⟨j, h1, h2⟩ := h; ⟨j, Nat.le_trans h1 hk, h2⟩
theorem Ends.step {k : Nat} {m m' : M} {r} (h : m.outcome = none) (e : m.step = m') (H : Ends k m' r) : Ends (k + 1) m r := by
  obtain ⟨j, hj, H⟩ := H
  refine ⟨j + 1, Nat.succ_le_succ hj, ?_⟩
  rw [runFor_succ h, e]; exact H
theorem Ends.failed {m : M} (h : m.outcome = none) (ha : m.answer = some false) (hf : m.frames = []) : Ends 1 m none := by
  refine ⟨1, Nat.le_refl _, .failed, ?_, rfl⟩
  rw [runFor_succ h]
  show (m.step).outcome = _
  unfold M.step
  rw [h, ha, hf]; rfl
theorem Ends.matched {m : M} (h : m.outcome = none) (ha : m.answer = some true) (hf : m.frames = []) : Ends 1 m (some (m.start, m.handed)) := by
  have e : m.step = { m with outcome := some .matched } := by
    unfold M.step
    rw [h, ha, hf]; rfl
  refine ⟨1, Nat.le_refl _, ⟨.matched, ?_, rfl⟩, ?_, ?_⟩
  all_goals
    rw [runFor_succ h, e]; rfl

/-- at the start s -/
def at1 (t : Array Nat) (n s h : Nat) (first : Bool) (seen : Seen) : M :=
  { code := code1, text := t, lim := n, start := s, lastStart := n, pc := 5, pos := s, handed := h, outermost := first, marks := #[], frames := [{ wait := .nextStart, pc := 5, pos := s, outermost := first }], weight := 1, seen := seen }

theorem at1_step (t : Array Nat) (n s h : Nat) (first : Bool) (seen : Seen) : (at1 t n s h first seen).step =
    if (s == 0 || t.getD (s - 1) 0 == 10) = true then { at1 t n s h first seen with pc := 7, seen := (seen.add 6).add 44 } else { at1 t n s h first seen with seen := (seen.add 6).add 44, answer := some false } := rfl
def lit1 (t : Array Nat) (n s h : Nat) (first : Bool) (seen : Seen) : M := { at1 t n s h first seen with pc := 7 }
theorem lit1_step (t : Array Nat) (n s h : Nat) (first : Bool) (seen : Seen) : (lit1 t n s h first seen).step =
    if s ≥ n then { lit1 t n s h first seen with seen := seen.add 16, answer := some false } else
    if (t.getD s 0 == 46) = true then { lit1 t n s h first seen with pc := 9, pos := s + 1, seen := seen.add 16 } else { lit1 t n s h first seen with seen := seen.add 16, answer := some false } := by
  show (if s ≥ n then _ else match accepts code1 7 (t.getD s 0) _ with | .error why => _ | .ok (false, seen) => _ | .ok (true, seen) => _) = _
  have e : accepts code1 7 (t.getD s 0) (seen.add 16) = .ok (t.getD s 0 == 46, seen.add 16) := rfl
  split
  · rfl
  · cases hc : (t.getD s 0 == 46)
    · simp only [Bool.false_eq_true, if_false]
      show (match accepts code1 7 (t.getD s 0) (seen.add 16) with | .error why => _ | .ok (false, seen) => _ | .ok (true, seen) => _) = _
      rw [e, hc]; rfl
    · simp only [if_true]
      show (match accepts code1 7 (t.getD s 0) (seen.add 16) with | .error why => _ | .ok (false, seen) => _ | .ok (true, seen) => _) = _
      rw [e, hc]; rfl
def suc1 (t : Array Nat) (n s h : Nat) (first : Bool) (seen : Seen) : M := { at1 t n s h first seen with pc := 9, pos := s + 1 }
theorem suc1_step (t : Array Nat) (n s h : Nat) (first : Bool) (seen : Seen) : (suc1 t n s h first seen).step = { suc1 t n s h first seen with seen := seen.add 1, handed := s + 1, answer := some true } := by
  cases first <;> rfl
theorem yes1_step (t : Array Nat) (n s h : Nat) (first : Bool) (seen : Seen) :
    ({ suc1 t n s h first seen with handed := s + 1, answer := some true } : M).step = { suc1 t n s h first seen with handed := s + 1, answer := some true, frames := [], weight := 0, pc := 5, pos := s } := rfl
/-- no, at s -/
def no1 (t : Array Nat) (n s h pc : Nat) (first : Bool) (seen : Seen) : M := { at1 t n s h first seen with pc := pc, answer := some false }
theorem no1_step (t : Array Nat) (n s h pc : Nat) (first : Bool) (seen : Seen) : (no1 t n s h pc first seen).step =
    if s < n then at1 t n (s + 1) (s + 1) false seen else { at1 t n s h first seen with answer := some false, frames := [], weight := 0 } := rfl

def find1 (t : Array Nat) (n : Nat) : Nat → Nat → Option (Nat × Nat)
  | 0, _ => none
  | k + 1, s => if (s == 0 || t.getD (s - 1) 0 == 10) && decide (s < n) && t.getD s 0 == 46 then some (s, s + 1) else find1 t n k (s + 1)

theorem ends1 (t : Array Nat) (n : Nat) : ∀ (k s h : Nat) (first : Bool) (seen : Seen), s + k = n → Ends (4 * k + 8) (at1 t n s h first seen) (find1 t n (k + 1) s)
  | k, s, h, first, seen, hk => by
    have next : ∀ (pc : Nat) (seen : Seen), ((s == 0 || t.getD (s - 1) 0 == 10) && decide (s < n) && t.getD s 0 == 46) = false → Ends (4 * k + 5) (no1 t n s h pc first seen) (find1 t n (k + 1) s) := fun pc seen hc => by
      rw [find1, if_neg (by rw [hc]; decide)]
      cases k with
      | zero =>
        refine Ends.mono (Ends.step rfl (no1_step ..) ?_) (Nat.le_refl _)
        rw [if_neg (by omega)]
        exact Ends.mono (Ends.failed rfl rfl rfl) (by omega)
      | succ k =>
        refine Ends.mono (Ends.step rfl (no1_step ..) ?_) (Nat.le_refl _)
        rw [if_pos (by omega)]
        exact Ends.mono (ends1 t n k (s + 1) (s + 1) false seen (by omega)) (by omega)
    refine Ends.mono (k := 4 * k + 7 + 1) (Ends.step rfl (at1_step ..) ?_) (by omega)
    by_cases hb : (s == 0 || t.getD (s - 1) 0 == 10) = true
    · rw [if_pos hb]
      refine Ends.mono (k := 4 * k + 6 + 1) (Ends.step (m := lit1 t n s h first ((seen.add 6).add 44)) rfl (lit1_step ..) ?_) (by omega)
      by_cases hs : s ≥ n
      · rw [if_pos hs]
        exact Ends.mono (next 7 (((seen.add 6).add 44).add 16) (by rw [hb]; simp; omega)) (by omega)
      · rw [if_neg hs]
        by_cases hc : (t.getD s 0 == 46) = true
        · rw [if_pos hc, find1, if_pos (by rw [hb, hc]; simp; omega)]
          refine Ends.mono (k := 2 + 1) (Ends.step (m := suc1 t n s h first (((seen.add 6).add 44).add 16)) rfl (suc1_step ..) ?_) (by omega)
          refine Ends.mono (k := 1 + 1) (Ends.step rfl (yes1_step t n s h first ((((seen.add 6).add 44).add 16).add 1)) ?_) (by omega)
          exact Ends.matched rfl rfl rfl
        · rw [if_neg hc]
          exact Ends.mono (next 7 (((seen.add 6).add 44).add 16) (by simp only [Bool.not_eq_true] at hc; rw [hc]; simp)) (by omega)
    · rw [if_neg hb]
      exact Ends.mono (next 5 ((seen.add 6).add 44) (by simp only [Bool.not_eq_true] at hb; rw [hb]; simp)) (by omega)

/-- the search of the first pattern -/
def seek1 (t : Array Nat) (s : Nat) : Option (Nat × Nat) := if t.size ≤ s then none else find1 t t.size (t.size - s + 1) s
theorem search1 (t : Array Nat) (s : Nat) : Ends (4 * t.size + 8) (forSearch code1 t 0 s t.size false) (seek1 t s) := by
  unfold seek1
  by_cases h : t.size ≤ s
  · rw [if_pos h]
    have e : forSearch code1 t 0 s t.size false = { code := code1, text := t, lim := t.size, start := s, pc := 5, pos := s, handed := s, marks := #[], seen := ({} : Seen).add 14, answer := some false } := by
      show (if (decide (s > t.size) || decide (t.size - s < 1)) = true then _ else _) = _
      rw [if_pos (by simp; omega)]; rfl
    rw [e]
    exact Ends.mono (Ends.failed rfl rfl rfl) (by omega)
  · rw [if_neg h]
    have e : forSearch code1 t 0 s t.size false = at1 t t.size s s true (({} : Seen).add 14) := by
      show (if (decide (s > t.size) || decide (t.size - s < 1)) = true then _ else _) = _
      rw [if_neg (by simp; omega)]; rfl
    rw [e]
    exact Ends.mono (ends1 t t.size (t.size - s) s s true _ (by omega)) (by omega)
end Mine
end PartRx1

/- part Rx2 -/
section PartRx2
open PySem PySem.Sre
namespace Mine

def code2 : Array Nat := #[14,9,4,1,2,16,10,16,13,0,7,7,16,13,16,10,15,18,5,16,10,15,13,11,16,13,5,5,0,16,10,1,15,2,0,1]

def st2 (t : Array Nat) (n s pc pos h : Nat) (fs : List Sre.Frame) (wt : Nat) (om : Bool) (ans : Option Bool) (seen : Seen) : M :=
  { code := code2, text := t, lim := n, start := s, lastStart := n, pc := pc, pos := pos, handed := h, outermost := om, marks := #[], frames := fs, weight := wt, answer := ans, seen := seen }
def fr0 (s : Nat) : Sre.Frame := { wait := .nextStart, pc := 10, pos := s, outermost := true }
def frB (s a : Nat) : Sre.Frame := { wait := .nextBranch, pc := a, pos := s, outermost := true }
def frL (p : Nat) : Sre.Frame := { wait := .lookNot, pc := 26, pos := p, outermost := true }

section
variable (t : Array Nat) (n s pos h wt : Nat) (fs : List Sre.Frame) (om : Bool) (seen : Seen)

theorem lit2_12 : (st2 t n s 12 pos h fs wt om none seen).step =
    if pos ≥ n then st2 t n s 12 pos h fs wt om (some false) (seen.add 16) else
    if (t.getD pos 0 == 13) = true then st2 t n s 14 (pos + 1) h fs wt om none (seen.add 16) else st2 t n s 12 pos h fs wt om (some false) (seen.add 16) := by
  show (if pos ≥ n then _ else match accepts code2 12 (t.getD pos 0) _ with | .error why => _ | .ok (false, seen) => _ | .ok (true, seen) => _) = _
  have e : accepts code2 12 (t.getD pos 0) (seen.add 16) = .ok (t.getD pos 0 == 13, seen.add 16) := rfl
  split
  · rfl
  · cases hc : (t.getD pos 0 == 13)
    · simp only [Bool.false_eq_true, if_false]
      show (match accepts code2 12 (t.getD pos 0) (seen.add 16) with | .error why => _ | .ok (false, seen) => _ | .ok (true, seen) => _) = _
      rw [e, hc]; rfl
    · simp only [if_true]
      show (match accepts code2 12 (t.getD pos 0) (seen.add 16) with | .error why => _ | .ok (false, seen) => _ | .ok (true, seen) => _) = _
      rw [e, hc]; rfl

theorem lit2_14 : (st2 t n s 14 pos h fs wt om none seen).step =
    if pos ≥ n then st2 t n s 14 pos h fs wt om (some false) (seen.add 16) else
    if (t.getD pos 0 == 10) = true then st2 t n s 16 (pos + 1) h fs wt om none (seen.add 16) else st2 t n s 14 pos h fs wt om (some false) (seen.add 16) := by
  show (if pos ≥ n then _ else match accepts code2 14 (t.getD pos 0) _ with | .error why => _ | .ok (false, seen) => _ | .ok (true, seen) => _) = _
  have e : accepts code2 14 (t.getD pos 0) (seen.add 16) = .ok (t.getD pos 0 == 10, seen.add 16) := rfl
  split
  · rfl
  · cases hc : (t.getD pos 0 == 10)
    · simp only [Bool.false_eq_true, if_false]
      show (match accepts code2 14 (t.getD pos 0) (seen.add 16) with | .error why => _ | .ok (false, seen) => _ | .ok (true, seen) => _) = _
      rw [e, hc]; rfl
    · simp only [if_true]
      show (match accepts code2 14 (t.getD pos 0) (seen.add 16) with | .error why => _ | .ok (false, seen) => _ | .ok (true, seen) => _) = _
      rw [e, hc]; rfl

theorem lit2_19 : (st2 t n s 19 pos h fs wt om none seen).step =
    if pos ≥ n then st2 t n s 19 pos h fs wt om (some false) (seen.add 16) else
    if (t.getD pos 0 == 10) = true then st2 t n s 21 (pos + 1) h fs wt om none (seen.add 16) else st2 t n s 19 pos h fs wt om (some false) (seen.add 16) := by
  show (if pos ≥ n then _ else match accepts code2 19 (t.getD pos 0) _ with | .error why => _ | .ok (false, seen) => _ | .ok (true, seen) => _) = _
  have e : accepts code2 19 (t.getD pos 0) (seen.add 16) = .ok (t.getD pos 0 == 10, seen.add 16) := rfl
  split
  · rfl
  · cases hc : (t.getD pos 0 == 10)
    · simp only [Bool.false_eq_true, if_false]
      show (match accepts code2 19 (t.getD pos 0) (seen.add 16) with | .error why => _ | .ok (false, seen) => _ | .ok (true, seen) => _) = _
      rw [e, hc]; rfl
    · simp only [if_true]
      show (match accepts code2 19 (t.getD pos 0) (seen.add 16) with | .error why => _ | .ok (false, seen) => _ | .ok (true, seen) => _) = _
      rw [e, hc]; rfl

theorem lit2_24 : (st2 t n s 24 pos h fs wt om none seen).step =
    if pos ≥ n then st2 t n s 24 pos h fs wt om (some false) (seen.add 16) else
    if (t.getD pos 0 == 13) = true then st2 t n s 26 (pos + 1) h fs wt om none (seen.add 16) else st2 t n s 24 pos h fs wt om (some false) (seen.add 16) := by
  show (if pos ≥ n then _ else match accepts code2 24 (t.getD pos 0) _ with | .error why => _ | .ok (false, seen) => _ | .ok (true, seen) => _) = _
  have e : accepts code2 24 (t.getD pos 0) (seen.add 16) = .ok (t.getD pos 0 == 13, seen.add 16) := rfl
  split
  · rfl
  · cases hc : (t.getD pos 0 == 13)
    · simp only [Bool.false_eq_true, if_false]
      show (match accepts code2 24 (t.getD pos 0) (seen.add 16) with | .error why => _ | .ok (false, seen) => _ | .ok (true, seen) => _) = _
      rw [e, hc]; rfl
    · simp only [if_true]
      show (match accepts code2 24 (t.getD pos 0) (seen.add 16) with | .error why => _ | .ok (false, seen) => _ | .ok (true, seen) => _) = _
      rw [e, hc]; rfl

theorem lit2_29 : (st2 t n s 29 pos h fs wt om none seen).step =
    if pos ≥ n then st2 t n s 29 pos h fs wt om (some false) (seen.add 16) else
    if (t.getD pos 0 == 10) = true then st2 t n s 31 (pos + 1) h fs wt om none (seen.add 16) else st2 t n s 29 pos h fs wt om (some false) (seen.add 16) := by
  show (if pos ≥ n then _ else match accepts code2 29 (t.getD pos 0) _ with | .error why => _ | .ok (false, seen) => _ | .ok (true, seen) => _) = _
  have e : accepts code2 29 (t.getD pos 0) (seen.add 16) = .ok (t.getD pos 0 == 10, seen.add 16) := rfl
  split
  · rfl
  · cases hc : (t.getD pos 0 == 10)
    · simp only [Bool.false_eq_true, if_false]
      show (match accepts code2 29 (t.getD pos 0) (seen.add 16) with | .error why => _ | .ok (false, seen) => _ | .ok (true, seen) => _) = _
      rw [e, hc]; rfl
    · simp only [if_true]
      show (match accepts code2 29 (t.getD pos 0) (seen.add 16) with | .error why => _ | .ok (false, seen) => _ | .ok (true, seen) => _) = _
      rw [e, hc]; rfl

theorem jump2_16 : (st2 t n s 16 pos h fs wt om none seen).step = st2 t n s 35 pos h fs wt om none (seen.add 15) := rfl

theorem jump2_21 : (st2 t n s 21 pos h fs wt om none seen).step = st2 t n s 35 pos h fs wt om none (seen.add 15) := rfl

theorem jump2_32 : (st2 t n s 32 pos h fs wt om none seen).step = st2 t n s 35 pos h fs wt om none (seen.add 15) := rfl

theorem suc2 : (st2 t n s 35 pos h fs wt true none seen).step = st2 t n s 35 pos pos fs wt true (some true) (seen.add 1) := rfl
theorem branch2 : (st2 t n s 10 s h [fr0 s] 1 true none seen).step = st2 t n s 12 s s [frB s 11, fr0 s] 2 true none (seen.add 7) := rfl
theorem noB_11 (pc : Nat) : (st2 t n s pc pos h [frB s 11, fr0 s] 2 om (some false) seen).step = st2 t n s 19 s s [frB s 18, fr0 s] 2 true none seen := rfl
theorem noB_18 (pc : Nat) : (st2 t n s pc pos h [frB s 18, fr0 s] 2 om (some false) seen).step = st2 t n s 24 s s [frB s 23, fr0 s] 2 true none seen := rfl
theorem yesB (pc a : Nat) : (st2 t n s pc pos h [frB s a, fr0 s] 2 om (some true) seen).step = st2 t n s a s h [fr0 s] 1 true (some true) seen := rfl
theorem yes0 (pc : Nat) : (st2 t n s pc pos h [fr0 s] 1 om (some true) seen).step = st2 t n s 10 s h [] 0 true (some true) seen := rfl
theorem look2 : (st2 t n s 26 (s + 1) h [frB s 23, fr0 s] 2 true none seen).step = st2 t n s 29 (s + 1) (s + 1) [frL (s + 1), frB s 23, fr0 s] 3 false none (seen.add 5) := rfl
theorem noL (pc : Nat) : (st2 t n s pc pos h [frL (s + 1), frB s 23, fr0 s] 3 om (some false) seen).step = st2 t n s 32 (s + 1) h [frB s 23, fr0 s] 2 true none seen := rfl
end

def len2 (t : Array Nat) (n s : Nat) : Nat := if t.getD s 0 == 13 && decide (s + 1 < n) && t.getD (s + 1) 0 == 10 then s + 2 else s + 1

theorem done2 (t : Array Nat) (n s pos h a : Nat) (seen : Seen) : Ends 4 (st2 t n s 35 pos h [frB s a, fr0 s] 2 true none seen) (some (s, pos)) := by
  refine Ends.step (k := 3) rfl (suc2 ..) (Ends.step (k := 2) rfl (yesB ..) (Ends.step (k := 1) rfl (yes0 ..) ?_))
  exact Ends.matched rfl rfl rfl

theorem body2 (t : Array Nat) (n s h : Nat) (seen : Seen) (hs : s < n) (hc : t.getD s 0 = 10 ∨ t.getD s 0 = 13) : Ends 16 (st2 t n s 10 s h [fr0 s] 1 true none seen) (some (s, len2 t n s)) := by
  refine Ends.step (k := 15) rfl (branch2 ..) ?_
  refine Ends.step (k := 14) rfl (lit2_12 ..) ?_
  rw [if_neg (by omega)]
  rcases hc with hc | hc
  · rw [if_neg (by rw [hc]; decide)]
    have e : len2 t n s = s + 1 := by unfold len2; rw [hc]; rfl
    rw [e]
    refine Ends.step (k := 13) rfl (noB_11 ..) ?_
    refine Ends.step (k := 12) rfl (lit2_19 ..) ?_
    rw [if_neg (by omega), if_pos (by rw [hc]; decide)]
    refine Ends.step (k := 11) rfl (jump2_21 ..) ?_
    exact Ends.mono (done2 ..) (by omega)
  · rw [if_pos (by rw [hc]; decide)]
    refine Ends.step (k := 13) rfl (lit2_14 ..) ?_
    by_cases h2 : s + 1 < n ∧ t.getD (s + 1) 0 = 10
    · have e : len2 t n s = s + 2 := by unfold len2; rw [hc, h2.2]; simp [h2.1]
      rw [if_neg (by omega), if_pos (by rw [h2.2]; decide), e]
      refine Ends.step (k := 12) rfl (jump2_16 ..) ?_
      exact Ends.mono (done2 ..) (by omega)
    · have e : len2 t n s = s + 1 := by
        unfold len2
        rw [if_neg]
        simp only [Bool.and_eq_true, beq_iff_eq, decide_eq_true_eq]
        exact fun h => h2 ⟨h.1.2, h.2⟩
      rw [e]
      have go : ∀ (seen : Seen), Ends 12 (st2 t n s 14 (s + 1) s [frB s 11, fr0 s] 2 true (some false) seen) (some (s, s + 1)) := fun seen => by
        refine Ends.step (k := 11) rfl (noB_11 ..) ?_
        refine Ends.step (k := 10) rfl (lit2_19 ..) ?_
        rw [if_neg (by omega), if_neg (by rw [hc]; decide)]
        refine Ends.step (k := 9) rfl (noB_18 ..) ?_
        refine Ends.step (k := 8) rfl (lit2_24 ..) ?_
        rw [if_neg (by omega), if_pos (by rw [hc]; decide)]
        refine Ends.step (k := 7) rfl (look2 ..) ?_
        refine Ends.step (k := 6) rfl (lit2_29 ..) ?_
        have go2 : ∀ (seen : Seen), Ends 6 (st2 t n s 29 (s + 1) (s + 1) [frL (s + 1), frB s 23, fr0 s] 3 false (some false) seen) (some (s, s + 1)) := fun seen => by
          refine Ends.step (k := 5) rfl (noL ..) ?_
          refine Ends.step (k := 4) rfl (jump2_32 ..) ?_
          exact done2 ..
        by_cases hn : s + 1 ≥ n
        · rw [if_pos hn]; exact go2 _
        · rw [if_neg hn, if_neg (by simp only [beq_iff_eq]; exact fun q => h2 ⟨by omega, q⟩)]; exact go2 _
      by_cases hn : s + 1 ≥ n
      · rw [if_pos hn]; exact Ends.mono (go _) (by omega)
      · rw [if_neg hn, if_neg (by simp only [beq_iff_eq]; exact fun q => h2 ⟨by omega, q⟩)]; exact Ends.mono (go _) (by omega)

def find2 (t : Array Nat) (n : Nat) : Nat → Nat → Option (Nat × Nat)
  | 0, _ => none
  | k + 1, s => if s ≥ n then none else if (t.getD s 0 == 10 || t.getD s 0 == 13) = true then some (s, len2 t n s) else find2 t n k (s + 1)

theorem inSet2 (c : Nat) (seen : Seen) : inSet code2 c code2.size 5 true seen = if (c == 10) = true then .ok (true, seen.add 16) else if (c == 13) = true then .ok (true, (seen.add 16).add 16) else .ok (false, ((seen.add 16).add 16).add 0) := rfl

theorem adm2 (m : M) (hc : m.code = code2) : ∀ (k s : Nat) (seen : Seen), match find2 m.text m.lim k s with
    | some (a, e) => (∃ seen', m.admitted k s seen = .ok (some a, seen')) ∧ a < m.lim ∧ (m.text.getD a 0 = 10 ∨ m.text.getD a 0 = 13) ∧ e = len2 m.text m.lim a
    | none => ∃ seen', m.admitted k s seen = .ok (none, seen')
  | 0, s, seen => ⟨seen, rfl⟩
  | k + 1, s, seen => by
    unfold find2
    by_cases hs : s ≥ m.lim
    · rw [if_pos hs]; exact ⟨seen, by unfold M.admitted; rw [if_pos hs]⟩
    · rw [if_neg hs]
      by_cases h10 : (m.text.getD s 0 == 10) = true
      · rw [if_pos (by rw [h10]; rfl)]
        refine ⟨⟨seen.add 16, ?_⟩, by omega, .inl (beq_iff_eq.mp h10), rfl⟩
        unfold M.admitted
        rw [if_neg hs, hc, inSet2, if_pos h10]
      · by_cases h13 : (m.text.getD s 0 == 13) = true
        · rw [if_pos (by rw [h13, Bool.or_true])]
          refine ⟨⟨(seen.add 16).add 16, ?_⟩, by omega, .inr (beq_iff_eq.mp h13), rfl⟩
          unfold M.admitted
          rw [if_neg hs, hc, inSet2, if_neg h10, if_pos h13]
        · rw [if_neg (by simp only [Bool.not_eq_true] at h10 h13; rw [h10, h13]; decide)]
          have ih := adm2 m hc k (s + 1) (((seen.add 16).add 16).add 0)
          have e : m.admitted (k + 1) s seen = m.admitted k (s + 1) (((seen.add 16).add 16).add 0) := by
            show (if s ≥ m.lim then _ else _) = _
            rw [if_neg hs, hc, inSet2, if_neg h10, if_neg h13]
          rw [e]; exact ih

def seek2 (t : Array Nat) (s : Nat) : Option (Nat × Nat) := if t.size ≤ s then none else find2 t t.size (t.size + 1 - s) s
theorem search2 (t : Array Nat) (s : Nat) : Ends 17 (forSearch code2 t 0 s t.size false) (seek2 t s) := by
  unfold seek2
  by_cases h : t.size ≤ s
  · rw [if_pos h]
    have e : forSearch code2 t 0 s t.size false = { code := code2, text := t, lim := t.size, start := s, pc := 10, pos := s, handed := s, marks := #[], seen := ({} : Seen).add 14, answer := some false } := by
      show (if (decide (s > t.size) || decide (t.size - s < 1)) = true then _ else _) = _
      rw [if_pos (by simp; omega)]; rfl
    rw [e]
    exact Ends.mono (Ends.failed rfl rfl rfl) (by omega)
  · rw [if_neg h]
    have e : forSearch code2 t 0 s t.size false = M.attemptFrom { code := code2, text := t, lim := t.size, start := s, lastStart := t.size, pc := 10, pos := s, handed := s, marks := #[], seen := ({} : Seen).add 14 } s true := by
      show (if (decide (s > t.size) || decide (t.size - s < 1)) = true then _ else _) = _
      rw [if_neg (by simp; omega)]; rfl
    rw [e]
    have ha := adm2 { code := code2, text := t, lim := t.size, start := s, lastStart := t.size, pc := 10, pos := s, handed := s, marks := #[], seen := ({} : Seen).add 14 } rfl (t.size + 1 - s) s (({} : Seen).add 14)
    dsimp only at ha
    have e2 : M.attemptFrom { code := code2, text := t, lim := t.size, start := s, lastStart := t.size, pc := 10, pos := s, handed := s, marks := #[], seen := ({} : Seen).add 14 } s true =
      (match M.admitted { code := code2, text := t, lim := t.size, start := s, lastStart := t.size, pc := 10, pos := s, handed := s, marks := #[], seen := ({} : Seen).add 14 } (t.size + 1 - s) s (({} : Seen).add 14) with
        | .ok (some a, seen) => st2 t t.size a 10 a a [fr0 a] 1 true none seen
        | .ok (none, seen) => { code := code2, text := t, lim := t.size, start := s, lastStart := t.size, pc := 10, pos := s, handed := s, marks := #[], seen := seen, answer := some false }
        | .error why => M.stick { code := code2, text := t, lim := t.size, start := s, lastStart := t.size, pc := 10, pos := s, handed := s, marks := #[], seen := ({} : Seen).add 14 } why) := rfl
    rw [e2]
    cases hf : find2 t t.size (t.size + 1 - s) s with
    | none =>
      rw [hf] at ha
      obtain ⟨seen', ha⟩ := ha
      rw [ha]
      exact Ends.mono (Ends.failed rfl rfl rfl) (by omega)
    | some r =>
      obtain ⟨a, e⟩ := r
      rw [hf] at ha
      obtain ⟨⟨seen', ha⟩, h1, h2, h3⟩ := ha
      rw [ha, h3]
      exact Ends.mono (body2 t t.size a a seen' h1 h2) (by omega)
end Mine
end PartRx2

/- part Fw1 -/
section PartFw1
open PySem PySem.W PyProof.Rows
namespace Mine

/-- plain data of the program -/
inductive PV where
  | none
  | bool (b : Bool)
  | int (i : Int)
  | str (s : List Nat)
  | li (xs : List Int)
  | ls (xs : List (List Nat))
  deriving DecidableEq, Repr

def PV.flat : PV → Bool
  | .li _ => false
  | .ls _ => false
  | _ => true

def mkS (s : List Nat) : Str := ⟨s.toArray⟩

def IsI (v : Value) (i : Int) : Prop := ∃ t, v = Value.int i t
def IsS (v : Value) (s : List Nat) : Prop := ∃ t, v = Value.str (mkS s) t
abbrev IntsV (vs : List Value) (xs : List Int) : Prop := Paired IsI vs xs
abbrev StrsV (vs : List Value) (xs : List (List Nat)) : Prop := Paired IsS vs xs

/-- the value v bears the datum at the heap h -/
def VR (h : Heap) (v : Value) : PV → Prop
  | .none => v = .none
  | .bool b => v = .bool b
  | .int i => ∃ t, v = .int i t
  | .str s => ∃ t, v = .str (mkS s) t
  | .li xs => ∃ a vs, v = .ref a ∧ PlainL h a vs.toArray ∧ IntsV vs xs
  | .ls xs => ∃ a vs, v = .ref a ∧ PlainL h a vs.toArray ∧ StrsV vs xs

theorem PlainL.at {h h' : Heap} {a : Addr} {items : Array Value} (x : PlainL h a items) (hk : ∀ o, h.get? a = some o → h'.get? a = some o) : PlainL h' a items :=
  let ⟨o, n, ho, r⟩ := x; ⟨o, n, hk o ho, r⟩
theorem VR.flat {h h' : Heap} {v : Value} {p : PV} (hf : p.flat = true) (x : VR h v p) : VR h' v p := by
  cases p <;> first | exact x | cases hf
theorem VR.flat_ref {h : Heap} {a : Addr} {p : PV} (hf : p.flat = true) (x : VR h (.ref a) p) : False := by
  cases p <;> simp only [VR, PV.flat, reduceCtorEq, Bool.false_eq_true, exists_false] at x hf
theorem VR.at {h h' : Heap} {v : Value} {p : PV} (x : VR h v p) (hk : ∀ a, v = .ref a → ∀ o, h.get? a = some o → h'.get? a = some o) : VR h' v p := by
  cases p with
  | li xs => obtain ⟨a, vs, rfl, hl, hi⟩ := x; exact ⟨a, vs, rfl, PlainL.at hl (hk a rfl), hi⟩
  | ls xs => obtain ⟨a, vs, rfl, hl, hi⟩ := x; exact ⟨a, vs, rfl, PlainL.at hl (hk a rfl), hi⟩
  | _ => exact x
theorem VR.keeps {h h' : Heap} {v : Value} {p : PV} (x : VR h v p) (hk : ∀ b o, h.get? b = some o → h'.get? b = some o) : VR h' v p := x.at fun a _ => hk a
theorem VR.ref {h : Heap} {a : Addr} {p : PV} (x : VR h (.ref a) p) : ∃ items, h.IsList a items := by
  cases p <;> simp only [VR, reduceCtorEq, exists_false] at x
  · obtain ⟨b, vs, e, hl, _⟩ := x; cases e; exact ⟨_, hl.isList⟩
  · obtain ⟨b, vs, e, hl, _⟩ := x; cases e; exact ⟨_, hl.isList⟩

/-- the name x stands for v -/
def Holds (h : Heap) (env : Env) (x : Str) (v : Value) : Prop :=
  (env.kindOf x = some .local ∧ ∃ m, h.Ns env.locals m ∧ m x = some v) ∨ (env.kindOf x = some .cell ∧ ∃ c, env.cells.lookup x = some c ∧ h.IsCell c (some v))

theorem Holds.keeps {h h' : Heap} {env : Env} {x : Str} {v : Value} (H : Holds h env x v) (hk : ∀ b o, h.get? b = some o → h'.get? b = some o) : Holds h' env x v := by
  rcases H with ⟨k, m, hn, e⟩ | ⟨k, c, hc, hv⟩
  · exact .inl ⟨k, m, hn.keeps hk, e⟩
  · exact .inr ⟨k, c, hc, hv.keeps hk⟩

theorem Ns.same {h : Heap} {a : Addr} {m m' : Str → Option Value} (x : h.Ns a m) (y : h.Ns a m') : m = m' := by
  obtain ⟨o, es, ep, ho, hd, _, hf⟩ := x
  obtain ⟨o', es', ep', ho', hd', _, hf'⟩ := y
  rw [ho] at ho'; cases ho'
  rw [hd] at hd'; cases hd'
  funext k; rw [← hf, ← hf']

theorem Holds.same {h : Heap} {env : Env} {x : Str} {v v' : Value} (H : Holds h env x v) (H' : Holds h env x v') : v = v' := by
  rcases H with ⟨k, m, hn, e⟩ | ⟨k, c, hc, hv⟩ <;> rcases H' with ⟨k', m', hn', e'⟩ | ⟨k', c', hc', hv'⟩
  · rw [Ns.same hn hn', e'] at e; cases e; rfl
  · rw [k] at k'; cases k'
  · rw [k] at k'; cases k'
  · rw [hc] at hc'; cases hc'
    obtain ⟨o, ho, hd⟩ := hv
    obtain ⟨o', ho', hd'⟩ := hv'
    rw [ho] at ho'; cases ho'
    rw [hd] at hd'; cases hd'; rfl

structure EnvIs (sc : Scope) (env : Env) : Prop where
  scope : env.scope = sc
  kind : sc.kind = .function
  globals : env.globals = mainGlobals
  builtins : env.builtins = builtinsNs

theorem EnvIs.kindOf {sc : Scope} {env : Env} (e : EnvIs sc env) (x : Str) : env.kindOf x = sc.names.lookup x := by
  show env.scope.names.lookup x = _; rw [e.scope]

def AOk (A : Around) (n : Nat) : Prop := A.handled = none ∧ A.depth + n ≤ 900 ∧ A.units + 3 * n ≤ 9000

abbrev REnv := List (Option PV)
abbrev Kept := Addr → Option Obj

/-- the frame at hand: b is what must stand, ρ the variables' data -/
structure FR (Tp : Heap → Prop) (vars : List Str) (own : List Nat) (ex : List (Str × Addr)) (env : Env) (b : Kept) (s0 s : Shared) (ρ : REnv) : Prop where
  top : ∃ hT, Tp hT ∧ ∀ a o, hT.get? a = some o → b a = some o
  keep : ∀ a o, b a = some o → s.heap.get? a = some o
  gens : s.gens = s0.gens
  os : s.os = s0.os
  drawn : s.drawn = s0.drawn
  len : ρ.length = vars.length
  nodup : vars.Nodup
  slot : ∀ (i : Nat) x, vars[i]? = some x → env.kindOf x = some .local ∨ (env.kindOf x = some .cell ∧ ∃ c, env.cells.lookup x = some c)
  locB : b env.locals = none
  cellB : ∀ x c, env.cells.lookup x = some c → b c = none
  cellsApart : ∀ x y c, env.cells.lookup x = some c → env.cells.lookup y = some c → x = y
  ns : ∃ m, s.heap.Ns env.locals m
  cells : ∀ x c, env.cells.lookup x = some c → ∃ ov, s.heap.IsCell c ov
  vals : ∀ (i : Nat) x pv, vars[i]? = some x → ρ[i]? = some (some pv) → ∃ v, Holds s.heap env x v ∧ VR s.heap v pv ∧ ((i ∈ own → ∀ a, v = .ref a → b a = none) ∧ (i ∉ own → ∀ a, v = .ref a → ∃ o, b a = some o))
  apart : ∀ (i j : Nat) x y pv pw a, i ∈ own → j ∈ own → vars[i]? = some x → vars[j]? = some y → ρ[i]? = some (some pv) → ρ[j]? = some (some pw) → Holds s.heap env x (.ref a) → Holds s.heap env y (.ref a) → i = j
  ext : ∀ x a, (x, a) ∈ ex → x ∉ vars ∧ Holds s.heap env x (.ref a)

theorem FR.keeps {Tp : Heap → Prop} {vars : List Str} {own : List Nat} {ex : List (Str × Addr)} {env : Env} {b : Kept} {s0 s s' : Shared} {ρ : REnv} (F : FR Tp vars own ex env b s0 s ρ) (k : Keeps s s') : FR Tp vars own ex env b s0 s' ρ := by
  obtain ⟨h', tk, rfl, hk⟩ := k
  refine ⟨F.top, fun a o e => hk _ _ (F.keep a o e), F.gens, F.os, F.drawn, F.len, F.nodup, F.slot, F.locB, F.cellB, F.cellsApart, let ⟨m, hm⟩ := F.ns; ⟨m, hm.keeps hk⟩, fun x c e => let ⟨ov, ho⟩ := F.cells x c e; ⟨ov, ho.keeps hk⟩, fun i x pv hx hp => ?_, fun i j x y pv pw a hio hjo hx hy hp hq H1 H2 => ?_, fun x a hm => ⟨(F.ext x a hm).1, (F.ext x a hm).2.keeps hk⟩⟩
  · obtain ⟨v, H, R, o⟩ := F.vals i x pv hx hp
    exact ⟨v, H.keeps hk, R.keeps hk, o⟩
  · obtain ⟨v, H, R, o⟩ := F.vals i x pv hx hp
    obtain ⟨v', H', R', o'⟩ := F.vals j y pw hy hq
    have e1 := (H.keeps hk).same H1
    have e2 := (H'.keeps hk).same H2
    subst e1; subst e2
    exact F.apart i j x y pv pw a hio hjo hx hy hp hq H H'

theorem Keeps.refl (s : Shared) : Keeps s s := ⟨s.heap, s.toks, rfl, fun _ _ e => e⟩
theorem Keeps.trans {s s' s'' : Shared} (x : Keeps s s') (y : Keeps s' s'') : Keeps s s'' := by
  obtain ⟨h, t, rfl, k⟩ := x
  obtain ⟨h', t', rfl, k'⟩ := y
  exact ⟨h', t', rfl, fun b o e => k' b o (k b o e)⟩
theorem Keeps.get {s s' : Shared} (x : Keeps s s') {b : Addr} {o : Obj} (e : s.heap.get? b = some o) : s'.heap.get? b = some o := by
  obtain ⟨h, t, rfl, k⟩ := x; exact k b o e
theorem Keeps.tok {s s' : Shared} (x : Keeps s s') (t : Nat) : Keeps s { s' with toks := t } := by
  obtain ⟨h, t', rfl, k⟩ := x; exact ⟨h, t, rfl, k⟩
theorem Keeps.push {s s' : Shared} (x : Keeps s s') (o : Obj) : Keeps s { s' with heap := s'.heap.push o } := by
  obtain ⟨h, t', rfl, k⟩ := x; exact ⟨_, t', rfl, fun b o' e => Heap.get?_push_of_some _ (k b o' e)⟩

end Mine
end PartFw1

/- part Fw2 -/
section PartFw2
open PySem PySem.W PyProof.Rows
namespace Mine

section
variable {prog : Program} {w : World}

/-- a step of the machine that yields a datum and makes things only -/
def Gives1 (prog : Program) (w : World) (n : Nat) (t : Sem Value) (s : Shared) (pv : PV) : Prop :=
  ∀ (A : Around) (E : Value → Shared → Prop) (Q : Value → Shared → Prop), AOk A n →
    (∀ v s', Keeps s s' → VR s'.heap v pv → (∀ a, v = .ref a → s.heap.get? a = none) → Q v s') → wpAny (model prog w) A t Q E s

theorem fresh_size {h : Heap} {a : Addr} (ha : h.objs.size ≤ a) : h.get? a = none := by
  cases e : h.get? a with
  | none => rfl
  | some o => exact absurd (Heap.lt_size e) (Nat.not_lt.mpr ha)

theorem keeps_tok (s : Shared) (t : Nat) : Keeps s { s with toks := t } := ⟨s.heap, t, rfl, fun _ _ e => e⟩
theorem keeps_push (s : Shared) (o : Obj) : Keeps s { s with heap := s.heap.push o } := ⟨_, s.toks, rfl, fun _ _ e => Heap.get?_push_of_some _ e⟩
theorem isList_new (h : Heap) (items : Array Value) : PlainL (h.push { cls := .type "list", data := .seq items }) h.objs.size items := ⟨_, 0, Heap.get?_push_size _ rfl, rfl, rfl, rfl⟩

theorem no_ref_int {i : Int} {t : Tok} {P : Addr → Prop} : ∀ a, Value.int i t = .ref a → P a := fun _ e => nomatch e
theorem no_ref_str {i : Str} {t : Tok} {P : Addr → Prop} : ∀ a, Value.str i t = .ref a → P a := fun _ e => nomatch e
theorem no_ref_bool {i : Bool} {P : Addr → Prop} : ∀ a, Value.bool i = .ref a → P a := fun _ e => nomatch e
theorem no_ref_none {P : Addr → Prop} : ∀ a, Value.none = .ref a → P a := fun _ e => nomatch e

theorem sizeLine_big {n : Nat} (h : n ≤ 100000) : n ≤ sizeLine := Nat.le_trans h (by decide)

def cap : Nat := 100000


def pyBin : Operator → PV → PV → Option PV
  | .Add, .int a, .int b => some (.int (a + b))
  | .Add, .str a, .str b => if a.length + b.length ≤ cap then some (.str (a ++ b)) else none
  | .Add, .li a, .li b => if a.length + b.length ≤ cap then some (.li (a ++ b)) else none
  | .Add, .ls a, .ls b => if a.length + b.length ≤ cap then some (.ls (a ++ b)) else none
  | .Sub, .int a, .int b => some (.int (a - b))
  | .Sub, .bool a, .bool b => some (.int (b2i a - b2i b))
  | .Mult, .int a, .int b => if a.natAbs < 2 ^ 32 then some (.int (a * b)) else none
  | .Mult, .str a, .int n => if n = 0 then some (.str []) else if n = 1 then some (.str a) else none
  | .Mult, .li a, .int n => if 0 ≤ n ∧ n ≤ 1000 ∧ a.length ≤ 10 then some (.li ((List.replicate n.toNat a).flatten)) else none
  | .Mod, .int a, .int b => if b = 0 then none else some (.int (a.fmod b))
  | .FloorDiv, .int a, .int b => if b = 0 ∨ 1073741824 ≤ b.natAbs then none else some (.int (a.fdiv b))
  | .Pow, .int a, .int b => if 0 ≤ b ∧ b ≤ 1000 ∧ a.natAbs < 2 ^ 64 then some (.int (a ^ b.toNat)) else none
  | .LShift, .int a, .int b => if 0 ≤ b ∧ b ≤ 1000 ∧ a.natAbs < 2 ^ 64 then some (.int (a * 2 ^ b.toNat)) else none
  | .BitAnd, .int a, .int b => some (.int (Builtin.bitAnd a b))
  | .BitOr, .int a, .int b => some (.int (Builtin.bitOr a b))
  | .BitXor, .int a, .int b => some (.int (Builtin.bitXor a b))
  | _, _, _ => none

theorem gives_int {n : Nat} {t : Sem Value} {s : Shared} {i : Int} (h : ∀ (A : Around) (E : Value → Shared → Prop) (Q : Value → Shared → Prop), AOk A n → (Q (.int i s.toks) { s with toks := s.toks + 1 }) → wpAny (model prog w) A t Q E s) :
    Gives1 prog w n t s (.int i) := fun A E Q hA hQ => h A E Q hA (hQ _ _ (keeps_tok s _) ⟨_, rfl⟩ no_ref_int)

theorem mkS_length (a : List Nat) : (mkS a).length = a.length := by simp [mkS, Str.length]
theorem mkS_append (a b : List Nat) : mkS a ++ mkS b = mkS (a ++ b) := by
  show Str.mk _ = _
  simp [mkS]

theorem gives_add_str (n : Nat) (s : Shared) (a b : List Nat) (t u : Tok) (hc : a.length + b.length ≤ cap) : Gives1 prog w n (binaryOp .Add (.str (mkS a) t) (.str (mkS b) u)) s (.str (a ++ b)) := fun A E Q hA hQ => by
  refine P.add_str ?_
  rw [mkS_length, mkS_length]
  cases a with
  | nil => exact hQ _ _ (Keeps.refl s) ⟨_, rfl⟩ no_ref_str
  | cons x a =>
    cases b with
    | nil => exact hQ _ _ (Keeps.refl s) ⟨_, by rw [List.append_nil]⟩ no_ref_str
    | cons y b =>
      refine ⟨?_, ?_⟩
      · rw [mkS_append, mkS_length, List.length_append]; exact sizeLine_big hc
      · rw [mkS_append]; exact hQ _ _ (keeps_tok s _) ⟨_, rfl⟩ no_ref_str

theorem gives_add_lists (n : Nat) (s : Shared) {l b : Addr} {vs ws : List Value} (pv : PV) (hl : s.heap.IsList l vs.toArray) (hb : s.heap.IsList b ws.toArray) (hc : vs.length + ws.length ≤ cap)
    (hp : ∀ h a, PlainL h a (vs ++ ws).toArray → VR h (.ref a) pv) : Gives1 prog w n (binaryOp .Add (.ref l) (.ref b)) s pv := fun A E Q hA hQ => by
  obtain ⟨⟨cls, dd, data, sl⟩, ho, hc1, n1, hd⟩ := id hl
  obtain ⟨⟨cls2, dd2, data2, sl2⟩, ho2, hc2, n2, hd2⟩ := id hb
  simp only at hc1 hd hc2 hd2
  subst hc1 hd hc2 hd2
  have e : vs.toArray ++ ws.toArray = (vs ++ ws).toArray := by simp
  refine concat_meets ⟨_, ho, rfl⟩ ⟨_, ho2, rfl⟩ noFill_list_add seq_list_add PySem.F.slot_list_add PySem.F.entry_list_add (PySem.F.args_list_add_2 _ _) (list_addW l b vs.toArray ws.toArray n1 n2 dd dd2 sl sl2 (by simpa using sizeLine_big hc)) ⟨ho, ho2, ?_⟩
  rw [e]
  exact hQ _ _ (keeps_push s _) (hp _ _ (isList_new _ _)) fun a e => by cases e; exact fresh_size (Nat.le_refl _)

theorem Paired.append {α β : Type} {F : α → β → Prop} {a c : List α} {b d : List β} (h : Paired F a b) (h' : Paired F c d) : Paired F (a ++ c) (b ++ d) := by
  induction h with
  | nil => exact h'
  | cons x _ ih => exact .cons x ih
theorem Paired.flat_replicate {α β : Type} {F : α → β → Prop} {l₁ : List α} {l₂ : List β} (h : Paired F l₁ l₂) : ∀ n, Paired F (List.replicate n l₁).flatten (List.replicate n l₂).flatten
  | 0 => .nil
  | n + 1 => by
    rw [List.replicate_succ, List.replicate_succ, List.flatten_cons, List.flatten_cons]
    exact Mine.Paired.append h (Mine.Paired.flat_replicate h n)

theorem gives_mul_list (n : Nat) (s : Shared) {l : Addr} {vs : List Value} {xs : List Int} {x : Int} {u : Tok} (hl : s.heap.IsList l vs.toArray) (hi : IntsV vs xs) (h0 : 0 ≤ x) (h1 : x ≤ 1000) (h2 : xs.length ≤ 10) :
    Gives1 prog w n (binaryOp .Mult (.ref l) (.int x u)) s (.li (List.replicate x.toNat xs).flatten) := fun A E Q hA hQ => by
  obtain ⟨⟨cls, d, data, sl⟩, ho, hcl, k, hd⟩ := id hl
  simp only at hcl hd
  subst hcl hd
  have h2' : vs.length ≤ 10 := hi.length ▸ h2
  have hsz' : vs.toArray.size * x.toNat ≤ 2 ^ 24 := Nat.le_trans (Nat.mul_le_mul (by simpa using h2') (by omega : x.toNat ≤ 1000)) (by decide)
  refine wpAny_binaryOp_repeat_ref (T := "list") (U := "int") (by decide) ⟨_, ho, rfl⟩ (fun s' => typeIs_int s' x u) noFill_list_mul F.fills_int_mul F.slot_int_rmul repeat_list F.slot_int_index.lookup
    (call_meets F.slot_int_rmul (typeIs_int s x u) F.entry_int_rmul (F.args_int_rmul_2 _ _) (lm_int_rmul_list_any x u l vs.toArray k d sl)
      ⟨ho, rfl, ⟨_, ho, rfl⟩, call_meets F.slot_list_mul ⟨_, ho, rfl⟩ F.entry_list_mul (F.args_list_mul_2 _ _)
        (lm_list_mul_any l vs.toArray k d sl x u (by simp [Builtin.List.listFitsIndex]; omega) (by omega) (by simp [Builtin.List.listTooLong, sizeLine]; omega))
        ⟨ho, ?_⟩⟩)
  rw [listMul_foldl_if]
  exact hQ _ _ (keeps_push s _) ⟨_, _, rfl, isList_new _ _, Mine.Paired.flat_replicate hi _⟩ fun a e => by cases e; exact fresh_size (Nat.le_refl _)

theorem binOk {op : Operator} {pa pb pv : PV} (hop : pyBin op pa pb = some pv) {n : Nat} {s : Shared} {a b : Value} (ha : VR s.heap a pa) (hb : VR s.heap b pb) :
    Gives1 prog w n (binaryOp op a b) s pv := by
  unfold pyBin at hop
  split at hop
  case h_1 => cases hop; obtain ⟨t, rfl⟩ := ha; obtain ⟨u, rfl⟩ := hb; exact gives_int fun A E Q hA h => add_int h
  case h_2 =>
    split at hop <;> cases hop
    obtain ⟨t, rfl⟩ := ha; obtain ⟨u, rfl⟩ := hb
    exact gives_add_str n s _ _ t u (by assumption)
  case h_3 =>
    split at hop <;> cases hop
    obtain ⟨l, vs, rfl, hl, hi⟩ := ha; obtain ⟨l', vs', rfl, hl', hi'⟩ := hb
    exact gives_add_lists n s _ hl.isList hl'.isList (by rw [hi.length, hi'.length]; assumption) fun h a x => ⟨a, _, rfl, x, Mine.Paired.append hi hi'⟩
  case h_4 =>
    split at hop <;> cases hop
    obtain ⟨l, vs, rfl, hl, hi⟩ := ha; obtain ⟨l', vs', rfl, hl', hi'⟩ := hb
    exact gives_add_lists n s _ hl.isList hl'.isList (by rw [hi.length, hi'.length]; assumption) fun h a x => ⟨a, _, rfl, x, Mine.Paired.append hi hi'⟩
  case h_5 => cases hop; obtain ⟨t, rfl⟩ := ha; obtain ⟨u, rfl⟩ := hb; exact gives_int fun A E Q hA h => sub_int h
  case h_6 => cases hop; cases ha; cases hb; exact gives_int fun A E Q hA h => sub_bool h
  case h_7 =>
    split at hop <;> cases hop
    obtain ⟨t, rfl⟩ := ha; obtain ⟨u, rfl⟩ := hb
    exact gives_int fun A E Q hA h => mul_int (hm := .of_left (intBits_le_64 (by omega) (by omega))) h
  case h_8 =>
    obtain ⟨t, rfl⟩ := ha; obtain ⟨u, rfl⟩ := hb
    rename_i x k
    split at hop
    · rename_i e; subst e; cases hop
      exact fun A E Q hA hQ => SB.mul ⟨by decide, fun h => absurd (by decide) h, fun h => absurd (by decide) h⟩ fun t' k => hQ _ _ (keeps_tok s _) ⟨t', rfl⟩ no_ref_str
    · split at hop <;> cases hop
      rename_i e; subst e
      exact fun A E Q hA hQ => SB.mul ⟨by decide, fun _ h => by simp at h, fun _ h => by simp at h⟩ fun t' k => hQ _ _ (keeps_tok s _) ⟨t', rfl⟩ no_ref_str
  case h_9 =>
    split at hop <;> cases hop
    obtain ⟨l, vs, rfl, hl, hi⟩ := ha; obtain ⟨u, rfl⟩ := hb
    rename_i h
    exact gives_mul_list n s hl.isList hi h.1 h.2.1 h.2.2
  case h_10 =>
    split at hop <;> cases hop
    obtain ⟨t, rfl⟩ := ha; obtain ⟨u, rfl⟩ := hb
    exact gives_int fun A E Q hA h => mod_int' (by assumption) h
  case h_11 =>
    split at hop <;> cases hop
    obtain ⟨t, rfl⟩ := ha; obtain ⟨u, rfl⟩ := hb
    rename_i hn
    exact gives_int fun A E Q hA h => floordiv_int (fun e => hn (.inl e)) h (.inl (PyProof.noPylong_small (by omega)))
  case h_12 =>
    split at hop <;> cases hop
    obtain ⟨t, rfl⟩ := ha; obtain ⟨u, rfl⟩ := hb
    rename_i hn
    exact gives_int fun A E Q hA h => pow_int_small hn.1 (by omega) hn.2.2 h
  case h_13 =>
    split at hop <;> cases hop
    obtain ⟨t, rfl⟩ := ha; obtain ⟨u, rfl⟩ := hb
    rename_i hn
    exact gives_int fun A E Q hA h => lshift_int_small hn.1 (by omega) hn.2.2 h
  case h_14 => cases hop; obtain ⟨t, rfl⟩ := ha; obtain ⟨u, rfl⟩ := hb; exact gives_int fun A E Q hA h => and_int h
  case h_15 => cases hop; obtain ⟨t, rfl⟩ := ha; obtain ⟨u, rfl⟩ := hb; exact gives_int fun A E Q hA h => or_int h
  case h_16 => cases hop; obtain ⟨t, rfl⟩ := ha; obtain ⟨u, rfl⟩ := hb; exact gives_int fun A E Q hA h => xor_int h
  case h_17 => cases hop

def pyAug : Operator → PV → PV → Option PV
  | .Add, .int a, .int b => some (.int (a + b))
  | .FloorDiv, .int a, .int b => if b = 0 ∨ 1073741824 ≤ b.natAbs then none else some (.int (a.fdiv b))
  | .LShift, .int a, .int b => if 0 ≤ b ∧ b ≤ 1000 ∧ a.natAbs < 2 ^ 64 then some (.int (a * 2 ^ b.toNat)) else none
  | .BitOr, .int a, .int b => some (.int (Builtin.bitOr a b))
  | .BitXor, .int a, .int b => some (.int (Builtin.bitXor a b))
  | _, _, _ => none

theorem augOk {op : Operator} {pa pb pv : PV} (hop : pyAug op pa pb = some pv) {n : Nat} {s : Shared} {a b : Value} (ha : VR s.heap a pa) (hb : VR s.heap b pb) :
    Gives1 prog w n (inplaceOp op a b) s pv := by
  unfold pyAug at hop
  split at hop
  case h_1 => cases hop; obtain ⟨t, rfl⟩ := ha; obtain ⟨u, rfl⟩ := hb; exact gives_int fun A E Q hA h => iadd_int h
  case h_2 =>
    split at hop <;> cases hop
    obtain ⟨t, rfl⟩ := ha; obtain ⟨u, rfl⟩ := hb
    rename_i hn
    exact gives_int fun A E Q hA h => ifloordiv_int (fun e => hn (.inl e)) h (.inl (PyProof.noPylong_small (by omega)))
  case h_3 =>
    split at hop <;> cases hop
    obtain ⟨t, rfl⟩ := ha; obtain ⟨u, rfl⟩ := hb
    rename_i hn
    exact gives_int fun A E Q hA h => ilshift_int_small hn.1 (by omega) hn.2.2 h
  case h_4 => cases hop; obtain ⟨t, rfl⟩ := ha; obtain ⟨u, rfl⟩ := hb; exact gives_int fun A E Q hA h => ior_int h
  case h_5 => cases hop; obtain ⟨t, rfl⟩ := ha; obtain ⟨u, rfl⟩ := hb; exact gives_int fun A E Q hA h => ixor_int h
  case h_6 => cases hop

end
end Mine
end PartFw2

/- part Fw3 -/
section PartFw3
open PySem PySem.W PyProof.Rows PySem.SeqAt
namespace Mine

section
variable {prog : Program} {w : World}

/-- a test that yields a bool and makes things only -/
def GivesB (prog : Program) (w : World) (n : Nat) (op : CmpOp) (a b : Value) (s : Shared) (k : Bool) : Prop :=
  ∀ (A : Around) (E : Value → Shared → Prop) (Q : Value → Shared → Prop), AOk A n → Q (.bool k) s → wpAny (model prog w) A (compareOp op a b) Q E s

theorem mkS_inj {a b : List Nat} : mkS a = mkS b ↔ a = b := by
  constructor
  · intro h; simpa [mkS] using h
  · rintro rfl; rfl
theorem mkS_beq (a b : List Nat) : (mkS a == mkS b) = (a == b) := (str_beq (mkS a) (mkS b)).symm
theorem mkS_cps (a : List Nat) : (mkS a).cps.toList = a := rfl

theorem AOk.lt {A : Around} {n : Nat} (h : AOk A n) : A.units < cLine := by have := h.2.2; have : cLine = 9900 := rfl; omega
theorem AOk.lt64 {A : Around} {n : Nat} (h : AOk A n) : A.units + 64 < cLine := by have := h.2.2; have : cLine = 9900 := rfl; omega

theorem Paired.get {α β : Type} {F : α → β → Prop} : ∀ {l₁ : List α} {l₂ : List β}, Paired F l₁ l₂ → ∀ {j : Nat} {b : β}, l₂[j]? = some b → ∃ a, l₁[j]? = some a ∧ F a b
  | _, _, .cons h t, 0, b, e => by cases e; exact ⟨_, rfl, h⟩
  | _, _, .cons h t, j + 1, b, e => Mine.Paired.get t (by simpa using e)
theorem Paired.get' {α β : Type} {F : α → β → Prop} : ∀ {l₁ : List α} {l₂ : List β}, Paired F l₁ l₂ → ∀ {j : Nat} {a : α}, l₁[j]? = some a → ∃ b, l₂[j]? = some b ∧ F a b
  | _, _, .cons h t, 0, b, e => by cases e; exact ⟨_, rfl, h⟩
  | _, _, .cons h t, j + 1, b, e => Mine.Paired.get' t (by simpa using e)

theorem all_range_eq {α : Type} [BEq α] [LawfulBEq α] (xs ys : List α) (h : xs.length = ys.length) : ((List.range xs.length).all fun j => xs[j]? == ys[j]?) = (xs == ys) := by
  by_cases e : xs = ys
  · subst e; simp
  · rw [beq_false_of_ne e, List.all_eq_false]
    apply Classical.byContradiction
    intro hn
    apply e
    refine List.ext_getElem? fun j => ?_
    by_cases hj : j < xs.length
    · apply Classical.byContradiction
      intro hne
      exact hn ⟨j, by simp [hj], by simpa using hne⟩
    · rw [List.getElem?_eq_none (by omega), List.getElem?_eq_none (by omega)]

theorem eqAt_II {A : Around} {s : Shared} {v u : Value} {a b : Int} (hv : IsI v a) (hu : IsI u b) : EqAt A s v u (a == b) := by
  obtain ⟨t, rfl⟩ := hv; obtain ⟨t', rfl⟩ := hu; exact EqAt.int_int a t b t'
theorem eqAt_SS {A : Around} {s : Shared} {v u : Value} {a b : List Nat} (hv : IsS v a) (hu : IsS u b) : EqAt A s v u (a == b) := by
  obtain ⟨t, rfl⟩ := hv; obtain ⟨t', rfl⟩ := hu; rw [← mkS_beq]; exact EqAt.str_str _ t _ t'

theorem eq_lists {α : Type} [BEq α] [LawfulBEq α] {R : Value → α → Prop} (hR : ∀ (A : Around) (s : Shared) v u a b, R v a → R u b → EqAt A s v u (a == b))
    {n : Nat} {s : Shared} {l b : Addr} {vs us : List Value} {xs ys : List α} (hl : s.heap.IsList l vs.toArray) (hb : s.heap.IsList b us.toArray) (hi : Paired R vs xs) (hj : Paired R us ys) :
    GivesB prog w n .Eq (.ref l) (.ref b) s (xs == ys) ∧ GivesB prog w n .NotEq (.ref l) (.ref b) s (!(xs == ys)) := by
  have e1 := hi.length
  have e2 := hj.length
  by_cases hc : xs.length = ys.length
  · have hsz : vs.toArray.size = us.toArray.size := by simp; omega
    have he : ∀ A : Around, ∀ j (h1 : j < vs.toArray.size) (h2 : j < us.toArray.size), EqAt A.in1 s vs.toArray[j] us.toArray[j] (xs[j]? == ys[j]?) := fun A j h1 h2 => by
      have h1' : j < vs.length := by simpa using h1
      have h2' : j < us.length := by simpa using h2
      obtain ⟨a, ha, hra⟩ := Mine.Paired.get' hi (List.getElem?_eq_getElem h1')
      obtain ⟨c, hc, hrc⟩ := Mine.Paired.get' hj (List.getElem?_eq_getElem h2')
      rw [ha, hc]
      have := hR A.in1 s _ _ _ _ hra hrc
      simpa using this
    have hall : ((List.range vs.toArray.size).all fun j => xs[j]? == ys[j]?) = (xs == ys) := by
      have : vs.toArray.size = xs.length := by simpa using e1
      rw [this]; exact all_range_eq xs ys hc
    refine ⟨fun A E Q hA hQ => ?_, fun A E Q hA hQ => ?_⟩
    · exact eq_listAt hl hb hsz hA.lt (he A) (by rw [hall]; exact hQ)
    · exact RcNeAt.lists hl hb hsz hA.lt (he A) prog w E Q (by rw [hall]; exact hQ)
  · have hne : (xs == ys) = false := beq_false_of_ne fun e => hc (by rw [e])
    have hsz : (vs.toArray.size != us.toArray.size) = true := by simp; omega
    rw [hne]
    exact ⟨fun A E Q hA hQ => eq_list_lengthsAt hl hb hsz hA.lt hQ, fun A E Q hA hQ => RcNeAt.lists_lengths hl hb hsz hA.lt prog w E Q hQ⟩

def itemIs (x : PV) (v : Value) : Bool := match v, x with
  | .int i _, .int j => i == j
  | .str a _, .str b => a.cps.toList == b
  | _, _ => false

theorem any_ints (j : Int) : ∀ {vs : List Value} {xs : List Int}, IntsV vs xs → vs.any (itemIs (.int j)) = xs.contains j
  | _, _, .nil => rfl
  | _, _, .cons ⟨t, e⟩ r => by
    subst e
    rw [List.any_cons, any_ints j r, List.contains_cons]
    congr 1
    simp [itemIs, Bool.beq_comm]
theorem any_strs (j : List Nat) : ∀ {vs : List Value} {xs : List (List Nat)}, StrsV vs xs → vs.any (itemIs (.str j)) = xs.contains j
  | _, _, .nil => rfl
  | _, _, .cons ⟨t, e⟩ r => by
    subst e
    rw [List.any_cons, any_strs j r, List.contains_cons]
    congr 1
    simp [itemIs, mkS, Bool.beq_comm]

theorem Paired.mem {α β : Type} {F : α → β → Prop} : ∀ {l₁ : List α} {l₂ : List β}, Paired F l₁ l₂ → ∀ a ∈ l₁, ∃ b ∈ l₂, F a b
  | _, _, .cons h t, a, hm => by
    rcases List.mem_cons.mp hm with rfl | hm
    · exact ⟨_, List.mem_cons_self, h⟩
    · obtain ⟨b, hb, hf⟩ := Mine.Paired.mem t a hm; exact ⟨b, List.mem_cons_of_mem _ hb, hf⟩

theorem in_ints {n : Nat} {s : Shared} {l : Addr} {vs : List Value} {xs : List Int} {j : Int} {t : Tok} (hl : s.heap.IsList l vs.toArray) (hi : IntsV vs xs) :
    GivesB prog w n .In (.int j t) (.ref l) s (xs.contains j) ∧ GivesB prog w n .NotIn (.int j t) (.ref l) s (!xs.contains j) := by
  have he : ∀ A : Around, ∀ y, y ∈ vs.toArray → EqAt A.in1 s y (.int j t) (itemIs (.int j) y) := fun A y hy => by
    obtain ⟨b, _, t', e⟩ := Mine.Paired.mem hi y (by simpa using hy)
    subst e
    exact EqAt.int_int _ _ _ _
  have ha : vs.toArray.any (itemIs (.int j)) = xs.contains j := by rw [List.any_toArray]; exact any_ints j hi
  exact ⟨fun A E Q hA hQ => in_listAt _ hl (he A) (by rw [ha]; exact hQ), fun A E Q hA hQ => notIn_listAt _ hl (he A) (by rw [ha]; exact hQ)⟩
theorem in_strs {n : Nat} {s : Shared} {l : Addr} {vs : List Value} {xs : List (List Nat)} {j : List Nat} {t : Tok} (hl : s.heap.IsList l vs.toArray) (hi : StrsV vs xs) :
    GivesB prog w n .In (.str (mkS j) t) (.ref l) s (xs.contains j) ∧ GivesB prog w n .NotIn (.str (mkS j) t) (.ref l) s (!xs.contains j) := by
  have he : ∀ A : Around, ∀ y, y ∈ vs.toArray → EqAt A.in1 s y (.str (mkS j) t) (itemIs (.str j) y) := fun A y hy => by
    obtain ⟨b, _, t', e⟩ := Mine.Paired.mem hi y (by simpa using hy)
    subst e
    exact eqAt_SS ⟨_, rfl⟩ ⟨_, rfl⟩
  have ha : vs.toArray.any (itemIs (.str j)) = xs.contains j := by rw [List.any_toArray]; exact any_strs j hi
  exact ⟨fun A E Q hA hQ => in_listAt _ hl (he A) (by rw [ha]; exact hQ), fun A E Q hA hQ => notIn_listAt _ hl (he A) (by rw [ha]; exact hQ)⟩

def pyCmp : CmpOp → PV → PV → Option Bool
  | .Eq, .int a, .int b => some (a == b)
  | .Eq, .li a, .li b => some (a == b)
  | .Eq, .ls a, .ls b => some (a == b)
  | .NotEq, .int a, .int b => some (a != b)
  | .NotEq, .li a, .li b => some (!(a == b))
  | .NotEq, .ls a, .ls b => some (!(a == b))
  | .Eq, .str a, .str b => some (a == b)
  | .Lt, .int a, .int b => some (decide (a < b))
  | .Gt, .int a, .int b => some (decide (b < a))
  | .Lt, .str a, .str b => some (decide (a < b))
  | .Gt, .str a, .str b => some (decide (b < a))
  | .In, .int a, .li b => some (b.contains a)
  | .NotIn, .int a, .li b => some (!b.contains a)
  | .NotIn, .str a, .ls b => some (!b.contains a)
  | _, _, _ => none

theorem cmpOk {op : CmpOp} {pa pb : PV} {k : Bool} (hop : pyCmp op pa pb = some k) {n : Nat} {s : Shared} {a b : Value} (ha : VR s.heap a pa) (hb : VR s.heap b pb) : GivesB prog w n op a b s k := by
  unfold pyCmp at hop
  split at hop <;> cases hop
  case h_1 => obtain ⟨t, rfl⟩ := ha; obtain ⟨u, rfl⟩ := hb; exact fun A E Q hA h => eq_int h
  case h_2 => obtain ⟨l, vs, rfl, hl, hi⟩ := ha; obtain ⟨l', vs', rfl, hl', hi'⟩ := hb; exact (eq_lists (fun _ _ _ _ _ _ => eqAt_II) hl.isList hl'.isList hi hi').1
  case h_3 => obtain ⟨l, vs, rfl, hl, hi⟩ := ha; obtain ⟨l', vs', rfl, hl', hi'⟩ := hb; exact (eq_lists (fun _ _ _ _ _ _ => eqAt_SS) hl.isList hl'.isList hi hi').1
  case h_4 => obtain ⟨t, rfl⟩ := ha; obtain ⟨u, rfl⟩ := hb; exact fun A E Q hA h => ne_int h
  case h_5 => obtain ⟨l, vs, rfl, hl, hi⟩ := ha; obtain ⟨l', vs', rfl, hl', hi'⟩ := hb; exact (eq_lists (fun _ _ _ _ _ _ => eqAt_II) hl.isList hl'.isList hi hi').2
  case h_6 => obtain ⟨l, vs, rfl, hl, hi⟩ := ha; obtain ⟨l', vs', rfl, hl', hi'⟩ := hb; exact (eq_lists (fun _ _ _ _ _ _ => eqAt_SS) hl.isList hl'.isList hi hi').2
  case h_7 => obtain ⟨t, rfl⟩ := ha; obtain ⟨u, rfl⟩ := hb; exact fun A E Q hA h => P.eq_str h
  case h_8 => obtain ⟨t, rfl⟩ := ha; obtain ⟨u, rfl⟩ := hb; exact fun A E Q hA h => lt_int h
  case h_9 => obtain ⟨t, rfl⟩ := ha; obtain ⟨u, rfl⟩ := hb; exact fun A E Q hA h => gt_int h
  case h_10 => obtain ⟨t, rfl⟩ := ha; obtain ⟨u, rfl⟩ := hb; exact fun A E Q hA h => P.lt_str h
  case h_11 => obtain ⟨t, rfl⟩ := ha; obtain ⟨u, rfl⟩ := hb; exact fun A E Q hA h => P.gt_str h
  case h_12 => obtain ⟨t, rfl⟩ := ha; obtain ⟨l', vs', rfl, hl', hi'⟩ := hb; exact (in_ints hl'.isList hi').1
  case h_13 => obtain ⟨t, rfl⟩ := ha; obtain ⟨l', vs', rfl, hl', hi'⟩ := hb; exact (in_ints hl'.isList hi').2
  case h_14 => obtain ⟨t, rfl⟩ := ha; obtain ⟨l', vs', rfl, hl', hi'⟩ := hb; exact (in_strs hl'.isList hi').2

def pyTruth : PV → Option Bool
  | .bool b => some b
  | .int i => some (i != 0)
  | _ => none

theorem truthOk {pa : PV} {k : Bool} (h : pyTruth pa = some k) {s : Shared} {a : Value} {A : Around} {E : Value → Shared → Prop} {Q : Bool → Shared → Prop} (ha : VR s.heap a pa) (hQ : Q k s) : wpAny (model prog w) A (truthy a) Q E s := by
  unfold pyTruth at h
  split at h <;> cases h
  · cases ha; exact wpAny_truthy_bool hQ
  · obtain ⟨t, rfl⟩ := ha; exact P.truthy_int hQ

end
end Mine
end PartFw3

/- part Fw4 -/
section PartFw4
open PySem PySem.W PyProof.Rows PySem.SeqAt
namespace Mine

section
variable {prog : Program} {w : World}

def pickIx (lo hi : Option Int) (n : Nat) : List Nat := Builtin.Str.strSliceIndices lo hi 1 n
def pick {α : Type} (lo hi : Option Int) (xs : List α) : List α := (pickIx lo hi xs.length).filterMap (xs[·]?)

def clipN (v : Option Int) (d n : Nat) : Nat := match v with
  | none => d
  | some i => (max 0 (min (if i < 0 then i + (n : Int) else i) (n : Int))).toNat

theorem run_filterMap {α : Type} (xs : List α) (a : Nat) : ∀ c : Nat, ((List.range c).map fun k => a + k).filterMap (xs[·]?) = (xs.drop a).take c
  | 0 => by simp
  | c + 1 => by
    rw [List.range_succ, List.map_append, List.filterMap_append, run_filterMap xs a c, List.take_add_one, List.getElem?_drop]
    congr 1

theorem clip_int (v : Option Int) (d n : Nat) : (match v with | none => (d : Int) | some i => max 0 (min (if i < 0 then i + (n : Int) else i) (n : Int))) = (clipN v d n : Int) := by
  cases v with
  | none => rfl
  | some i => simp only [clipN]; omega

theorem pickIx_eq (lo hi : Option Int) (n : Nat) : pickIx lo hi n = (List.range (clipN hi n n - clipN lo 0 n)).map fun k => clipN lo 0 n + k := by
  have e : pickIx lo hi n = sliceRange (clipN lo 0 n) (clipN hi n n) 1 := by
    rw [← clip_int lo 0 n, ← clip_int hi n n]
    unfold pickIx Builtin.Str.strSliceIndices
    cases lo <;> cases hi <;> rfl
  rw [e]
  unfold sliceRange
  have e2 : (if (1 : Int) > 0 then (if ((clipN lo 0 n : Nat) : Int) < (clipN hi n n : Nat) then ((clipN hi n n : Nat) : Int) - (clipN lo 0 n : Nat) + 1 - 1 else 0) / 1 else (0 : Int)) = ((clipN hi n n - clipN lo 0 n : Nat) : Int) := by
    simp only [Int.ediv_one]
    split <;> (try split) <;> omega
  have e3 : ((if (1 : Int) > 0 then (if ((clipN lo 0 n : Nat) : Int) < (clipN hi n n : Nat) then (((clipN hi n n : Nat) : Int) - (clipN lo 0 n : Nat) + 1 - 1) / 1 else 0) else (if ((clipN lo 0 n : Nat) : Int) > (clipN hi n n : Nat) then (((clipN lo 0 n : Nat) : Int) - (clipN hi n n : Nat) - 1 - 1) / (-1) else 0))).toNat = clipN hi n n - clipN lo 0 n := by
    simp only [Int.ediv_one]
    split <;> (try split) <;> omega
  show (List.range (Int.toNat _)).map _ = _
  rw [e3]
  refine List.map_congr_left fun k _ => ?_
  omega

theorem pick_eq {α : Type} (lo hi : Option Int) (xs : List α) : pick lo hi xs = (xs.drop (clipN lo 0 xs.length)).take (clipN hi xs.length xs.length - clipN lo 0 xs.length) := by
  unfold pick
  rw [pickIx_eq, run_filterMap]
theorem clipN_le (v : Option Int) (d n : Nat) (h : d ≤ n) : clipN v d n ≤ n := by
  cases v with
  | none => exact h
  | some i => simp only [clipN]; omega
theorem pick_length_le {α : Type} (lo hi : Option Int) (xs : List α) : (pick lo hi xs).length ≤ xs.length := by
  rw [pick_eq, List.length_take, List.length_drop]; omega
theorem pick_whole {α : Type} {lo hi : Option Int} {xs : List α} (h : (pickIx lo hi xs.length).length = xs.length) : pick lo hi xs = xs := by
  rw [pickIx_eq, List.length_map, List.length_range] at h
  have h1 := clipN_le hi xs.length xs.length (Nat.le_refl _)
  have h2 := clipN_le lo 0 xs.length (Nat.zero_le _)
  rw [pick_eq]
  rcases Nat.eq_zero_or_pos xs.length with h0 | h0
  · have : xs = [] := List.length_eq_zero_iff.mp h0
    subst this; simp
  · have e1 : clipN lo 0 xs.length = 0 := by omega
    have e2 : clipN hi xs.length xs.length = xs.length := by omega
    rw [e1, e2, List.drop_zero]; simp

theorem IsList.typeIs' {s : Shared} {l : Addr} {items : Array Value} (hl : s.heap.IsList l items) : s.TypeIs (.ref l) "list" := let ⟨o, ho, hc, _⟩ := hl; ⟨o, ho, hc⟩

def pyIdx : PV → PV → Option PV
  | .li xs, .int i => if 0 ≤ i ∧ i < 100000 then xs[i.toNat]?.map .int else if i < 0 ∧ -(xs.length : Int) ≤ i ∧ -100000 ≤ i then xs[(i + xs.length).toNat]?.map .int else none
  | .ls xs, .int i => if 0 ≤ i ∧ i < 100000 then xs[i.toNat]?.map .str else none
  | .str s, .int i => if 0 ≤ i ∧ i < 100000 then s[i.toNat]?.map (fun c => .str [c]) else none
  | _, _ => none

def pySlice (lo hi : Option Int) : PV → Option PV
  | .li xs => if xs.length ≤ cap then some (.li (pick lo hi xs)) else none
  | .ls xs => if xs.length ≤ cap then some (.ls (pick lo hi xs)) else none
  | .str s => if s.length ≤ cap then some (.str (pick lo hi s)) else none
  | _ => none

theorem Paired.filterMap_at {α β : Type} {F : α → β → Prop} {vs : List α} {xs : List β} (h : Paired F vs xs) : ∀ js : List Nat, Paired F (js.filterMap (vs[·]?)) (js.filterMap (xs[·]?))
  | [] => .nil
  | j :: js => by
    have ih := Paired.filterMap_at h js
    cases e : vs[j]? with
    | none =>
      have e' : xs[j]? = none := by rw [List.getElem?_eq_none_iff] at e ⊢; rw [← h.length]; exact e
      rw [List.filterMap_cons_none e, List.filterMap_cons_none e']; exact ih
    | some v =>
      obtain ⟨x, hx, hf⟩ := Mine.Paired.get' h e
      rw [List.filterMap_cons_some e, List.filterMap_cons_some hx]; exact .cons hf ih

theorem slicePick_paired {α : Type} {F : Value → α → Prop} {vs : List Value} {xs : List α} (h : Paired F vs xs) (lo hi : Option Int) : ∃ us : List Value, slicePick vs.toArray lo hi none = us.toArray ∧ Paired F us (pick lo hi xs) := by
  refine ⟨_, rfl, ?_⟩
  have e : (vs.toArray.size) = xs.length := by rw [List.size_toArray]; exact h.length
  have : ((sliceRange (sliceBounds lo hi none vs.toArray.size).1 (sliceBounds lo hi none vs.toArray.size).2.1 (sliceBounds lo hi none vs.toArray.size).2.2).filterMap (vs.toArray[·]?)) = (pickIx lo hi xs.length).filterMap (vs[·]?) := by
    rw [e]
    have e2 : (fun x : Nat => vs.toArray[x]?) = fun x => vs[x]? := by funext x; simp
    rw [e2]
    rfl
  rw [this]
  exact Paired.filterMap_at h _

theorem isSlice_new (h : Heap) (lo hi : Option (Int × Tok)) : (h.push { cls := .type "slice", data := .fields #[partValue lo, partValue hi, .none] }).IsSlice h.objs.size lo hi none := ⟨_, Heap.get?_push_size _ rfl, rfl, rfl⟩

/-- a bound of a slice -/
inductive Part (h : Heap) : Value → Option Int → Option (Int × Tok) → Prop
  | none : Part h .none none none
  | int (i : Int) (t : Tok) : Part h (.int i t) (some i) (some (i, t))
theorem Part.isPart {h : Heap} {v : Value} {o : Option Int} {p : Option (Int × Tok)} (x : Part h v o p) : IsPart v o := by cases x <;> constructor
theorem Part.value {h : Heap} {v : Value} {o : Option Int} {p : Option (Int × Tok)} (x : Part h v o p) : partValue p = v ∧ p.map (·.1) = o := by cases x <;> exact ⟨rfl, rfl⟩

theorem filterMap_self {α : Type} (l : List α) : ∀ js : List Nat, js.filterMap (l[·]?) = js.filterMap (l[·]?) := fun _ => rfl

/-- an index within -/
theorem idxOk {value slice : Expr} {pa pi pv : PV} (h : pyIdx pa pi = some pv) {n : Nat} {s : Shared} {o i : Value} (ha : VR s.heap o pa) (hi : VR s.heap i pi)
    (hs : ∀ o i, subscripted slice false o i = operate [o, i] (getItem o i)) : Gives1 prog w n (subscriptTail value slice o i) s pv := fun A E Q hA hQ => by
  unfold pyIdx at h
  split at h
  case h_1 xs k =>
    obtain ⟨l, vs, rfl, hl0, hI⟩ := ha; obtain ⟨t, rfl⟩ := hi; have hl := hl0.isList
    refine tail_any (IsList.typeIs' hl) slot_list_getitem.lookup ?_ (hs _ _)
    split at h
    · rename_i hk
      cases e : xs[k.toNat]? with
      | none => rw [e] at h; cases h
      | some x =>
        rw [e] at h; cases h
        obtain ⟨v, hv, hf⟩ := Mine.Paired.get hI e
        refine wpAny_getItem_list hl hk.1 (by omega) (by simpa using hv) (hQ _ _ (Keeps.refl s) hf ?_)
        obtain ⟨t', rfl⟩ := hf; exact no_ref_int
    · split at h
      · rename_i hk
        cases e : xs[(k + xs.length).toNat]? with
        | none => rw [e] at h; cases h
        | some x =>
          rw [e] at h; cases h
          obtain ⟨v, hv, hf⟩ := Mine.Paired.get hI e
          have hz : vs.toArray.size = xs.length := by rw [List.size_toArray]; exact hI.length
          refine wpAny_getItem_list_neg hl hk.1 (by rw [hz]; exact hk.2.1) (by omega) (by rw [hz]; simpa using hv) (hQ _ _ (Keeps.refl s) hf ?_)
          obtain ⟨t', rfl⟩ := hf; exact no_ref_int
      · cases h
  case h_2 xs k =>
    obtain ⟨l, vs, rfl, hl0, hI⟩ := ha; obtain ⟨t, rfl⟩ := hi; have hl := hl0.isList
    refine tail_any (IsList.typeIs' hl) slot_list_getitem.lookup ?_ (hs _ _)
    split at h
    · rename_i hk
      cases e : xs[k.toNat]? with
      | none => rw [e] at h; cases h
      | some x =>
        rw [e] at h; cases h
        obtain ⟨v, hv, hf⟩ := Mine.Paired.get hI e
        refine wpAny_getItem_list hl hk.1 (by omega) (by simpa using hv) (hQ _ _ (Keeps.refl s) hf ?_)
        obtain ⟨t', rfl⟩ := hf; exact no_ref_str
    · cases h
  case h_3 x k =>
    obtain ⟨t, rfl⟩ := ha; obtain ⟨u, rfl⟩ := hi
    refine tail_any (typeIs_str s _ _) PySem.F.slot_str_getitem.lookup ?_ (hs _ _)
    split at h
    · rename_i hk
      cases e : x[k.toNat]? with
      | none => rw [e] at h; cases h
      | some c =>
        rw [e] at h; cases h
        have hlt : k.toNat < x.length := (List.getElem?_eq_some_iff.mp e).1
        refine P.getItem_str (c := c) (by simp only [Bool.or_eq_false_iff, decide_eq_false_iff_not]; omega) ?_ (hQ _ _ (keeps_tok s _) ⟨_, rfl⟩ no_ref_str)
        have : seqIndex? k (mkS x).length = some k.toNat := by
          have hc : 0 ≤ k ∧ k < x.length := ⟨hk.1, by omega⟩
          rw [mkS_length]; unfold seqIndex?; simp [hk.1, hc.2, Int.not_lt.mpr hk.1]
        rw [this]
        simpa [mkS] using e
    · cases h
  case h_4 => cases h

theorem sliceOk {value slice : Expr} {lo hi : Option Int} {pa pv : PV} (h : pySlice lo hi pa = some pv) {n : Nat} {s : Shared} {o vl vu : Value} {l' u' : Option (Int × Tok)} (ha : VR s.heap o pa) (pl : Part s.heap vl lo l') (pu : Part s.heap vu hi u')
    (hs : ∀ o i, subscripted slice false o i = operate [i, o] (getItem o i)) :
    ∀ (A : Around) (E : Value → Shared → Prop) (Q : Value → Shared → Prop), AOk A n →
    (∀ v s', Keeps s s' → VR s'.heap v pv → (∀ a, v = .ref a → s.heap.get? a = none) → Q v s') →
      wpAny (model prog w) A (subscriptTail value slice o (.ref s.heap.objs.size)) Q E { s with heap := s.heap.push { cls := .type "slice", data := .fields #[vl, vu, .none] } } := fun A E Q hA hQ => by
  have lists : ∀ {α : Type} {F : Value → α → Prop} {l : Addr} {vs : List Value} {xs : List α}, s.heap.IsList l vs.toArray → Paired F vs xs → xs.length ≤ cap → (∀ h a us, PlainL h a us.toArray → Paired F us (pick lo hi xs) → VR h (.ref a) pv) →
      wpAny (model prog w) A (subscriptTail value slice (.ref l) (.ref s.heap.objs.size)) Q E { s with heap := s.heap.push { cls := .type "slice", data := .fields #[vl, vu, .none] } } := fun {α F l vs xs} hl hI hc hV => by
    obtain ⟨us, eu, hP⟩ := slicePick_paired hI lo hi
    refine tail_any (IsList.typeIs' (s := { s with heap := s.heap.push { cls := .type "slice", data := .fields #[vl, vu, .none] } }) (hl.push _)) slot_list_getitem.lookup ?_ (hs _ _)
    refine wpAny_getItem_list_slice (hl.push _) (Heap.IsSliceOf.new ..) pl.isPart pu.isPart .none (by simp) ?_ (by rw [List.size_toArray, hI.length]; exact sizeLine_big hc)
    refine hQ _ _ (Keeps.trans (keeps_push s _) (keeps_push { s with heap := s.heap.push _ } _)) (hV _ _ us ?_ hP) fun a e => ?_
    · rw [eu]; exact isList_new _ _
    · cases e; refine fresh_size ?_; show _ ≤ (s.heap.push _).objs.size; rw [Heap.size_push]; exact Nat.le_succ _
  unfold pySlice at h
  split at h
  · split at h <;> cases h
    obtain ⟨l, vs, rfl, hl, hI⟩ := ha
    exact lists hl.isList hI (by assumption) fun h a us x y => ⟨a, us, rfl, x, y⟩
  · split at h <;> cases h
    obtain ⟨l, vs, rfl, hl, hI⟩ := ha
    exact lists hl.isList hI (by assumption) fun h a us x y => ⟨a, us, rfl, x, y⟩
  · split at h <;> cases h
    rename_i x hc
    obtain ⟨t, rfl⟩ := ha
    refine tail_any (typeIs_str _ _ _) PySem.F.slot_str_getitem.lookup ?_ (hs _ _)
    obtain ⟨e1, e2⟩ := pl.value
    obtain ⟨e3, e4⟩ := pu.value
    refine getItem_meets (typeIs_str _ _ _) (by decide) PySem.F.slot_str_getitem PySem.F.entry_str_getitem (PySem.F.args_str_getitem_2 _ _) (meets_str_getitem_slice (mkS x) t s.heap.objs.size l' u' none rfl) ⟨?_, ?_⟩
    · subst e1; subst e3; exact isSlice_new _ _ _
    · unfold sliceMade
      have ep : slicePicked (mkS x) l' u' none = pickIx lo hi x.length := by
        unfold slicePicked pickIx
        rw [e2, e4, mkS_length]; rfl
      have ef : (pickIx lo hi x.length).filterMap ((mkS x).cps[·]?) = pick lo hi x := by
        unfold pick; congr 1; funext j; simp [mkS]
      rw [ep, ef]
      split
      · rename_i hw
        have hw' : (pickIx lo hi x.length).length = x.length := by simpa [mkS_length] using hw
        have hself : pick lo hi x = x := pick_whole hw'
        refine hQ _ _ (keeps_push s _) ⟨t, by rw [hself]⟩ no_ref_str
      · refine ⟨?_, hQ _ _ (Keeps.tok (keeps_push s _) _) ⟨_, rfl⟩ no_ref_str⟩
        show (mkS (pick lo hi x)).length ≤ sizeLine
        rw [mkS_length]
        exact sizeLine_big (Nat.le_trans (pick_length_le lo hi x) hc)
  · cases h

end
end Mine
end PartFw4

/- part Fw5 -/
section PartFw5
open PySem PySem.W PyProof.Rows PySem.SeqAt
namespace Mine

abbrev pw : Program := PySem.Challenge.pw_ty0001_01

def builtinsUsed : List (Str × Value) := [("range", .type "range"), ("hex", .builtin "hex"), ("next", .builtin "next"), ("min", .builtin "min"), ("len", .builtin "len"), ("iter", .builtin "iter"), ("sum", .builtin "sum"), ("sorted", .builtin "sorted"), ("StopIteration", .type "StopIteration")]

def FnAtIs (mg : Str → Option Value) (h : Heap) (n : Str) (a : Arguments) (bd : List Stmt) (sc : Scope) : Prop :=
  ∃ f o pm code doc, mg n = some (.ref f) ∧ h.get? f = some o ∧ o.data = .func (Calls.docDef n a bd sc pm code doc) ∧ h.CodeRec code n

/-- a compiled pattern -/
def PatAt (h : Heap) (p : Addr) (code : Array Nat) : Prop :=
  ∃ o fs c oc its n, h.get? p = some o ∧ o.cls = .type "re.Pattern" ∧ o.dict = none ∧ o.data = .fields fs ∧ fs.getD 5 .none = .ref c ∧ Builtin.Re.reRawNat (fs.getD 6 .none) = 0 ∧ Builtin.Re.reRawNat (fs.getD 2 .none) = 0 ∧
    h.get? c = some oc ∧ oc.data = .seq its n ∧ (its.map Builtin.Re.reRawOf).map (·.toNat) = code
theorem PatAt.keeps {h h' : Heap} {p : Addr} {code : Array Nat} (x : PatAt h p code) (hk : ∀ b o, h.get? b = some o → h'.get? b = some o) : PatAt h' p code :=
  let ⟨o, fs, c, oc, its, n, h1, h2, h3, h4, h5, h6, h7, h8, h9, h10⟩ := x; ⟨o, fs, c, oc, its, n, hk _ _ h1, h2, h3, h4, h5, h6, h7, hk _ _ h8, h9, h10⟩

def flagWords : List (Int × List Nat) := [(1, [79, 80, 84, 73, 77, 73, 90, 69, 68]), (2, [78, 69, 87, 76, 79, 67, 65, 76, 83]), (4, [86, 65, 82, 65, 82, 71, 83]), (8, [86, 65, 82, 75, 69, 89, 87, 79, 82, 68, 83]), (16, [78, 69, 83, 84, 69, 68]), (32, [71, 69, 78, 69, 82, 65, 84, 79, 82])]
/-- the words of the flags -/
def FlagsAt (h : Heap) (d : Addr) : Prop := (d == sysModules) = false ∧ ∃ f : Int → Option Value, (∀ (prog : Program) (w : World), h.MapOf (intKind prog w) d f) ∧ ∀ p ∈ flagWords, ∃ t, f p.1 = some (.str (mkS p.2) t)
theorem FlagsAt.keeps {h h' : Heap} {d : Addr} (x : FlagsAt h d) (hk : ∀ b o, h.get? b = some o → h'.get? b = some o) : FlagsAt h' d :=
  let ⟨h1, f, h2, h3⟩ := x; ⟨h1, f, fun prog w => let ⟨o, es, ep, ho, r⟩ := h2 prog w; ⟨o, es, ep, hk _ _ ho, r⟩, h3⟩

/-- what stands at the top, as far as the text's own lines read it -/
structure TP (h : Heap) : Prop where
  ns : ∃ mg mb, h.Ns mainGlobals mg ∧ h.Ns builtinsNs mb ∧
    (∀ (i : Nat) n a bd d r tp sc ts bi ps, pw.main.body[i]? = some (.FunctionDef n a bd d r tp sc ts bi ps) → FnAtIs mg h n a bd sc) ∧
    (∀ p ∈ builtinsUsed, mg p.1 = none ∧ mb p.1 = some p.2) ∧
    (∃ t, mg "CRLF" = some (.str (mkS [13, 10]) t)) ∧
    (∃ p, mg "_twin_re_1" = some (.ref p) ∧ PatAt h p code1) ∧
    (∃ p, mg "_twin_re_2" = some (.ref p) ∧ PatAt h p code2) ∧
    (∃ d, mg "COMPILER_FLAG_NAMES" = some (.ref d) ∧ FlagsAt h d)
  nolimit : h.NoLimit

theorem FnAtIs.keeps {mg : Str → Option Value} {h h' : Heap} {n : Str} {a : Arguments} {bd : List Stmt} {sc : Scope} (x : FnAtIs mg h n a bd sc) (hk : ∀ b o, h.get? b = some o → h'.get? b = some o) : FnAtIs mg h' n a bd sc :=
  let ⟨f, o, pm, code, doc, h1, h2, h3, h4⟩ := x; ⟨f, o, pm, code, doc, h1, hk _ _ h2, h3, h4.keeps hk⟩
theorem TP.keeps {h h' : Heap} (T : TP h) (hk : ∀ b o, h.get? b = some o → h'.get? b = some o) : TP h' where
  ns := let ⟨mg, mb, h1, h2, h3, h4, h5, h6, h7, h8⟩ := T.ns; ⟨mg, mb, h1.keeps hk, h2.keeps hk, fun i n a bd d r tp sc ts bi ps e => (h3 i n a bd d r tp sc ts bi ps e).keeps hk, h4, h5, let ⟨p, e, x⟩ := h6; ⟨p, e, x.keeps hk⟩, let ⟨p, e, x⟩ := h7; ⟨p, e, x.keeps hk⟩, let ⟨p, e, x⟩ := h8; ⟨p, e, x.keeps hk⟩⟩
  nolimit := T.nolimit.keeps hk

structure Cx where
  sc : Scope
  vars : List Str
  own : List Nat
  ex : List (Str × Addr)

abbrev FrC (C : Cx) := FR TP C.vars C.own C.ex

theorem FR.tp {vars : List Str} {own : List Nat} {ex : List (Str × Addr)} {env : Env} {b : Kept} {s0 s : Shared} {ρ : REnv} (F : FR TP vars own ex env b s0 s ρ) : TP s.heap :=
  let ⟨_, hT, hs⟩ := F.top; hT.keeps fun a o e => F.keep a o (hs a o e)

def EvX (prog : Program) (w : World) (C : Cx) (n : Nat) (fresh : Bool) (e : Expr) (f : REnv → Option PV) : Prop :=
  ∀ (A : Around) (E : Value → Shared → Prop) (env : Env) (b : Kept) (s0 s : Shared) (ρ : REnv) (pv : PV) (Q : Value → Shared → Prop),
    EnvIs C.sc env → AOk A n → FrC C env b s0 s ρ → f ρ = some pv →
    (∀ v s', Keeps s s' → VR s'.heap v pv → (fresh = true → ∀ a, v = .ref a → s.heap.get? a = none) → Q v s') → wpAny (model prog w) A (eval e env) Q E s

def EvT (prog : Program) (w : World) (C : Cx) (n : Nat) (e : Expr) (f : REnv → Option Bool) : Prop :=
  ∀ (A : Around) (E : Value → Shared → Prop) (env : Env) (b : Kept) (s0 s : Shared) (ρ : REnv) (k : Bool) (Q : Bool → Shared → Prop),
    EnvIs C.sc env → AOk A n → FrC C env b s0 s ρ → f ρ = some k →
    (∀ s', Keeps s s' → Q k s') → wpAny (model prog w) A (isTrue e env (eval e env)) Q E s

def EvL (prog : Program) (w : World) (C : Cx) (n : Nat) (es : List Expr) (f : REnv → Option (List PV)) : Prop :=
  ∀ (A : Around) (E : Value → Shared → Prop) (env : Env) (b : Kept) (s0 s : Shared) (ρ : REnv) (ps : List PV) (pos : Pos) (Q : List Value → Shared → Prop),
    EnvIs C.sc env → AOk A n → FrC C env b s0 s ρ → f ρ = some ps →
    (∀ vs s', Keeps s s' → Paired (fun v p => VR s'.heap v p) vs ps → Q vs s') → wpAny (model prog w) A (spliced (backTo pos (starEach es env))) Q E s

section
variable {prog : Program} {w : World} {C : Cx} {n : Nat}

theorem EvX.weak {fr : Bool} {e : Expr} {f : REnv → Option PV} (h : EvX prog w C n fr e f) : EvX prog w C n false e f :=
  fun A E env b s0 s ρ pv Q he hA F hf hQ => h A E env b s0 s ρ pv Q he hA F hf fun v s' k hv _ => hQ v s' k hv fun e => nomatch e

theorem EvX.cint {i : Int} {k : Nat} {p : Pos} : EvX prog w C n true (.Constant (.int i) k p) (fun _ => some (.int i)) :=
  fun A E env b s0 s ρ pv Q he hA F hf hQ => by cases hf; exact wpAny_Constant_int (hQ _ _ (keeps_tok s _) ⟨_, rfl⟩ fun _ => no_ref_int)
theorem EvX.cstr {x : Str} {k : Nat} {p : Pos} (l : List Nat) (hl : x = mkS l) : EvX prog w C n true (.Constant (.str x) k p) (fun _ => some (.str l)) :=
  fun A E env b s0 s ρ pv Q he hA F hf hQ => by cases hf; subst hl; exact Calls.Constant_str (hQ _ _ (keeps_tok s _) ⟨_, rfl⟩ fun _ => no_ref_str)
theorem EvX.cbool {x : Bool} {k : Nat} {p : Pos} : EvX prog w C n true (.Constant (.bool x) k p) (fun _ => some (.bool x)) :=
  fun A E env b s0 s ρ pv Q he hA F hf hQ => by cases hf; exact fun Γ p hΓ => hQ _ _ (Keeps.refl s) rfl (fun _ => no_ref_bool)
theorem EvX.cnone {k : Nat} {p : Pos} : EvX prog w C n true (.Constant .none k p) (fun _ => some .none) :=
  fun A E env b s0 s ρ pv Q he hA F hf hQ => by cases hf; exact fun Γ p hΓ => hQ _ _ (Keeps.refl s) rfl (fun _ => no_ref_none)

theorem load_holds {M : Model} {A : Around} {E : Value → Shared → Prop} {s : Shared} {sc : Scope} {env : Env} {x : Str} {v : Value} {Q : Value → Shared → Prop} (he : EnvIs sc env) (H : Holds s.heap env x v) (h : Q v s) : wpAny M A (loadName env x) Q E s := by
  have hk : env.scope.kind = .function := by rw [he.scope]; exact he.kind
  rcases H with ⟨k, m, hn, e⟩ | ⟨k, c, hc, hv⟩
  · exact wpAny_loadName_local hk k hn e h
  · exact wpAny_loadName_cell hk k hc hv h

theorem EvX.var (i : Nat) {x : Str} {p : Pos} (hx : C.vars[i]? = some x) (hd : (x == ("__debug__" : Str)) = false := by decide) : EvX prog w C n false (.Name x p) (fun ρ => ρ[i]?.join) :=
  fun A E env b s0 s ρ pv Q he hA F hf hQ => by
    have hρ : ρ[i]? = some (some pv) := by
      simp only [Option.join_eq_some_iff] at hf; exact hf
    obtain ⟨v, H, R, _⟩ := F.vals i x pv hx hρ
    exact wpAny_Name (load_holds he H (hQ v s (Keeps.refl s) R fun e => nomatch e)) hd

theorem VR.keepsK {s s' : Shared} {v : Value} {p : PV} (x : VR s.heap v p) (k : Keeps s s') : VR s'.heap v p := by
  obtain ⟨h, t, rfl, hk⟩ := k; exact x.keeps hk
theorem fresh_back {s s' : Shared} {a : Addr} (k : Keeps s s') (h : s'.heap.get? a = none) : s.heap.get? a = none := by
  cases e : s.heap.get? a with
  | none => rfl
  | some o => rw [Keeps.get k e] at h; cases h

theorem EvX.bin {op : Operator} {l r : Expr} {p : Pos} {k₁ k₂ : Bool} {fl fr : REnv → Option PV} (hl : EvX prog w C n k₁ l fl) (hr : EvX prog w C n k₂ r fr) :
    EvX prog w C n true (.BinOp l op r p) (fun ρ => (fl ρ).bind fun a => (fr ρ).bind fun c => pyBin op a c) :=
  fun A E env b s0 s ρ pv Q he hA F hf hQ => by
    obtain ⟨pa, ha, hf⟩ := Option.bind_eq_some_iff.mp hf
    obtain ⟨pb, hb, hf⟩ := Option.bind_eq_some_iff.mp hf
    refine wpAny_BinOp (hl A E env b s0 s ρ pa _ he hA F ha fun va s₁ h₁ ra _ => ?_)
    refine hr A E env b s0 s₁ ρ pb _ he hA (F.keeps h₁) hb fun vb s₂ h₂ rb _ => ?_
    exact binOk hf (ra.keepsK h₂) rb A E Q hA fun v s₃ h₃ rv fr => hQ v s₃ (Keeps.trans (Keeps.trans h₁ h₂) h₃) rv fun _ a e => fresh_back (Keeps.trans h₁ h₂) (fr a e)

theorem EvX.neg {i : Int} {k : Nat} {q p : Pos} : EvX prog w C n true (.UnaryOp .USub (.Constant (.int i) k q) p) (fun _ => some (.int (-i))) :=
  fun A E env b s0 s ρ pv Q he hA F hf hQ => by
    cases hf
    exact UnaryOp_ (wpAny_Constant_int (P.neg_int (hQ _ _ (Keeps.tok (keeps_tok s _) _) ⟨_, rfl⟩ fun _ => no_ref_int)))

theorem EvX.cmp {op : CmpOp} {l r : Expr} {p : Pos} {k₁ k₂ : Bool} {fl fr : REnv → Option PV} (hl : EvX prog w C n k₁ l fl) (hr : EvX prog w C n k₂ r fr) (hm : behindInMarks op r = false := by rfl) :
    EvX prog w C n true (.Compare l [op] [r] p) (fun ρ => (fl ρ).bind fun a => (fr ρ).bind fun c => (pyCmp op a c).map .bool) :=
  fun A E env b s0 s ρ pv Q he hA F hf hQ => by
    obtain ⟨pa, ha, hf⟩ := Option.bind_eq_some_iff.mp hf
    obtain ⟨pb, hb, hf⟩ := Option.bind_eq_some_iff.mp hf
    obtain ⟨k, hk, rfl⟩ := Option.map_eq_some_iff.mp hf
    refine wpAny_Compare1 (hl A E env b s0 s ρ pa _ he hA F ha fun va s₁ h₁ ra _ => ?_) hm
    refine hr A E env b s0 s₁ ρ pb _ he hA (F.keeps h₁) hb fun vb s₂ h₂ rb _ => ?_
    exact cmpOk hk (ra.keepsK h₂) rb A E Q hA (hQ _ _ (Keeps.trans h₁ h₂) rfl fun _ => no_ref_bool)

theorem EvT.cmp {op : CmpOp} {l r : Expr} {p : Pos} {k₁ k₂ : Bool} {fl fr : REnv → Option PV} (hl : EvX prog w C n k₁ l fl) (hr : EvX prog w C n k₂ r fr) (hm : behindInMarks op r = false := by rfl) :
    EvT prog w C n (.Compare l [op] [r] p) (fun ρ => (fl ρ).bind fun a => (fr ρ).bind fun c => pyCmp op a c) :=
  fun A E env b s0 s ρ k Q he hA F hf hQ => by
    obtain ⟨pa, ha, hf⟩ := Option.bind_eq_some_iff.mp hf
    obtain ⟨pb, hb, hf⟩ := Option.bind_eq_some_iff.mp hf
    refine wpAny_isTrue_Compare1 (hl A E env b s0 s ρ pa _ he hA F ha fun va s₁ h₁ ra _ => ?_) hm
    refine hr A E env b s0 s₁ ρ pb _ he hA (F.keeps h₁) hb fun vb s₂ h₂ rb _ => ?_
    exact cmpOk hf (ra.keepsK h₂) rb A E _ hA (wpAny_truthy_bool (hQ _ (Keeps.trans h₁ h₂)))

theorem EvT.plain {e : Expr} {k : Bool} {f : REnv → Option PV} (h : EvX prog w C n k e f) (he' : ∀ env whole, isTrue e env whole = (do let v ← whole; standAt e.pos; holding [v] (truthy v)) := by intro _ _; rfl) :
    EvT prog w C n e (fun ρ => (f ρ).bind pyTruth) :=
  fun A E env b s0 s ρ k Q he hA F hf hQ => by
    obtain ⟨pa, ha, hf⟩ := Option.bind_eq_some_iff.mp hf
    refine isTrue_plain (h A E env b s0 s ρ pa _ he hA F ha fun va s₁ h₁ ra _ => ?_) (he' _ _)
    exact truthOk hf ra (hQ _ h₁)

theorem EvT.not {e : Expr} {p : Pos} {f : REnv → Option Bool} (h : EvT prog w C n e f) : EvT prog w C n (.UnaryOp .Not e p) (fun ρ => (f ρ).map (!·)) :=
  fun A E env b s0 s ρ k Q he hA F hf hQ => by
    obtain ⟨k', hk, rfl⟩ := Option.map_eq_some_iff.mp hf
    exact isTrue_not (h A E env b s0 s ρ k' _ he hA F hk hQ)

theorem EvT.and2 {a c : Expr} {p : Pos} {f g : REnv → Option Bool} (h : EvT prog w C n a f) (h' : EvT prog w C n c g) : EvT prog w C n (.BoolOp .And [a, c] p) (fun ρ => (f ρ).bind fun k => if k then g ρ else some false) :=
  fun A E env b s0 s ρ k Q he hA F hf hQ => by
    obtain ⟨k', hk, hf⟩ := Option.bind_eq_some_iff.mp hf
    refine isTrue_and (h A E env b s0 s ρ k' _ he hA F hk fun s₁ h₁ => ?_)
    cases k' with
    | false => cases hf; exact hQ _ h₁
    | true =>
      refine isTrue_and (h' A E env b s0 s₁ ρ k _ he hA (F.keeps h₁) hf fun s₂ h₂ => ?_)
      cases k with
      | false => exact hQ _ (Keeps.trans h₁ h₂)
      | true => exact isTrue_and_nil (hQ _ (Keeps.trans h₁ h₂))

theorem EvT.or2 {a c : Expr} {p : Pos} {f g : REnv → Option Bool} (h : EvT prog w C n a f) (h' : EvT prog w C n c g) : EvT prog w C n (.BoolOp .Or [a, c] p) (fun ρ => (f ρ).bind fun k => if k then some true else g ρ) :=
  fun A E env b s0 s ρ k Q he hA F hf hQ => by
    obtain ⟨k', hk, hf⟩ := Option.bind_eq_some_iff.mp hf
    refine isTrue_or (h A E env b s0 s ρ k' _ he hA F hk fun s₁ h₁ => ?_)
    cases k' with
    | true => cases hf; exact hQ _ h₁
    | false =>
      refine isTrue_or (h' A E env b s0 s₁ ρ k _ he hA (F.keeps h₁) hf fun s₂ h₂ => ?_)
      cases k with
      | true => exact hQ _ (Keeps.trans h₁ h₂)
      | false => exact isTrue_or_nil (hQ _ (Keeps.trans h₁ h₂))

theorem EvX.ite {t a c : Expr} {p : Pos} {k₁ k₂ : Bool} {ft : REnv → Option Bool} {fa fc : REnv → Option PV} (ht : EvT prog w C n t ft) (ha : EvX prog w C n k₁ a fa) (hc : EvX prog w C n k₂ c fc) :
    EvX prog w C n (k₁ && k₂) (.IfExp t a c p) (fun ρ => (ft ρ).bind fun k => if k then fa ρ else fc ρ) :=
  fun A E env b s0 s ρ pv Q he hA F hf hQ => by
    obtain ⟨k', hk, hf⟩ := Option.bind_eq_some_iff.mp hf
    refine IfExp_ (ht A E env b s0 s ρ k' _ he hA F hk fun s₁ h₁ => ?_)
    cases k' with
    | true => exact ha A E env b s0 s₁ ρ pv Q he hA (F.keeps h₁) hf fun v s₂ h₂ rv fr => hQ v s₂ (Keeps.trans h₁ h₂) rv fun e a q => fresh_back h₁ (fr (Bool.and_eq_true_iff.mp e).1 a q)
    | false => exact hc A E env b s0 s₁ ρ pv Q he hA (F.keeps h₁) hf fun v s₂ h₂ rv fr => hQ v s₂ (Keeps.trans h₁ h₂) rv fun e a q => fresh_back h₁ (fr (Bool.and_eq_true_iff.mp e).2 a q)

theorem EvX.idx {o i : Expr} {p : Pos} {k₁ k₂ : Bool} {fo fi : REnv → Option PV} (ho : EvX prog w C n k₁ o fo) (hi : EvX prog w C n k₂ i fi)
    (hs : ∀ u v, subscripted i false u v = operate [u, v] (getItem u v) := by intro _ _; rfl) : EvX prog w C n true (.Subscript o i p) (fun ρ => (fo ρ).bind fun a => (fi ρ).bind fun c => pyIdx a c) :=
  fun A E env b s0 s ρ pv Q he hA F hf hQ => by
    obtain ⟨pa, ha, hf⟩ := Option.bind_eq_some_iff.mp hf
    obtain ⟨pb, hb, hf⟩ := Option.bind_eq_some_iff.mp hf
    refine Subscript_ (ho A E env b s0 s ρ pa _ he hA F ha fun va s₁ h₁ ra _ => ?_)
    refine hi A E env b s0 s₁ ρ pb _ he hA (F.keeps h₁) hb fun vb s₂ h₂ rb _ => ?_
    exact idxOk hf (ra.keepsK h₂) rb hs A E Q hA fun v s₃ h₃ rv fr => hQ v s₃ (Keeps.trans (Keeps.trans h₁ h₂) h₃) rv fun _ a e => fresh_back (Keeps.trans h₁ h₂) (fr a e)

/-- a bound of a slice: absent, or an int's expression -/
def EvPart (prog : Program) (w : World) (C : Cx) (n : Nat) (e : Option Expr) (f : REnv → Option (Option Int)) : Prop :=
  ∀ (A : Around) (E : Value → Shared → Prop) (env : Env) (b : Kept) (s0 s : Shared) (ρ : REnv) (lo : Option Int) (Q : Value → Shared → Prop),
    EnvIs C.sc env → AOk A n → FrC C env b s0 s ρ → f ρ = some lo →
    (∀ v s' q, Keeps s s' → (∀ h, Part h v lo q) → Q v s') → wpAny (model prog w) A (evalPart e env) Q E s
def asInt : PV → Option Int
  | .int i => some i
  | _ => none
theorem EvPart.no : EvPart prog w C n none (fun _ => some none) := fun A E env b s0 s ρ lo Q he hA F hf hQ => by
  cases hf; rw [evalPart_none]; exact wpAny_pure (hQ _ _ _ (Keeps.refl s) fun _ => .none)
theorem EvPart.of {e : Expr} {k : Bool} {f : REnv → Option PV} (h : EvX prog w C n k e f) : EvPart prog w C n (some e) (fun ρ => ((f ρ).bind asInt).map Option.some) := fun A E env b s0 s ρ lo Q he hA F hf hQ => by
  obtain ⟨i, hi, rfl⟩ := Option.map_eq_some_iff.mp hf
  obtain ⟨pa, ha, hi⟩ := Option.bind_eq_some_iff.mp hi
  rw [evalPart_some]
  refine h A E env b s0 s ρ pa _ he hA F ha fun v s₁ h₁ rv _ => ?_
  unfold asInt at hi
  split at hi <;> cases hi
  obtain ⟨t, rfl⟩ := rv
  exact hQ _ _ _ h₁ fun _ => .int _ t

theorem EvX.slice {o : Expr} {lo hi : Option Expr} {p q : Pos} {k : Bool} {fo : REnv → Option PV} {fl fh : REnv → Option (Option Int)} (ho : EvX prog w C n k o fo) (hl : EvPart prog w C n lo fl) (hh : EvPart prog w C n hi fh) :
    EvX prog w C n true (.Subscript o (.Slice lo hi none q) p) (fun ρ => (fo ρ).bind fun a => (fl ρ).bind fun l => (fh ρ).bind fun u => pySlice l u a) :=
  fun A E env b s0 s ρ pv Q he hA F hf hQ => by
    obtain ⟨pa, ha, hf⟩ := Option.bind_eq_some_iff.mp hf
    obtain ⟨l, hlo, hf⟩ := Option.bind_eq_some_iff.mp hf
    obtain ⟨u, hup, hf⟩ := Option.bind_eq_some_iff.mp hf
    refine Subscript_ (ho A E env b s0 s ρ pa _ he hA F ha fun va s₁ h₁ ra _ => ?_)
    refine wpAny_Slice (hl A E env b s0 s₁ ρ l _ he hA (F.keeps h₁) hlo fun vl s₂ ql h₂ pl => ?_)
    refine hh A E env b s0 s₂ ρ u _ he hA ((F.keeps h₁).keeps h₂) hup fun vu s₃ qu h₃ pu => ?_
    rw [evalPart_none]
    refine wpAny_pure ?_
    exact sliceOk hf ((ra.keepsK h₂).keepsK h₃) (pl _) (pu _) (fun _ _ => rfl) A E Q hA fun v s₄ h₄ rv fr =>
      hQ v s₄ (Keeps.trans (Keeps.trans (Keeps.trans h₁ h₂) h₃) h₄) rv fun _ a e => fresh_back (Keeps.trans (Keeps.trans h₁ h₂) h₃) (fr a e)

theorem EvL.nil : EvL prog w C n [] (fun _ => some []) := fun A E env b s0 s ρ ps pos Q he hA F hf hQ => by
  cases hf; exact spliced_none (hQ [] s (Keeps.refl s) .nil)

theorem Paired.keepsK {s s' : Shared} (k : Keeps s s') : ∀ {vs : List Value} {ps : List PV}, Paired (fun v p => VR s.heap v p) vs ps → Paired (fun v p => VR s'.heap v p) vs ps
  | _, _, .nil => .nil
  | _, _, .cons h t => .cons (h.keepsK k) (Mine.Paired.keepsK k t)

theorem EvL.cons {e : Expr} {es : List Expr} {k : Bool} {f : REnv → Option PV} {g : REnv → Option (List PV)} (h : EvX prog w C n k e f) (t : EvL prog w C n es g)
    (he' : ∀ env, starEach (e :: es) env = (false, eval e env) :: starEach es env := by intro _; rfl) : EvL prog w C n (e :: es) (fun ρ => (f ρ).bind fun a => (g ρ).map (a :: ·)) := fun A E env b s0 s ρ ps pos Q he hA F hf hQ => by
  obtain ⟨pa, ha, hf⟩ := Option.bind_eq_some_iff.mp hf
  obtain ⟨ps', hb, rfl⟩ := Option.map_eq_some_iff.mp hf
  refine spliced_more (h A E env b s0 s ρ pa _ he hA F ha fun v s₁ h₁ rv _ => ?_) (he' env)
  exact t A E env b s0 s₁ ρ ps' pos _ he hA (F.keeps h₁) hb fun vs s₂ h₂ rs => hQ _ _ (Keeps.trans h₁ h₂) (.cons (rv.keepsK h₂) rs)

def asInts : List PV → Option (List Int)
  | [] => some []
  | .int i :: r => (asInts r).map (i :: ·)
  | _ => none
def asStrs : List PV → Option (List (List Nat))
  | [] => some []
  | .str i :: r => (asStrs r).map (i :: ·)
  | _ => none
theorem asInts_ok {h : Heap} : ∀ {vs : List Value} {ps : List PV} {xs : List Int}, Paired (fun v p => VR h v p) vs ps → asInts ps = some xs → IntsV vs xs
  | _, _, _, .nil, e => by cases e; exact .nil
  | _, p :: r, xs, .cons hv t, e => by
    unfold asInts at e
    split at e
    · rename_i h1; cases h1
    · rename_i h1; cases h1
      obtain ⟨ys, hy, rfl⟩ := Option.map_eq_some_iff.mp e
      exact .cons hv (asInts_ok t hy)
    · cases e
theorem asStrs_ok {h : Heap} : ∀ {vs : List Value} {ps : List PV} {xs : List (List Nat)}, Paired (fun v p => VR h v p) vs ps → asStrs ps = some xs → StrsV vs xs
  | _, _, _, .nil, e => by cases e; exact .nil
  | _, p :: r, xs, .cons hv t, e => by
    unfold asStrs at e
    split at e
    · rename_i h1; cases h1
    · rename_i h1; cases h1
      obtain ⟨ys, hy, rfl⟩ := Option.map_eq_some_iff.mp e
      exact .cons hv (asStrs_ok t hy)
    · cases e

theorem EvX.listI {es : List Expr} {p : Pos} {g : REnv → Option (List PV)} (h : EvL prog w C n es g) : EvX prog w C n true (.List es p) (fun ρ => ((g ρ).bind asInts).bind fun xs => if xs.length ≤ cap then some (.li xs) else none) := fun A E env b s0 s ρ pv Q he hA F hf hQ => by
  obtain ⟨xs, ha, hf⟩ := Option.bind_eq_some_iff.mp hf
  obtain ⟨ps, hb, ha⟩ := Option.bind_eq_some_iff.mp ha
  split at hf <;> cases hf
  refine List_ (h A E env b s0 s ρ ps p _ he hA F hb fun vs s₁ h₁ rs => ?_)
  have hi := asInts_ok rs ha
  refine wpAny_newObj_type (hQ _ _ (Keeps.trans h₁ (keeps_push s₁ _)) ⟨_, vs, rfl, isList_new _ _, hi⟩ fun _ a e => ?_) (by show vs.toArray.size ≤ sizeLine; rw [List.size_toArray, hi.length]; exact sizeLine_big (by assumption))
  cases e; exact fresh_back h₁ (fresh_size (Nat.le_refl _))
theorem EvX.listS {es : List Expr} {p : Pos} {g : REnv → Option (List PV)} (h : EvL prog w C n es g) : EvX prog w C n true (.List es p) (fun ρ => ((g ρ).bind asStrs).bind fun xs => if xs.length ≤ cap then some (.ls xs) else none) := fun A E env b s0 s ρ pv Q he hA F hf hQ => by
  obtain ⟨xs, ha, hf⟩ := Option.bind_eq_some_iff.mp hf
  obtain ⟨ps, hb, ha⟩ := Option.bind_eq_some_iff.mp ha
  split at hf <;> cases hf
  refine List_ (h A E env b s0 s ρ ps p _ he hA F hb fun vs s₁ h₁ rs => ?_)
  have hi := asStrs_ok rs ha
  refine wpAny_newObj_type (hQ _ _ (Keeps.trans h₁ (keeps_push s₁ _)) ⟨_, vs, rfl, isList_new _ _, hi⟩ fun _ a e => ?_) (by show vs.toArray.size ≤ sizeLine; rw [List.size_toArray, hi.length]; exact sizeLine_big (by assumption))
  cases e; exact fresh_back h₁ (fresh_size (Nat.le_refl _))

end
end Mine
end PartFw5

/- part Fw6 -/
section PartFw6
open PySem PySem.W PyProof.Rows PySem.SeqAt
namespace Mine

theorem list_ne_ns {h : Heap} {a L : Addr} {items : Array Value} {m : Str → Option Value} (hl : h.IsList a items) (hn : h.Ns L m) : a ≠ L := by
  rintro rfl
  obtain ⟨o, ho, _, n, hd⟩ := hl
  obtain ⟨o', es, ep, ho', hd', _⟩ := hn
  rw [ho] at ho'; cases ho'; rw [hd] at hd'; cases hd'
theorem list_ne_cell {h : Heap} {a c : Addr} {items : Array Value} {ov : Option Value} (hl : h.IsList a items) (hc : h.IsCell c ov) : a ≠ c := by
  rintro rfl
  obtain ⟨o, ho, _, n, hd⟩ := hl
  obtain ⟨o', ho', hd'⟩ := hc
  rw [ho] at ho'; cases ho'; rw [hd] at hd'; cases hd'
theorem cell_ne_ns {h : Heap} {c L : Addr} {ov : Option Value} {m : Str → Option Value} (hc : h.IsCell c ov) (hn : h.Ns L m) : c ≠ L := by
  rintro rfl
  obtain ⟨o, ho, hd⟩ := hc
  obtain ⟨o', es, ep, ho', hd', _⟩ := hn
  rw [ho] at ho'; cases ho'; rw [hd] at hd'; cases hd'

theorem nodup_at {vars : List Str} (hn : vars.Nodup) {i j : Nat} {x : Str} (hi : vars[i]? = some x) (hj : vars[j]? = some x) : i = j := by
  exact (List.getElem?_inj (List.getElem?_eq_some_iff.mp hi).1 hn).mp (hi.trans hj.symm)

theorem set_get {ρ : REnv} {i j : Nat} {p : Option PV} {q : PV} (h : (ρ.set i p)[j]? = some (some q)) : (j = i ∧ p = some q) ∨ (j ≠ i ∧ ρ[j]? = some (some q)) := by
  by_cases e : j = i
  · subst e
    left
    rw [List.getElem?_set] at h
    simp only [if_true] at h
    split at h
    · exact ⟨rfl, Option.some.inj h⟩
    · cases h
  · right
    rw [List.getElem?_set_ne (Ne.symm e)] at h
    exact ⟨e, h⟩

section
variable {M : Model} {A : Around} {E : Value → Shared → Prop} {C : Cx} {env : Env} {b : Kept} {s0 s : Shared} {ρ : REnv} {sc : Scope}

/-- one object alone is turned: the frame's facts behind it -/
theorem FR.turned {h' : Heap} {tk : Nat} {i : Nat} {x : Str} {pv : PV} {v : Value} (F : FrC C env b s0 s ρ) (hkeep : ∀ c o, b c = some o → h'.get? c = some o)
    (hx : C.vars[i]? = some x)
    (hns : ∃ m, h'.Ns env.locals m)
    (hcells : ∀ y c, env.cells.lookup y = some c → ∃ ov, h'.IsCell c ov)
    (hnew : Holds h' env x v) (hv : VR h' v pv) (hown : (i ∈ C.own → ∀ a, v = .ref a → b a = none) ∧ (i ∉ C.own → ∀ a, v = .ref a → ∃ o, b a = some o))
    (hold : ∀ (j : Nat) y u pw, j ≠ i → C.vars[j]? = some y → ρ[j]? = some (some pw) → Holds s.heap env y u → VR s.heap u pw → Holds h' env y u ∧ VR h' u pw ∧ (∀ a, u = .ref a → v ≠ .ref a))
    (hext : ∀ y a, (y, a) ∈ C.ex → Holds s.heap env y (.ref a) → Holds h' env y (.ref a)) :
    FrC C env b s0 { s with heap := h', toks := tk } (ρ.set i (some pv)) where
  top := F.top
  keep := hkeep
  gens := F.gens
  os := F.os
  drawn := F.drawn
  len := by rw [List.length_set]; exact F.len
  nodup := F.nodup
  slot := F.slot
  locB := F.locB
  cellB := F.cellB
  cellsApart := F.cellsApart
  ns := hns
  cells := hcells
  vals := fun j y pw hy hp => by
    rcases set_get hp with ⟨rfl, e⟩ | ⟨hj, hp⟩
    · cases e
      rw [hx] at hy; cases hy
      exact ⟨v, hnew, hv, hown⟩
    · obtain ⟨u, H, R, o⟩ := F.vals j y pw hy hp
      obtain ⟨H', R', _⟩ := hold j y u pw hj hy hp H R
      exact ⟨u, H', R', o⟩
  apart := fun j k y z pj pk c hjo hko hy hz hp hq H1 H2 => by
    have old : ∀ {j y pj c}, j ≠ i → C.vars[j]? = some y → ρ[j]? = some (some pj) → Holds h' env y (.ref c) → Holds s.heap env y (.ref c) ∧ v ≠ .ref c := fun {j y pj c} hj hy hp H => by
      obtain ⟨u, H0, R0, _⟩ := F.vals j y pj hy hp
      obtain ⟨H', _, d⟩ := hold j y u pj hj hy hp H0 R0
      have := H'.same H
      subst this
      exact ⟨H0, d c rfl⟩
    rcases set_get hp with ⟨ej, _⟩ | ⟨hj, hp2⟩ <;> rcases set_get hq with ⟨ek, _⟩ | ⟨hk, hq2⟩
    · rw [ej, ek]
    · rw [ej, hx] at hy; cases hy
      have := hnew.same H1
      exact absurd this (old hk hz hq2 H2).2
    · rw [ek, hx] at hz; cases hz
      have := hnew.same H2
      exact absurd this (old hj hy hp2 H1).2
    · exact F.apart j k y z pj pk c hjo hko hy hz hp2 hq2 (old hj hy hp2 H1).1 (old hk hz hq2 H2).1
  ext := fun y a hm => ⟨(F.ext y a hm).1, hext y a hm (F.ext y a hm).2⟩

theorem FR.keep_but {a : Addr} {h' : Heap} (F : FrC C env b s0 s ρ) (hs : Heap.SameBut a s.heap h') (hb : b a = none) : ∀ c o, b c = some o → h'.get? c = some o :=
  fun c o e => (hs.2 c (fun q => by subst q; rw [hb] at e; cases e)).trans (F.keep c o e)

theorem Holds.turned {h h' : Heap} {a : Addr} {y : Str} {u : Value} (hs : Heap.SameBut a h h') (haL : a ≠ env.locals) (hac : ∀ y c, env.cells.lookup y = some c → a ≠ c) (H : Holds h env y u) : Holds h' env y u := by
  rcases H with ⟨k, m, hn, e⟩ | ⟨k, c, hc, hv⟩
  · exact .inl ⟨k, m, hn.sameBut hs (Ne.symm haL), e⟩
  · exact .inr ⟨k, c, hc, hv.sameBut hs (Ne.symm (hac y c hc))⟩

theorem VR.turned {h h' : Heap} {a : Addr} {u : Value} {p : PV} (hs : Heap.SameBut a h h') (hne : u ≠ .ref a) (R : VR h u p) : VR h' u p :=
  R.at fun c e o ho => (hs.2 c (fun q => by subst q; exact hne e)).trans ho

/-- a name is bound to a datum that no other name bears -/
theorem FR.store {i : Nat} {x : Str} {pv : PV} {v : Value} {Q : Unit → Shared → Prop} (he : EnvIs sc env) (F : FrC C env b s0 s ρ) (hx : C.vars[i]? = some x) (hi : i ∈ C.own) (rv : VR s.heap v pv)
    (fr : ∀ a, v = .ref a → b a = none ∧ ∀ (j : Nat) y pw, C.vars[j]? = some y → ρ[j]? = some (some pw) → Holds s.heap env y (.ref a) → False)
    (h : ∀ s', FrC C env b s0 s' (ρ.set i (some pv)) → VR s'.heap v pv → Q () s') : wpAny M A (storeName env x v) Q E s := by
  have hk : env.scope.kind = .function := by rw [he.scope]; exact he.kind
  obtain ⟨m, hn⟩ := F.ns
  have hne : ∀ u p a, VR s.heap u p → u = .ref a → (a ≠ env.locals) ∧ ∀ y c, env.cells.lookup y = some c → a ≠ c := fun u p a R e => by
    subst e
    obtain ⟨items, hl⟩ := R.ref
    exact ⟨list_ne_ns hl hn, fun y c hc => let ⟨ov, hv⟩ := F.cells y c hc; list_ne_cell hl hv⟩
  rcases F.slot i x hx with hl | ⟨hl, c, hc⟩
  · refine wpAny_storeName_local hl hn (fun h' hn' hs => ?_) (by rw [hk]; rfl)
    have hv' : VR h' v pv := rv.turned hs fun e => (hne v pv _ rv e).1 rfl
    have other : ∀ {y u}, y ≠ x → Holds s.heap env y u → Holds h' env y u := fun {y u} hyx H => by
      rcases H with ⟨k, m', hm, e⟩ | ⟨k, c, hc, hv⟩
      · have := Ns.same hn hm
        subst this
        exact .inl ⟨k, _, hn', by simp only [hyx, if_false]; exact e⟩
      · exact .inr ⟨k, c, hc, hv.sameBut hs (cell_ne_ns hv hn)⟩
    refine h _ (F.turned (v := v) (F.keep_but hs F.locB) hx ⟨_, hn'⟩ (fun y c hc => let ⟨ov, ho⟩ := F.cells y c hc; ⟨ov, ho.sameBut hs (cell_ne_ns ho hn)⟩) (.inl ⟨hl, _, hn', by simp⟩) hv'
      ⟨fun _ a e => (fr a e).1, fun q => absurd hi q⟩ (fun j y u pw hj hy hp H R => ⟨other (fun q => hj (nodup_at F.nodup (q ▸ hy) hx)) H, R.turned hs fun e => (hne u pw _ R e).1 rfl, fun a e q => (fr a q).2 j y pw hy hp (e ▸ H)⟩) fun y a hm H => other (fun q => (F.ext y a hm).1 (by subst q; exact List.mem_of_getElem? hx)) H) hv'
  · obtain ⟨ov, ho⟩ := F.cells x c hc
    refine wpAny_storeName_cell hk hl hc ho fun h' hv1 hs => ?_
    have hv' : VR h' v pv := rv.turned hs fun e => (hne v pv _ rv e).2 x c hc rfl
    have other : ∀ {y u}, y ≠ x → Holds s.heap env y u → Holds h' env y u := fun {y u} hyx H => by
      rcases H with ⟨k, m', hm, e⟩ | ⟨k, c', hc', hv⟩
      · exact .inl ⟨k, m', hm.sameBut hs (Ne.symm (cell_ne_ns ho hm)), e⟩
      · exact .inr ⟨k, c', hc', hv.sameBut hs fun q => hyx (F.cellsApart y x c' hc' (q ▸ hc))⟩
    refine h _ (F.turned (tk := s.toks) (v := v) (F.keep_but hs (F.cellB x c hc)) hx ⟨m, hn.sameBut hs (Ne.symm (cell_ne_ns ho hn))⟩ (fun y c' hc' => ?_) (.inr ⟨hl, c, hc, hv1⟩) hv'
      ⟨fun _ a e => (fr a e).1, fun q => absurd hi q⟩ (fun j y u pw hj hy hp H R => ⟨other (fun q => hj (nodup_at F.nodup (q ▸ hy) hx)) H, R.turned hs fun e => (hne u pw _ R e).2 x c hc rfl, fun a e q => (fr a q).2 j y pw hy hp (e ▸ H)⟩) fun y a hm H => other (fun q => (F.ext y a hm).1 (by subst q; exact List.mem_of_getElem? hx)) H) hv'
    · by_cases e : c' = c
      · subst e; exact ⟨_, hv1⟩
      · obtain ⟨ov', ho'⟩ := F.cells y c' hc'; exact ⟨ov', ho'.sameBut hs e⟩

/-- an own list is turned in its place -/
theorem FR.mutate {i : Nat} {x : Str} {pv pv' : PV} {a : Addr} {h' : Heap} {tk : Nat} (F : FrC C env b s0 s ρ) (hx : C.vars[i]? = some x) (hi : i ∈ C.own) (hρ : ρ[i]? = some (some pv)) (H : Holds s.heap env x (.ref a))
    (hs : Heap.SameBut a s.heap h') (hv : VR h' (.ref a) pv') : FrC C env b s0 { s with heap := h', toks := tk } (ρ.set i (some pv')) := by
  obtain ⟨v, H', R, o⟩ := F.vals i x pv hx hρ
  have := H'.same H
  subst this
  obtain ⟨items, hl⟩ := R.ref
  obtain ⟨m, hn⟩ := F.ns
  have haL := list_ne_ns hl hn
  have hac : ∀ y c, env.cells.lookup y = some c → a ≠ c := fun y c hc => let ⟨ov, ho⟩ := F.cells y c hc; list_ne_cell hl ho
  refine F.turned (F.keep_but hs (o.1 hi a rfl)) hx ⟨m, hn.sameBut hs (Ne.symm haL)⟩ (fun y c hc => let ⟨ov, ho⟩ := F.cells y c hc; ⟨ov, ho.sameBut hs (Ne.symm (hac y c hc))⟩) (H.turned hs haL hac) hv o (fun j y u pw hj hy hp Hy Ry => ?_) fun y a hm H => H.turned hs haL hac
  have hne : u ≠ .ref a := fun e => by
    subst e
    by_cases hjo : j ∈ C.own
    · exact hj (F.apart j i y x pw pv a hjo hi hy hx hp hρ Hy H)
    · obtain ⟨v', H'', _, o'⟩ := F.vals j y pw hy hp
      have := H''.same Hy
      subst this
      obtain ⟨o2, ho2⟩ := o'.2 hjo a rfl
      rw [o.1 hi a rfl] at ho2; cases ho2
  exact ⟨Hy.turned hs haL hac, Ry.turned hs hne, fun c e q => by cases q; exact hne e⟩
end

inductive PFlow where
  | next
  | brk
  | ret (v : PV)
  deriving DecidableEq, Repr

def FlowR (b : Kept) (h : Heap) (f : Flow) : PFlow → Prop
  | .next => f = .next
  | .brk => f = .brk
  | .ret p => ∃ v, f = .ret v ∧ VR h v p ∧ ∀ a, v = .ref a → b a = none

def EvS (prog : Program) (w : World) (C : Cx) (n : Nat) (st : Stmt) (g : REnv → Option (PFlow × REnv)) : Prop :=
  ∀ (A : Around) (E : Value → Shared → Prop) (env : Env) (b : Kept) (s0 s : Shared) (ρ ρ' : REnv) (fl : PFlow) (Q : Flow → Shared → Prop),
    EnvIs C.sc env → AOk A n → FrC C env b s0 s ρ → g ρ = some (fl, ρ') →
    (∀ f s', FrC C env b s0 s' ρ' → FlowR b s'.heap f fl → Q f s') → wpAny (model prog w) A (exec st env) Q E s

def EvSs (prog : Program) (w : World) (C : Cx) (n : Nat) (st : List Stmt) (g : REnv → Option (PFlow × REnv)) : Prop :=
  ∀ (A : Around) (E : Value → Shared → Prop) (env : Env) (b : Kept) (s0 s : Shared) (ρ ρ' : REnv) (fl : PFlow) (Q : Flow → Shared → Prop),
    EnvIs C.sc env → AOk A n → FrC C env b s0 s ρ → g ρ = some (fl, ρ') →
    (∀ f s', FrC C env b s0 s' ρ' → FlowR b s'.heap f fl → Q f s') → wpAny (model prog w) A (execs st env) Q E s

def pSeq (f g : REnv → Option (PFlow × REnv)) : REnv → Option (PFlow × REnv) := fun ρ =>
  match f ρ with
  | some (.next, ρ') => g ρ'
  | r => r

section
variable {prog : Program} {w : World} {C : Cx} {n : Nat}

theorem EvSs.nil : EvSs prog w C n [] (fun ρ => some (.next, ρ)) := fun A E env b s0 s ρ ρ' fl Q he hA F hf hQ => by
  cases hf; exact wpAny_execs_nil (hQ _ _ F rfl)

theorem EvSs.cons {st : Stmt} {rest : List Stmt} {f g : REnv → Option (PFlow × REnv)} (h : EvS prog w C n st f) (t : EvSs prog w C n rest g) : EvSs prog w C n (st :: rest) (pSeq f g) := fun A E env b s0 s ρ ρ' fl Q he hA F hf hQ => by
  unfold pSeq at hf
  split at hf
  · rename_i ρ₁ e
    refine wpAny_execs_cons (h A E env b s0 s ρ ρ₁ .next _ he hA F e fun f s₁ F₁ hfl => ?_)
    cases hfl
    exact t A E env b s0 s₁ ρ₁ ρ' fl Q he hA F₁ hf hQ
  · rename_i r hr
    refine wpAny_execs_cons (h A E env b s0 s ρ ρ' fl _ he hA F hf fun f s₁ F₁ hfl => ?_)
    cases fl with
    | next => exact absurd hf (hr ρ')
    | brk => cases hfl; exact hQ _ _ F₁ rfl
    | ret p => obtain ⟨v, rfl, r⟩ := hfl; exact hQ _ _ F₁ ⟨v, rfl, r⟩

theorem EvSs.one {st : Stmt} {f : REnv → Option (PFlow × REnv)} (h : EvS prog w C n st f) : EvSs prog w C n [st] f := fun A E env b s0 s ρ ρ' fl Q he hA F hf hQ => by
  refine wpAny_execs_cons (h A E env b s0 s ρ ρ' fl _ he hA F hf fun f s₁ F₁ hfl => ?_)
  cases fl with
  | next => cases hfl; exact wpAny_execs_nil (hQ _ _ F₁ rfl)
  | brk => cases hfl; exact hQ _ _ F₁ rfl
  | ret p => obtain ⟨v, rfl, r⟩ := hfl; exact hQ _ _ F₁ ⟨v, rfl, r⟩

theorem fresh_kept {C : Cx} {env : Env} {b : Kept} {s0 s : Shared} {ρ : REnv} (F : FrC C env b s0 s ρ) {a : Addr} (h : s.heap.get? a = none) : b a = none := by
  cases e : b a with
  | none => rfl
  | some o => rw [F.keep a o e] at h; cases h

theorem fresh_name {C : Cx} {env : Env} {b : Kept} {s0 s s₁ : Shared} {ρ : REnv} (F : FrC C env b s0 s ρ) (k : Keeps s s₁) {a : Addr} (h : s.heap.get? a = none) :
    ∀ (j : Nat) y pw, C.vars[j]? = some y → ρ[j]? = some (some pw) → Holds s₁.heap env y (.ref a) → False := fun j y pw hy hp H => by
  obtain ⟨u, H0, R, _⟩ := F.vals j y pw hy hp
  have e := (H0.keeps fun _ _ => Keeps.get k).same H
  subst e
  obtain ⟨items, o, ho, _⟩ := R.ref
  rw [h] at ho; cases ho

def pAssign (i : Nat) (f : REnv → Option PV) : REnv → Option (PFlow × REnv) := fun ρ => (f ρ).map fun v => (.next, ρ.set i (some v))

theorem EvS.assign (i : Nat) {x : Str} {e : Expr} {p q : Pos} {f : REnv → Option PV} (hx : C.vars[i]? = some x) (hi : i ∈ C.own) (h : EvX prog w C n true e f)
    (hs : ∀ env, swapsWith e (some (.Name x p)) q.line env = pure false := by intro _; rfl) : EvS prog w C n (.Assign [.Name x p] e q) (pAssign i f) := fun A E env b s0 s ρ ρ' fl Q he hA F hf hQ => by
  obtain ⟨pv, hp, e⟩ := Option.map_eq_some_iff.mp hf
  cases e
  refine wpAny_Assign_Name (h A E env b s0 s ρ pv _ he hA F hp fun v s₁ k rv fr => ?_) (hs env)
  exact FR.store he (F.keeps k) hx hi rv (fun a e => ⟨fresh_kept F (fr rfl a e), fresh_name F k (fr rfl a e)⟩) fun s₂ F₂ _ => hQ _ _ F₂ rfl

def pAug (i : Nat) (op : Operator) (f : REnv → Option PV) : REnv → Option (PFlow × REnv) := fun ρ => (ρ[i]?.join).bind fun a => (f ρ).bind fun c => (pyAug op a c).map fun v => (.next, ρ.set i (some v))

theorem EvS.aug (i : Nat) {x : Str} {op : Operator} {e : Expr} {p q : Pos} {k : Bool} {f : REnv → Option PV} (hx : C.vars[i]? = some x) (hi : i ∈ C.own) (h : EvX prog w C n k e f) : EvS prog w C n (.AugAssign (.Name x p) op e q) (pAug i op f) := fun A E env b s0 s ρ ρ' fl Q he hA F hf hQ => by
  obtain ⟨pa, ha, hf⟩ := Option.bind_eq_some_iff.mp hf
  obtain ⟨pc, hc, hf⟩ := Option.bind_eq_some_iff.mp hf
  obtain ⟨pv, hp, e⟩ := Option.map_eq_some_iff.mp hf
  cases e
  have hρ : ρ[i]? = some (some pa) := Option.join_eq_some_iff.mp ha
  obtain ⟨v, H, R, _⟩ := F.vals i x pa hx hρ
  refine wpAny_AugAssign_Name (load_holds he H ?_)
  refine h A E env b s0 s ρ pc _ he hA F hc fun u s₁ k ru _ => ?_
  refine augOk hp (R.keepsK k) ru A E _ hA fun v' s₂ k₂ rv fr => ?_
  have F₁ := F.keeps k
  exact FR.store he (F₁.keeps k₂) hx hi rv (fun a e => ⟨fresh_kept F₁ (fr a e), fresh_name F₁ k₂ (fr a e)⟩) fun s₂ F₂ _ => hQ _ _ F₂ rfl

def pRet (f : REnv → Option PV) : REnv → Option (PFlow × REnv) := fun ρ => (f ρ).map fun v => (.ret v, ρ)

theorem EvS.ret {e : Expr} {p : Pos} {f : REnv → Option PV} (h : EvX prog w C n true e f) : EvS prog w C n (.Return (some e) p) (pRet f) := fun A E env b s0 s ρ ρ' fl Q he hA F hf hQ => by
  obtain ⟨pv, hp, e⟩ := Option.map_eq_some_iff.mp hf
  cases e
  exact wpAny_Return_some (h A E env b s0 s ρ pv _ he hA F hp fun v s₁ k rv fr => hQ _ _ (F.keeps k) ⟨v, rfl, rv, fun a e => fresh_kept F (fr rfl a e)⟩)

/-- an own name is handed back -/
theorem EvS.retVar (i : Nat) {x : Str} {p q : Pos} (hx : C.vars[i]? = some x) (hi : i ∈ C.own) (hd : (x == ("__debug__" : Str)) = false := by decide) : EvS prog w C n (.Return (some (.Name x p)) q) (pRet fun ρ => ρ[i]?.join) := fun A E env b s0 s ρ ρ' fl Q he hA F hf hQ => by
  obtain ⟨pv, hp, e⟩ := Option.map_eq_some_iff.mp hf
  cases e
  have hρ : ρ[i]? = some (some pv) := Option.join_eq_some_iff.mp hp
  obtain ⟨v, H, R, o⟩ := F.vals i x pv hx hρ
  exact wpAny_Return_some (wpAny_Name (load_holds he H (hQ _ _ F ⟨v, rfl, R, o.1 hi⟩)) hd)

def pIf (t : REnv → Option Bool) (f g : REnv → Option (PFlow × REnv)) : REnv → Option (PFlow × REnv) := fun ρ => (t ρ).bind fun k => if k then f ρ else g ρ

theorem EvS.ite {t : Expr} {body orelse : List Stmt} {p : Pos} {ft : REnv → Option Bool} {f g : REnv → Option (PFlow × REnv)} (ht : EvT prog w C n t ft) (hb : EvSs prog w C n body f) (ho : EvSs prog w C n orelse g) :
    EvS prog w C n (.If t body orelse p) (pIf ft f g) := fun A E env b s0 s ρ ρ' fl Q he hA F hf hQ => by
  obtain ⟨k, hk, hf⟩ := Option.bind_eq_some_iff.mp hf
  refine wpAny_If (ht A E env b s0 s ρ k _ he hA F hk fun s₁ h₁ => ?_)
  cases k with
  | true => exact hb A E env b s0 s₁ ρ ρ' fl Q he hA (F.keeps h₁) hf hQ
  | false => exact ho A E env b s0 s₁ ρ ρ' fl Q he hA (F.keeps h₁) hf hQ

theorem EvS.brk {p : Pos} : EvS prog w C n (.Break p) (fun ρ => some (.brk, ρ)) := fun A E env b s0 s ρ ρ' fl Q he hA F hf hQ => by
  cases hf; exact wpAny_Break (hQ _ _ F rfl)

end
end Mine
end PartFw6

/- part Fw7 -/
section PartFw7
open PySem PySem.W PyProof.Rows PySem.SeqAt
namespace Mine

def FnOk (prog : Program) (w : World) (n i : Nat) (F : List PV → Option PV) : Prop :=
  ∀ (A : Around) (s : Shared) (vals : List Value) (args : List PV) (pv : PV) (R : Result → Shared → Prop) (f : Addr) (o : Obj) (nm : Str) (a : Arguments) (bd : List Stmt) (d : List Expr) (r : Option Expr) (tp : List TypeParam) (sc : Scope) (ts : Option Scope) (bi : Str) (ps : Pos) (pm code doc : Value),
    pw.main.body[i]? = some (.FunctionDef nm a bd d r tp sc ts bi ps) → AOk A n → TP s.heap → s.heap.get? f = some o → o.data = .func (Calls.docDef nm a bd sc pm code doc) → s.heap.CodeRec code nm →
    Paired (fun v p => VR s.heap v p) vals args → F args = some pv →
    (∀ v s', Keeps s s' → VR s'.heap v pv → (∀ a, v = .ref a → s.heap.get? a = none) → R (.ok (.ret v)) s') → codeAny (model prog w) A (.call (.ref f) ⟨vals, []⟩) R s

section
variable {prog : Program} {w : World} {C : Cx} {n : Nat}

theorem evalArgs_es {M : Model} {A : Around} {E : Value → Shared → Prop} {s : Shared} {env : Env} {e : Expr} {es : List Expr} {pos : Pos} {f : Value} {Q : Args → Shared → Prop}
    (he : starEach (e :: es) env = (false, eval e env) :: starEach es env)
    (h : wpAny M A (spliced (backTo pos (starEach (e :: es) env))) (fun vs s' => Q { pos := vs } s') E s) : wpAny M A (evalArgs f true (backTo pos (starEach (e :: es) env)) []) Q E s := by
  rw [he] at h ⊢
  exact Calls.evalArgs_plain h

theorem name_global {A : Around} {E : Value → Shared → Prop} {env : Env} {s : Shared} {x : Str} {p : Pos} {mg : Str → Option Value} {v : Value} {Q : Value → Shared → Prop} (he : EnvIs C.sc env) (hx : C.sc.names.lookup x = some .globalImplicit)
    (hg : s.heap.Ns mainGlobals mg) (hv : mg x = some v) (h : Q v s) (hd : (x == ("__debug__" : Str)) = false := by decide) : wpAny (model prog w) A (eval (.Name x p) env) Q E s :=
  Calls.Name_function_global (by rw [he.scope]; exact he.kind) ((he.kindOf x).trans hx) (Calls.loadGlobal_global (he.globals ▸ hg) hv h) hd
theorem name_builtin {A : Around} {E : Value → Shared → Prop} {env : Env} {s : Shared} {x : Str} {p : Pos} {v : Value} {Q : Value → Shared → Prop} (he : EnvIs C.sc env) (hx : C.sc.names.lookup x = some .globalImplicit)
    (T : TP s.heap) (hm : (x, v) ∈ builtinsUsed) (h : Q v s) (hd : (x == ("__debug__" : Str)) = false := by decide) : wpAny (model prog w) A (eval (.Name x p) env) Q E s := by
  obtain ⟨mg, mb, h1, h2, _, h4, _⟩ := T.ns
  exact Calls.Name_function_global (by rw [he.scope]; exact he.kind) ((he.kindOf x).trans hx) (Calls.loadGlobal_builtin (he.globals ▸ h1) (h4 _ hm).1 (he.builtins ▸ h2) (h4 _ hm).2 h) hd

theorem EvX.call {i : Nat} {x : Str} {a : Arguments} {bd : List Stmt} {d : List Expr} {r : Option Expr} {tp : List TypeParam} {sc : Scope} {ts : Option Scope} {bi : Str} {ps : Pos} {e : Expr} {es : List Expr} {fs : REnv → Option (List PV)} {F : List PV → Option PV} {p q : Pos}
    (hfn : FnOk prog w n i F) (hb : pw.main.body[i]? = some (.FunctionDef x a bd d r tp sc ts bi ps)) (hx : C.sc.names.lookup x = some .globalImplicit) (hl : EvL prog w C n (e :: es) fs)
    (hse : ∀ env, starEach (e :: es) env = (false, eval e env) :: starEach es env := by intro _; rfl) (hany : ∀ env, (backTo q (starEach (e :: es) env)).any (·.1) = false := by intro _; rfl)
    (hd : (x == ("__debug__" : Str)) = false := by decide) :
    EvX prog w C n true (.Call (.Name x p) (e :: es) [] q) (fun ρ => (fs ρ).bind F) := fun A E env b s0 s ρ pv Q he hA F' hf hQ => by
  obtain ⟨args, ha, hf⟩ := Option.bind_eq_some_iff.mp hf
  obtain ⟨mg, mb, h1, h2, h3, _⟩ := F'.tp.ns
  obtain ⟨f, o, pm, code, doc, hmg, ho, hdat, hcd⟩ := h3 i _ _ _ _ _ _ _ _ _ _ hb
  refine wpAny_Call_NameR (name_global he hx h1 hmg ?_ hd)
  refine Calls.callWith_function (o := o) (fd := Calls.docDef x a bd sc pm code doc) (evalArgs_es (hse env) (hl A E env b s0 s ρ args q _ he hA F' ha fun vs s₁ k rs => ⟨⟨Keeps.get k ho, hdat⟩, ?_⟩))
  refine wpAny_call (hfn A s₁ vs args pv _ f o x a bd d r tp sc ts bi ps pm code doc hb hA (F'.keeps k).tp (Keeps.get k ho) hdat (hcd.keeps fun _ _ => Keeps.get k) rs hf fun v s₂ k₂ rv fr => ?_)
  exact hQ v s₂ (Keeps.trans k k₂) rv fun _ a e => fresh_back k (fr a e)

/-- a call of a built-in by its name -/
def BuiltinOk (prog : Program) (w : World) (n : Nat) (f : Value) (F : List PV → Option PV) : Prop :=
  ∀ (s : Shared) (vals : List Value) (args : List PV) (pv : PV), TP s.heap → Paired (fun v p => VR s.heap v p) vals args → F args = some pv → Gives1 prog w n (call f vals) s pv

theorem EvX.builtin {x : Str} {id : String} {e : Expr} {es : List Expr} {fs : REnv → Option (List PV)} {F : List PV → Option PV} {p q : Pos}
    (hfn : BuiltinOk prog w n (.builtin id) F) (hm : (x, Value.builtin id) ∈ builtinsUsed) (hx : C.sc.names.lookup x = some .globalImplicit) (hl : EvL prog w C n (e :: es) fs)
    (hse : ∀ env, starEach (e :: es) env = (false, eval e env) :: starEach es env := by intro _; rfl) (hany : ∀ env, (backTo q (starEach (e :: es) env)).any (·.1) = false := by intro _; rfl)
    (hd : (x == ("__debug__" : Str)) = false := by decide) :
    EvX prog w C n true (.Call (.Name x p) (e :: es) [] q) (fun ρ => (fs ρ).bind F) := fun A E env b s0 s ρ pv Q he hA F' hf hQ => by
  obtain ⟨args, ha, hf⟩ := Option.bind_eq_some_iff.mp hf
  refine wpAny_Call_NameR (name_builtin he hx F'.tp hm ?_ hd)
  refine Calls.callWith_builtin (hany env) (evalArgs_es (hse env) (hl A E env b s0 s ρ args q _ he hA F' ha fun vs s₁ k rs => ?_))
  exact hfn s₁ vs args pv (F'.keeps k).tp rs hf A E Q hA fun v s₂ k₂ rv fr => hQ v s₂ (Keeps.trans k k₂) rv fun _ a e => fresh_back k (fr a e)

/-- a global's text -/
theorem EvX.crlf {p : Pos} (hx : C.sc.names.lookup ("CRLF" : Str) = some .globalImplicit) : EvX prog w C n true (.Name "CRLF" p) (fun _ => some (.str [13, 10])) := fun A E env b s0 s ρ pv Q he hA F hf hQ => by
  cases hf
  obtain ⟨mg, mb, h1, h2, h3, h4, ⟨t, h5⟩, _⟩ := F.tp.ns
  exact name_global he hx h1 h5 (hQ _ _ (Keeps.refl s) ⟨t, rfl⟩ fun _ => no_ref_str)

def len1 : List PV → Option PV
  | [.li xs] => if xs.length ≤ cap then some (.int xs.length) else none
  | [.ls xs] => if xs.length ≤ cap then some (.int xs.length) else none
  | _ => none
theorem len_ok : BuiltinOk prog w n (.builtin "len") len1 := fun s vals args pv T hv hf A E Q hA hQ => by
  have key : ∀ {α : Type} {R : Value → α → Prop} {a : Addr} {vs : List Value} {xs : List α}, PlainL s.heap a vs.toArray → Paired R vs xs → xs.length ≤ cap → pv = .int xs.length → wpAny (model prog w) A (call (.builtin "len") [.ref a]) Q E s := fun {α R a vs xs} hl hp hc e => by
    subst e
    have hz : vs.toArray.size = xs.length := by rw [List.size_toArray]; exact hp.length
    have hcap : cap = 100000 := rfl
    refine Calls.call_len_list hl.isList (by rw [hz]; omega) ?_
    rw [hz]
    exact hQ _ _ (keeps_tok s _) ⟨_, rfl⟩ no_ref_int
  unfold len1 at hf
  split at hf
  · split at hf <;> cases hf
    cases hv with | cons h1 t => cases t; obtain ⟨a, vs, rfl, hl, hp⟩ := h1; exact key hl hp (by assumption) rfl
  · split at hf <;> cases hf
    cases hv with | cons h1 t => cases t; obtain ⟨a, vs, rfl, hl, hp⟩ := h1; exact key hl hp (by assumption) rfl
  · cases hf


def minF : List PV → Option PV
  | [.int a, .int b] => some (.int (if b < a then b else a))
  | _ => none
theorem min_ok : BuiltinOk prog w n (.builtin "min") minF := fun s vals args pv T hv hf A E Q hA hQ => by
  unfold minF at hf
  split at hf
  · rename_i a b
    cases hf
    cases hv with
    | cons h1 t =>
      cases t with
      | cons h2 t =>
        cases t
        obtain ⟨u, rfl⟩ := h1
        obtain ⟨u', rfl⟩ := h2
        refine min_two_ints hA.1 fun h' tk hk => ?_
        have k : Keeps s { s with heap := h', toks := tk } := ⟨h', tk, rfl, hk⟩
        by_cases c : b < a
        · simp only [c, if_true] at hQ ⊢; exact hQ _ _ k ⟨_, rfl⟩ no_ref_int
        · simp only [c, if_false] at hQ ⊢; exact hQ _ _ k ⟨_, rfl⟩ no_ref_int
  · cases hf

def hexText (i : Int) : List Nat := (baseText "0x" 16 i).cps.toList
def hexF : List PV → Option PV
  | [.int a] => if (hexText a).length ≤ cap then some (.str (hexText a)) else none
  | _ => none
theorem hex_ok : BuiltinOk prog w n (.builtin "hex") hexF := fun s vals args pv T hv hf A E Q hA hQ => by
  unfold hexF at hf
  split at hf
  · split at hf <;> cases hf
    rename_i hc
    cases hv with
    | cons h1 t =>
      cases t
      obtain ⟨u, rfl⟩ := h1
      exact P.hex_of_int (hQ _ _ (keeps_tok s _) ⟨_, rfl⟩ no_ref_str) (sizeLine_big (by have : cap = 100000 := rfl; rw [this] at hc; simpa [hexText, Str.length] using hc))
  · cases hf

theorem IntsV.are : ∀ {vs : List Value} {xs : List Int}, IntsV vs xs → IntsAre vs xs
  | _, _, .nil => .nil
  | _, _, .cons ⟨t, e⟩ r => by subst e; exact .cons _ t (IntsV.are r)
theorem StrsV.are : ∀ {vs : List Value} {xs : List (List Nat)}, StrsV vs xs → StrsAre vs (xs.map mkS)
  | _, _, .nil => .nil
  | _, _, .cons ⟨t, e⟩ r => by subst e; exact .cons _ t (StrsV.are r)
theorem StrsAre.back : ∀ {vs : List Value} {ys : List Str}, StrsAre vs ys → StrsV vs (ys.map (·.cps.toList))
  | _, _, .nil => .nil
  | _, _, .cons y t r => .cons ⟨t, rfl⟩ (StrsAre.back r)

def sumSmall : List Int → Bool := fun xs => xs.length ≤ 1000 && xs.all fun x => x.natAbs ≤ 1000000000
theorem sumFits_small {xs : List Int} (h : sumSmall xs = true) : PySem.SumFits xs := by
  unfold sumSmall at h
  simp only [Bool.and_eq_true, decide_eq_true_eq, List.all_eq_true] at h
  obtain ⟨h1, h2⟩ := h
  have key : ∀ ys : List Int, (∀ y ∈ ys, y.natAbs ≤ 1000000000) → ys.sum.natAbs ≤ ys.length * 1000000000 := fun ys => by
    induction ys with
    | nil => intro _; simp
    | cons y r ih =>
      intro hy
      have := ih fun z hz => hy z (List.mem_cons_of_mem _ hz)
      have := hy y List.mem_cons_self
      rw [List.sum_cons, List.length_cons, Nat.add_mul]
      omega
  intro j hj
  have e1 : xs.getD j 0 ∈ xs := by rw [List.getD_eq_getElem?_getD, List.getElem?_eq_getElem hj]; exact List.getElem_mem hj
  have e2 := h2 _ e1
  have e3 := key (xs.take (j + 1)) fun y hy => h2 y (List.mem_of_mem_take hy)
  have e4 : (xs.take (j + 1)).length ≤ 1000 := by rw [List.length_take]; omega
  have e5 : (xs.take (j + 1)).length * 1000000000 ≤ 1000 * 1000000000 := Nat.mul_le_mul_right _ e4
  constructor <;> (unfold InLong; omega)

/-- the order of texts -/
def leS (a b : List Nat) : Prop := ¬ b < a
def insS (x : List Nat) : List (List Nat) → List (List Nat)
  | [] => [x]
  | y :: r => if y < x then y :: insS x r else x :: y :: r
def sortS : List (List Nat) → List (List Nat)
  | [] => []
  | x :: r => insS x (sortS r)

theorem insS_perm (x : List Nat) : ∀ l, (insS x l).Perm (x :: l)
  | [] => .refl _
  | y :: r => by
    unfold insS
    split
    · exact ((insS_perm x r).cons y).trans (.swap x y r)
    · exact .refl _
theorem sortS_perm : ∀ l, (sortS l).Perm l
  | [] => .refl _
  | x :: r => (insS_perm x (sortS r)).trans ((sortS_perm r).cons x)
theorem leS_trans {a b c : List Nat} (h : leS a b) (h' : leS b c) : leS a c := by
  have h1 : a ≤ b := List.not_lt.mp h
  have h2 : b ≤ c := List.not_lt.mp h'
  exact List.not_lt.mpr (List.le_trans h1 h2)
theorem leS_antisymm {a b : List Nat} (h : leS a b) (h' : leS b a) : a = b := by
  have h1 : a ≤ b := List.not_lt.mp h
  have h2 : b ≤ a := List.not_lt.mp h'
  exact List.le_antisymm h1 h2
theorem insS_sorted (x : List Nat) : ∀ l, l.Pairwise leS → (insS x l).Pairwise leS
  | [], _ => by simp [insS]
  | y :: r, h => by
    obtain ⟨h1, h2⟩ := List.pairwise_cons.mp h
    unfold insS
    split
    · rename_i hlt
      refine List.pairwise_cons.mpr ⟨fun z hz => ?_, insS_sorted x r h2⟩
      rcases List.mem_cons.mp ((insS_perm x r).mem_iff.mp hz) with rfl | hz
      · exact List.not_lt.mpr (List.le_of_lt hlt)
      · exact h1 z hz
    · rename_i hge
      refine List.pairwise_cons.mpr ⟨fun z hz => ?_, h⟩
      rcases List.mem_cons.mp hz with rfl | hz
      · exact hge
      · exact leS_trans hge (h1 z hz)
theorem sortS_sorted : ∀ l, (sortS l).Pairwise leS
  | [] => .nil
  | x :: r => insS_sorted x _ (sortS_sorted r)
theorem sorted_unique : ∀ {a b : List (List Nat)}, a.Perm b → a.Pairwise leS → b.Pairwise leS → a = b
  | [], b, h, _, _ => (List.Perm.nil_eq h)
  | x :: r, [], h, _, _ => absurd h.length_eq (by simp)
  | x :: r, y :: t, h, ha, hb => by
    obtain ⟨a1, a2⟩ := List.pairwise_cons.mp ha
    obtain ⟨b1, b2⟩ := List.pairwise_cons.mp hb
    have e : x = y := by
      rcases List.mem_cons.mp (h.mem_iff.mp List.mem_cons_self) with e | hx
      · exact e
      · rcases List.mem_cons.mp (h.mem_iff.mpr List.mem_cons_self) with e | hy
        · exact e.symm
        · exact leS_antisymm (a1 y hy) (b1 x hx)
    subst e
    rw [sorted_unique (List.Perm.cons_inv h) a2 b2]

theorem risingS_pairwise : ∀ (p : Str) (l : List Str), risingS p l = true → ((p :: l).map (·.cps.toList)).Pairwise leS
  | p, [], _ => by simp
  | p, x :: r, h => by
    have h' : (!Spec.ltCps x.cps.toList p.cps.toList && risingS x r) = true := h
    rw [Bool.and_eq_true] at h'
    have ih := risingS_pairwise x r h'.2
    have hx : leS p.cps.toList x.cps.toList := by
      have := h'.1
      rw [ltCps_eq] at this
      simpa [leS] using this
    simp only [List.map_cons] at ih ⊢
    refine List.pairwise_cons.mpr ⟨fun z hz => ?_, ih⟩
    rcases List.mem_cons.mp hz with rfl | hz
    · exact hx
    · exact leS_trans hx ((List.pairwise_cons.mp ih).1 z hz)

def sortF : List PV → Option PV
  | [.ls xs] => if xs.length < 64 then some (.ls (sortS xs)) else none
  | _ => none
theorem sorted_ok : BuiltinOk prog w n (.builtin "sorted") sortF := fun s vals args pv T hv hf A E Q hA hQ => by
  unfold sortF at hf
  split at hf
  · split at hf <;> cases hf
    rename_i xs hc
    cases hv with
    | cons h1 t =>
      cases t
      obtain ⟨a, vs, rfl, hl, hp⟩ := h1
      refine sorted_strs hl.isList (StrsV.are hp) (by rw [hp.length]; exact hc) fun out ss' hS hperm hsort => ?_
      obtain ⟨e, he⟩ := sortedAll_at s.heap vs out
      have k : Keeps s { s with heap := sortedAll s.heap vs out } := ⟨_, s.toks, rfl, fun _ _ h => sortedAll_old h⟩
      have hfr : s.heap.get? (s.heap.objs.size + 1) = none := fresh_size (Nat.le_succ _)
      have e1 := StrsAre.back hS
      have e2 : ss'.map (·.cps.toList) = sortS xs := by
        refine sorted_unique ?_ ?_ (sortS_sorted xs)
        · have := hperm.map (·.cps.toList)
          rw [List.map_map] at this
          have e3 : xs.map ((·.cps.toList) ∘ mkS) = xs := by
            have : ((·.cps.toList) ∘ mkS) = id := rfl
            rw [this, List.map_id]
          rw [e3] at this
          exact this.trans (sortS_perm xs).symm
        · cases ss' with
          | nil => exact .nil
          | cons p l => exact risingS_pairwise p l hsort
      rw [e2] at e1
      exact hQ _ _ k ⟨_, out.toList, rfl, ⟨_, e, he, rfl, rfl, rfl⟩, e1⟩ fun a q => by cases q; exact hfr
  · cases hf

def sumF : List PV → Option PV
  | [.li xs] => if sumSmall xs then some (.int xs.sum) else none
  | _ => none
theorem sum_ok : BuiltinOk prog w n (.builtin "sum") sumF := fun s vals args pv T hv hf A E Q hA hQ => by
  unfold sumF at hf
  split at hf
  · split at hf <;> cases hf
    rename_i xs hc
    cases hv with
    | cons h1 t =>
      cases t
      obtain ⟨a, vs, rfl, hl, hp⟩ := h1
      have hi := IntsV.are hp
      have hall : AllInts vs.toArray := hi.allInts
      have hn : numsOf vs.toArray.toList = xs := hi.numsOf
      have hfit := sumFits_small hc
      rw [← hn] at hfit hQ
      generalize vs.toArray = items at hl hall hfit hQ
      obtain ⟨ys, rfl⟩ := hall.items
      rw [nums_intItems] at hfit hQ
      refine sum_intList hA.1 hl.isList (fun j hj => ?_) fun h' tk t' hk => ?_
      · rw [numAt_eq, preSum_eq]; exact hfit j (by simpa using hj)
      · rw [preSum_eq, List.take_of_length_le (by simp)]
        exact hQ _ _ ⟨h', tk, rfl, hk⟩ ⟨_, rfl⟩ no_ref_int
  · cases hf

end
end Mine
end PartFw7

/- part Fw8 -/
section PartFw8
open PySem PySem.W PyProof.Rows PySem.SeqAt
namespace Mine

/-- the datum of a flat value -/
def VF (v : Value) (p : PV) : Prop := p.flat = true ∧ ∀ h, VR h v p

theorem Walks.imp {prog : Program} {w : World} {A : Around} {I : Addr} {fp wr : List Addr} {n : Nat} {P P' : Nat → Value → Prop} {St : Nat → Heap → Prop} (W : Walks prog w A I fp wr n P St) (h : ∀ i v, i < n → P i v → P' i v) : Walks prog w A I fp wr n P' St where
  sub := W.sub
  frame := W.frame
  item := fun i s Q E hi st hQ => W.item i s Q E hi st fun v h' tk hP => hQ v h' tk (h i v hi hP)
  done := W.done
  self := W.self

/-- an iterable, made an iterator -/
def EvIt (prog : Program) (w : World) (C : Cx) (n : Nat) (kept : Bool) (e : Expr) (f : REnv → Option (List PV)) : Prop :=
  ∀ (A : Around) (E : Value → Shared → Prop) (env : Env) (b : Kept) (s0 s : Shared) (ρ : REnv) (items : List PV) (Q : Value → Shared → Prop),
    EnvIs C.sc env → AOk A n → FrC C env b s0 s ρ → f ρ = some items →
    (∀ I fp wr St s', Keeps s s' → Walks prog w A I fp wr items.length (fun i v => ∃ p, items[i]? = some p ∧ VF v p) St → St 0 s'.heap → items.length ≤ sizeLine →
      (∀ a ∈ wr, s.heap.get? a = none) → (∀ a ∈ fp, a < s'.heap.objs.size) → (∀ k h, St k h → ∀ a ∈ wr, ∃ o vs, h.get? a = some o ∧ o.data = .fields vs) →
      (kept = true → ∀ a ∈ fp, a ∈ wr ∨ ∃ o, b a = some o) → Q (.ref I) s') →
    wpAny (model prog w) A (eval e env) (fun x s₁ => wpAny (model prog w) A (pyIter x) Q E s₁) E s

def pyItems : PV → Option (List PV)
  | .li xs => if xs.length ≤ cap then some (xs.map .int) else none
  | .ls xs => if xs.length ≤ cap then some (xs.map .str) else none
  | _ => none

section
variable {prog : Program} {w : World} {C : Cx} {n : Nat}

theorem listIter_data {h : Heap} {I l : Addr} {k : Nat} (x : h.IsListIter I l k) : ∃ o vs, h.get? I = some o ∧ o.data = .fields vs := let ⟨o, ho, _, hd⟩ := x; ⟨o, _, ho, hd⟩

theorem items_of {h : Heap} {v : Value} {p : PV} {items : List PV} (R : VR h v p) (hi : pyItems p = some items) : ∃ (a : Addr) (vs : List Value), v = .ref a ∧ PlainL h a vs.toArray ∧ vs.length = items.length ∧ items.length ≤ cap ∧ ∀ (i : Nat) u, vs[i]? = some u → ∃ q, items[i]? = some q ∧ VF u q := by
  unfold pyItems at hi
  split at hi
  · split at hi <;> cases hi
    obtain ⟨a, vs, rfl, hl, hp⟩ := R
    refine ⟨a, vs, rfl, hl, by rw [List.length_map]; exact hp.length, by rw [List.length_map]; assumption, fun i u hu => ?_⟩
    obtain ⟨x, hx, hf⟩ := Mine.Paired.get' hp hu
    exact ⟨.int x, by rw [List.getElem?_map, hx]; rfl, rfl, fun _ => hf⟩
  · split at hi <;> cases hi
    obtain ⟨a, vs, rfl, hl, hp⟩ := R
    refine ⟨a, vs, rfl, hl, by rw [List.length_map]; exact hp.length, by rw [List.length_map]; assumption, fun i u hu => ?_⟩
    obtain ⟨x, hx, hf⟩ := Mine.Paired.get' hp hu
    exact ⟨.str x, by rw [List.getElem?_map, hx]; rfl, rfl, fun _ => hf⟩
  · cases hi

theorem iter_list {A : Around} {E : Value → Shared → Prop} {s s₁ : Shared} {a : Addr} {vs : List Value} {items : List PV} {b : Kept} {kept : Bool} {Q : Value → Shared → Prop} (hA : AOk A n) (k : Keeps s s₁) (hl : PlainL s₁.heap a vs.toArray) (hlen : vs.length = items.length) (hc : items.length ≤ cap)
    (hat : ∀ (i : Nat) u, vs[i]? = some u → ∃ q, items[i]? = some q ∧ VF u q) (hkept : kept = true → ∃ o, b a = some o)
    (hQ : ∀ I fp wr St s', Keeps s s' → Walks prog w A I fp wr items.length (fun i v => ∃ p, items[i]? = some p ∧ VF v p) St → St 0 s'.heap → items.length ≤ sizeLine →
      (∀ a ∈ wr, s.heap.get? a = none) → (∀ a ∈ fp, a < s'.heap.objs.size) → (∀ k h, St k h → ∀ a ∈ wr, ∃ o vs, h.get? a = some o ∧ o.data = .fields vs) →
      (kept = true → ∀ a ∈ fp, a ∈ wr ∨ ∃ o, b a = some o) → Q (.ref I) s') : wpAny (model prog w) A (pyIter (.ref a)) Q E s₁ := by
  have hlt : a < s₁.heap.objs.size := hl.lt
  refine wpAny_pyIter_list hl.isList ?_
  have W := Walks.list (prog := prog) (w := w) hA.1 s₁.heap.objs.size a (Nat.ne_of_lt hlt) vs.toArray
  have hz : vs.toArray.size = items.length := by rw [List.size_toArray]; exact hlen
  rw [hz] at W
  refine hQ _ _ _ _ _ (Keeps.trans k (keeps_push s₁ _)) (Walks.imp W fun i v _ hv => hat i v (by simpa using hv)) ⟨⟨_, Heap.get?_push_size _ rfl, rfl, rfl⟩, hl.isList.push _⟩ (sizeLine_big hc) (fun c hc => ?_) (fun c hc => ?_) (fun j h st c hc => ?_) fun e c hc => ?_
  · simp only [List.mem_cons, List.not_mem_nil, or_false] at hc; subst hc
    exact fresh_back k (fresh_size (Nat.le_refl _))
  · show c < (s₁.heap.push _).objs.size
    rw [Heap.size_push]
    simp only [List.mem_cons, List.not_mem_nil, or_false] at hc
    rcases hc with e | e
    · rw [e]; exact Nat.lt_succ_self _
    · rw [e]; exact Nat.lt_succ_of_lt hlt
  · simp only [List.mem_cons, List.not_mem_nil, or_false] at hc; subst hc
    exact listIter_data st.1
  · simp only [List.mem_cons, List.not_mem_nil, or_false] at hc
    rcases hc with rfl | rfl
    · exact .inl List.mem_cons_self
    · exact .inr (hkept e)

/-- any list, walked by what turns nothing -/
theorem EvIt.list {k : Bool} {e : Expr} {f : REnv → Option PV} (h : EvX prog w C n k e f) : EvIt prog w C n false e (fun ρ => (f ρ).bind pyItems) := fun A E env b s0 s ρ items Q he hA F hf hQ => by
  obtain ⟨p, hp, hi⟩ := Option.bind_eq_some_iff.mp hf
  refine h A E env b s0 s ρ p _ he hA F hp fun v s₁ k₁ R _ => ?_
  obtain ⟨a, vs, rfl, hl, hlen, hc, hat⟩ := items_of R hi
  exact iter_list (kept := false) (b := b) hA k₁ hl hlen hc hat (fun e => nomatch e) hQ

/-- a list that stands -/
theorem EvIt.var (i : Nat) {x : Str} {p : Pos} (hx : C.vars[i]? = some x) (hi : i ∉ C.own) (hd : (x == ("__debug__" : Str)) = false := by decide) : EvIt prog w C n true (.Name x p) (fun ρ => (ρ[i]?.join).bind pyItems) := fun A E env b s0 s ρ items Q he hA F hf hQ => by
  obtain ⟨pv, hp, hit⟩ := Option.bind_eq_some_iff.mp hf
  have hρ : ρ[i]? = some (some pv) := Option.join_eq_some_iff.mp hp
  obtain ⟨v, H, R, o⟩ := F.vals i x pv hx hρ
  refine wpAny_Name (load_holds he H ?_) hd
  obtain ⟨a, vs, rfl, hl, hlen, hc, hat⟩ := items_of R hit
  exact iter_list hA (Keeps.refl s) hl hlen hc hat (fun _ => o.2 hi a rfl) hQ

def rangeItems : PV → Option (List PV)
  | .int N => if N ≤ 100000 ∧ -100000 ≤ N then some ((List.range N.toNat).map fun (i : Nat) => .int i) else none
  | _ => none

theorem EvIt.range {k : Bool} {e : Expr} {f : REnv → Option PV} {p q : Pos} (h : EvX prog w C n k e f) (hx : C.sc.names.lookup ("range" : Str) = some .globalImplicit)
    (hse : ∀ env, backTo q (starEach [e] env) = [(false, eval e env)] := by intro _; rfl) : EvIt prog w C n true (.Call (.Name "range" p) [e] [] q) (fun ρ => (f ρ).bind rangeItems) := fun A E env b s0 s ρ items Q he hA F hf hQ => by
  obtain ⟨pv, hp, hit⟩ := Option.bind_eq_some_iff.mp hf
  refine wpAny_Call_NameR (name_builtin he hx F.tp (List.mem_cons_self) ?_)
  rw [hse env]
  refine PySem.callWith_type rfl (Calls.evalArgs_plain (Calls.spliced_cons (h A E env b s0 s ρ pv _ he hA F hp fun v s₁ k₁ R _ => Calls.spliced_nil ?_)))
  unfold rangeItems at hit
  split at hit
  · split at hit <;> cases hit
    rename_i N hN
    obtain ⟨t, rfl⟩ := R
    refine call_range_1 ?_
    refine wpAny_pyIter_range (IsRange.new ..) (small_one (by decide) (by decide) (by omega) (by omega)) ?_
    have hsz : Builtin.Range.rangeSize 0 N 1 = (N.toNat : Int) := by rw [rangeSize_one]; split <;> omega
    have W := Walks.range (prog := prog) (w := w) hA.1 (s₁.heap.objs.size + 1) 0 1 N.toNat
    have hlen : ((List.range N.toNat).map fun i : Nat => PV.int i).length = N.toNat := by simp
    rw [← hlen] at W
    have hI : (s₁.heap.push { cls := Value.type "range", data := Data.fields #[Value.int 0 s₁.toks, Value.int N t, Value.int 1 (s₁.toks + 1)] }).objs.size = s₁.heap.objs.size + 1 := Heap.size_push ..
    have kk : Keeps s { s₁ with heap := (s₁.heap.push { cls := Value.type "range", data := Data.fields #[Value.int 0 s₁.toks, Value.int N t, Value.int 1 (s₁.toks + 1)] }).push { cls := Value.type "range_iterator", data := Data.fields #[rawInt 0, rawInt (Builtin.Range.rangeSize 0 N 1), rawInt 1] }, toks := s₁.toks + 1 + 1 } :=
      Keeps.trans k₁ ⟨_, _, rfl, fun _ _ e => Heap.get?_push_of_some _ (Heap.get?_push_of_some _ e)⟩
    show Q (.ref (s₁.heap.push _).objs.size) _
    rw [hI]
    refine hQ (s₁.heap.objs.size + 1) _ _ _ _ kk (Walks.imp W fun i v hi hv => ?_) ?_ (by rw [hlen]; exact sizeLine_big (by omega)) (fun c hc => ?_) (fun c hc => ?_) (fun j h st c hc => ?_) fun _ c hc => .inl hc
    · rw [hlen] at hi
      obtain ⟨t', rfl⟩ := hv
      refine ⟨.int i, by simp [hi], rfl, fun _ => ⟨t', ?_⟩⟩
      simp
    · have e1 : (0 + ((0 : Nat) : Int) * 1) = 0 := by simp
      have e2 : (((((List.range N.toNat).map fun i : Nat => PV.int i).length : Nat) : Int) - ((0 : Nat) : Int)) = Builtin.Range.rangeSize 0 N 1 := by rw [hsz, hlen]; simp
      rw [e1, e2]
      have := Heap.get?_push_size (s₁.heap.push { cls := Value.type "range", data := Data.fields #[Value.int 0 s₁.toks, Value.int N t, Value.int 1 (s₁.toks + 1)] }) (o := { cls := Value.type "range_iterator", data := Data.fields #[rawInt 0, rawInt (Builtin.Range.rangeSize 0 N 1), rawInt 1] }) rfl
      rw [hI] at this
      exact this
    · simp only [List.mem_cons, List.not_mem_nil, or_false] at hc; subst hc
      exact fresh_back k₁ (fresh_size (Nat.le_succ _))
    · simp only [List.mem_cons, List.not_mem_nil, or_false] at hc; subst hc
      show _ < ((s₁.heap.push _).push _).objs.size
      rw [Heap.size_push, Heap.size_push]; omega
    · simp only [List.mem_cons, List.not_mem_nil, or_false] at hc; subst hc
      exact ⟨_, _, st, rfl⟩
  · cases hit
end
end Mine
end PartFw8

/- part Fw9 -/
section PartFw9
open PySem PySem.W PyProof.Rows PySem.SeqAt
namespace Mine

def FieldsAt (h : Heap) (wr : List Addr) : Prop := ∀ a ∈ wr, ∃ o vs, h.get? a = some o ∧ o.data = .fields vs
theorem FieldsAt.list {h : Heap} {wr : List Addr} {a : Addr} {items : Array Value} (x : FieldsAt h wr) (hl : h.IsList a items) : a ∉ wr := fun hm => by
  obtain ⟨o, vs, ho, hd⟩ := x a hm
  obtain ⟨o', ho', _, n, hd'⟩ := hl
  rw [ho] at ho'; cases ho'; rw [hd] at hd'; cases hd'
theorem FieldsAt.ns {h : Heap} {wr : List Addr} {a : Addr} {m : Str → Option Value} (x : FieldsAt h wr) (hl : h.Ns a m) : a ∉ wr := fun hm => by
  obtain ⟨o, vs, ho, hd⟩ := x a hm
  obtain ⟨o', es, ep, ho', hd', _⟩ := hl
  rw [ho] at ho'; cases ho'; rw [hd] at hd'; cases hd'
theorem FieldsAt.cell {h : Heap} {wr : List Addr} {a : Addr} {ov : Option Value} (x : FieldsAt h wr) (hl : h.IsCell a ov) : a ∉ wr := fun hm => by
  obtain ⟨o, vs, ho, hd⟩ := x a hm
  obtain ⟨o', ho', hd'⟩ := hl
  rw [ho] at ho'; cases ho'; rw [hd] at hd'; cases hd'

section
variable {C : Cx} {env : Env} {b : Kept} {s0 s : Shared} {ρ : REnv} {wr : List Addr}

/-- objects that are no list, frame or cell are turned -/
theorem FR.iter {h' : Heap} {tk : Nat} (F : FrC C env b s0 s ρ) (hb : ∀ a ∈ wr, b a = none) (hd : FieldsAt s.heap wr) (hk : ∀ c o, c ∉ wr → s.heap.get? c = some o → h'.get? c = some o) :
    FrC C env b s0 { s with heap := h', toks := tk } ρ := by
  have hns : ∀ {m : Str → Option Value}, s.heap.Ns env.locals m → h'.Ns env.locals m := fun hm => hm.at' fun o e => hk _ o (hd.ns hm) e
  have hcell : ∀ {c : Addr} {ov : Option Value}, s.heap.IsCell c ov → h'.IsCell c ov := fun hc => let ⟨o, ho, e⟩ := hc; ⟨o, hk _ o (hd.cell hc) ho, e⟩
  have hH : ∀ {x : Str} {v : Value}, Holds s.heap env x v → Holds h' env x v := fun H => by
    rcases H with ⟨k, m, hn, e⟩ | ⟨k, c, hc, hv⟩
    · exact .inl ⟨k, m, hns hn, e⟩
    · exact .inr ⟨k, c, hc, hcell hv⟩
  have hV : ∀ {v : Value} {p : PV}, VR s.heap v p → VR h' v p := fun R => R.at fun a e o ho => by
    subst e
    obtain ⟨items, hl⟩ := R.ref
    exact hk a o (hd.list hl) ho
  refine ⟨F.top, fun a o e => hk a o (fun hm => by rw [hb a hm] at e; cases e) (F.keep a o e), F.gens, F.os, F.drawn, F.len, F.nodup, F.slot, F.locB, F.cellB, F.cellsApart, let ⟨m, hm⟩ := F.ns; ⟨m, hns hm⟩,
    fun x c e => let ⟨ov, ho⟩ := F.cells x c e; ⟨ov, hcell ho⟩, fun i x pv hx hp => ?_, fun i j x y pv pw a hio hjo hx hy hp hq H1 H2 => ?_, fun x a hm => ⟨(F.ext x a hm).1, hH (F.ext x a hm).2⟩⟩
  · obtain ⟨v, H, R, o⟩ := F.vals i x pv hx hp
    exact ⟨v, hH H, hV R, o⟩
  · obtain ⟨v, H, R, o⟩ := F.vals i x pv hx hp
    obtain ⟨v', H', R', o'⟩ := F.vals j y pw hy hq
    have e1 := (hH H).same H1
    have e2 := (hH H').same H2
    subst e1; subst e2
    exact F.apart i j x y pv pw a hio hjo hx hy hp hq H H'

def moreKept (b : Kept) (h : Heap) (wr : List Addr) : Kept := fun a => if a ∈ wr then h.get? a else b a
theorem moreKept_in {h : Heap} {a : Addr} (ha : a ∈ wr) : moreKept b h wr a = h.get? a := if_pos ha
theorem moreKept_out {h : Heap} {a : Addr} (ha : a ∉ wr) : moreKept b h wr a = b a := if_neg ha

theorem FR.more (F : FrC C env b s0 s ρ) (hb : ∀ a ∈ wr, b a = none) (hd : FieldsAt s.heap wr) : FrC C env (moreKept b s.heap wr) s0 s ρ := by
  obtain ⟨m, hm⟩ := F.ns
  refine ⟨?_, fun a o e => ?_, F.gens, F.os, F.drawn, F.len, F.nodup, F.slot, by rw [moreKept_out (hd.ns hm)]; exact F.locB, fun x c e => ?_, F.cellsApart, F.ns, F.cells, fun i x pv hx hp => ?_, F.apart, F.ext⟩
  · obtain ⟨hT, h1, h2⟩ := F.top
    refine ⟨hT, h1, fun a o e => ?_⟩
    have := h2 a o e
    rw [moreKept_out fun hm => by rw [hb a hm] at this; cases this]
    exact this
  · by_cases ha : a ∈ wr
    · rw [moreKept_in ha] at e; exact e
    · rw [moreKept_out ha] at e; exact F.keep a o e
  · obtain ⟨ov, ho⟩ := F.cells x c e
    rw [moreKept_out (hd.cell ho)]; exact F.cellB x c e
  · obtain ⟨v, H, R, o⟩ := F.vals i x pv hx hp
    refine ⟨v, H, R, fun hi a e => ?_, fun hi a e => ?_⟩
    all_goals
      subst e
      obtain ⟨items, hl⟩ := R.ref
      rw [moreKept_out (hd.list hl)]
    · exact o.1 hi a rfl
    · exact o.2 hi a rfl

theorem FR.less {h₁ : Heap} {s' : Shared} {ρ' : REnv} (F' : FrC C env (moreKept b h₁ wr) s0 s' ρ') (htop : ∃ hT, TP hT ∧ ∀ a o, hT.get? a = some o → b a = some o) (hb : ∀ a ∈ wr, b a = none) (hd : FieldsAt h₁ wr) : FrC C env b s0 s' ρ' := by
  have kept : ∀ a o, b a = some o → moreKept b h₁ wr a = some o := fun a o e => by
    rw [moreKept_out fun hm => by rw [hb a hm] at e; cases e]; exact e
  have back : ∀ a, moreKept b h₁ wr a = none → b a = none := fun a e => by
    cases q : b a with
    | none => rfl
    | some o => rw [kept a o q] at e; cases e
  have hd' : FieldsAt s'.heap wr := fun a ha => by
    obtain ⟨o, vs, ho, hv⟩ := hd a ha
    exact ⟨o, vs, F'.keep a o (by rw [moreKept_in ha]; exact ho), hv⟩
  refine ⟨htop, fun a o e => F'.keep a o (kept a o e), F'.gens, F'.os, F'.drawn, F'.len, F'.nodup, F'.slot, back _ F'.locB, fun x c e => back _ (F'.cellB x c e), F'.cellsApart, F'.ns, F'.cells, fun i x pv hx hp => ?_, F'.apart, F'.ext⟩
  obtain ⟨v, H, R, o⟩ := F'.vals i x pv hx hp
  refine ⟨v, H, R, fun hi a e => back a (o.1 hi a e), fun hi a e => ?_⟩
  obtain ⟨o', ho'⟩ := o.2 hi a e
  subst e
  obtain ⟨items, hl⟩ := R.ref
  rw [moreKept_out (hd'.list hl)] at ho'
  exact ⟨o', ho'⟩
end

def pFor (i : Nat) (body : REnv → Option (PFlow × REnv)) : List PV → REnv → Option (PFlow × REnv)
  | [], ρ => some (.next, ρ)
  | x :: xs, ρ => match body (ρ.set i (some x)) with
    | some (.next, ρ') => pFor i body xs ρ'
    | r => r

def loopEnd (orelse : REnv → Option (PFlow × REnv)) : Option (PFlow × REnv) → Option (PFlow × REnv)
  | some (.next, ρ') => orelse ρ'
  | some (.brk, ρ') => some (.next, ρ')
  | r => r

def pForElse (it : REnv → Option (List PV)) (i : Nat) (body orelse : REnv → Option (PFlow × REnv)) : REnv → Option (PFlow × REnv) := fun ρ =>
  (it ρ).bind fun items => loopEnd orelse (pFor i body items ρ)

def pSkip : REnv → Option (PFlow × REnv) := fun ρ => some (.next, ρ)

section
variable {prog : Program} {w : World} {C : Cx} {n : Nat}

theorem FlowR.back {b b' : Kept} {h : Heap} {f : Flow} {fl : PFlow} (k : ∀ a, b' a = none → b a = none) (x : FlowR b' h f fl) : FlowR b h f fl := by
  cases fl with
  | next => exact x
  | brk => exact x
  | ret p => obtain ⟨v, e, r, q⟩ := x; exact ⟨v, e, r, fun a e => k a (q a e)⟩

theorem EvS.loop (i : Nat) {x : Str} {iter : Expr} {body orelse : List Stmt} {p q : Pos} {fit : REnv → Option (List PV)} {fb fo : REnv → Option (PFlow × REnv)} (hx : C.vars[i]? = some x) (hi : i ∈ C.own)
    (hit : EvIt prog w C n true iter fit) (hb : EvSs prog w C n body fb) (ho : EvSs prog w C n orelse fo) (hs : ∀ env x, foldedSetIterable iter env x = pure x := by intro _ _; rfl) :
    EvS prog w C n (.For (.Name x p) iter body orelse q) (pForElse fit i fb fo) := fun A E env b s0 s ρ ρ' fl Q he hA F hf hQ => by
  obtain ⟨items, hitems, hf⟩ := Option.bind_eq_some_iff.mp hf
  refine wpAny_For (hit A E env b s0 s ρ items _ he hA F hitems fun I fp wr St s₁ k W st0 hsz hwr hfp hfld hkept => ?_) (hs env)
  have hwb : ∀ a ∈ wr, b a = none := fun a ha => fresh_kept F (hwr a ha)
  refine codeAny_forLoop (fun m s' => ∃ j ρj, m = items.length + 1 - j ∧ j ≤ items.length ∧ St j s'.heap ∧ FrC C env b s0 s' ρj ∧ loopEnd fo (pFor i fb (items.drop j) ρj) = some (fl, ρ')) (fun m s' hI => ?_) (items.length + 1)
    ⟨0, ρ, rfl, Nat.zero_le _, st0, F.keeps k, by rw [List.drop_zero]; exact hf⟩
  obtain ⟨j, ρj, rfl, hj, st, Fj, hres⟩ := hI
  have hdj : FieldsAt s'.heap wr := hfld j _ st
  by_cases hlt : j < items.length
  · refine W.item j s' _ _ hlt st fun v h' tk hv st' hk' => ?_
    obtain ⟨pv, hp, hflat, hvr⟩ := hv
    have hd1 : FieldsAt h' wr := hfld (j + 1) _ st'
    have F1 : FrC C env b s0 { s' with heap := h', toks := tk } ρj := FR.iter Fj hwb hdj fun c o hc e => hk' c o hc e
    have F1' := FR.more F1 hwb hd1
    have hst : ∀ {s₃ : Shared} {ρ₃ : REnv}, FrC C env (moreKept b h' wr) s0 s₃ ρ₃ → St (j + 1) s₃.heap := fun {s₃ ρ₃} F₃ => W.frame _ _ _ st' fun c hc o e => by
      refine F₃.keep c o ?_
      by_cases hw : c ∈ wr
      · rw [moreKept_in hw]; exact e
      · rw [moreKept_out hw]
        rcases hkept rfl c hc with h1 | ⟨o', h1⟩
        · exact absurd h1 hw
        · have := F1.keep c o' h1
          rw [show h'.get? c = some o' from this] at e
          cases e; exact h1
    refine wpAny_assign_Name (FR.store he F1' hx hi (hvr _) (fun a e => (VR.flat_ref hflat (e ▸ hvr h')).elim) fun s₂ F₂ _ => ?_)
    have hdrop : items.drop j = pv :: items.drop (j + 1) := by
      rw [List.drop_eq_getElem_cons hlt]
      rw [List.getElem?_eq_getElem hlt] at hp
      cases hp; rfl
    rw [hdrop, pFor] at hres
    have bk : ∀ a, moreKept b h' wr a = none → b a = none := fun a e => by
      cases q : b a with
      | none => rfl
      | some o =>
        rw [moreKept_out fun hm => by rw [hwb a hm] at q; cases q] at e
        rw [q] at e; cases e
    cases e : fb (ρj.set i (some pv)) with
    | none => rw [e] at hres; cases hres
    | some r =>
      obtain ⟨fl₂, ρ₂⟩ := r
      rw [e] at hres
      refine hb A _ env _ s0 s₂ _ ρ₂ fl₂ _ he hA F₂ e fun f s₃ F₃ hfl => ?_
      have F₃' := FR.less F₃ F.top hwb hd1
      have hfl' := FlowR.back bk hfl
      cases fl₂ with
      | next =>
        cases hfl'
        exact ⟨items.length + 1 - (j + 1), by omega, j + 1, ρ₂, rfl, hlt, hst F₃, F₃', hres⟩
      | brk =>
        cases hfl'
        cases hres
        exact hQ _ _ F₃' rfl
      | ret pr =>
        cases hres
        obtain ⟨u, rfl, r2⟩ := hfl'
        exact hQ _ _ F₃' ⟨u, rfl, r2⟩
  · have hje : j = items.length := Nat.le_antisymm hj (Nat.le_of_not_lt hlt)
    subst hje
    refine W.done s' _ _ st fun h' tk hk' => ?_
    have F1 : FrC C env b s0 { s' with heap := h', toks := tk } ρj := FR.iter Fj hwb hdj fun c o hc e => hk' c o hc e
    rw [List.drop_length, pFor] at hres
    exact ho A _ env b s0 _ ρj ρ' fl _ he hA F1 hres hQ

def pWhile (t : REnv → Option Bool) (body : REnv → Option (PFlow × REnv)) : Nat → REnv → Option (PFlow × REnv)
  | 0, _ => none
  | k + 1, ρ => (t ρ).bind fun c => if c then match body ρ with
      | some (.next, ρ') => pWhile t body k ρ'
      | some (.brk, ρ') => some (.next, ρ')
      | r => r
    else some (.next, ρ)

theorem EvS.while_ (N : Nat) {test : Expr} {body : List Stmt} {q : Pos} {ft : REnv → Option Bool} {fb : REnv → Option (PFlow × REnv)} (ht : EvT prog w C n test ft) (hb : EvSs prog w C n body fb) :
    EvS prog w C n (.While test body [] q) (pWhile ft fb N) := fun A E env b s0 s ρ ρ' fl Q he hA F hf hQ => by
  refine wpAny_While (codeAny_whileLoop (fun m s' => ∃ ρj, FrC C env b s0 s' ρj ∧ pWhile ft fb m ρj = some (fl, ρ')) (fun m s' hI => ?_) N ⟨ρ, F, hf⟩)
  obtain ⟨ρj, Fj, hres⟩ := hI
  cases m with
  | zero => cases hres
  | succ m =>
    rw [pWhile] at hres
    obtain ⟨c, hc, hres⟩ := Option.bind_eq_some_iff.mp hres
    refine ht A _ env b s0 s' ρj c _ he hA Fj hc fun s₁ k => ?_
    cases c with
    | false =>
      cases hres
      exact wpAny_execs_nil (hQ _ _ (Fj.keeps k) rfl)
    | true =>
      simp only [if_true] at hres ⊢
      cases e : fb ρj with
      | none => rw [e] at hres; cases hres
      | some r =>
        obtain ⟨fl₂, ρ₂⟩ := r
        rw [e] at hres
        refine hb A _ env b s0 s₁ ρj ρ₂ fl₂ _ he hA (Fj.keeps k) e fun f s₂ F₂ hfl => ?_
        cases fl₂ with
        | next => cases hfl; exact ⟨m, Nat.lt_succ_self _, ρ₂, F₂, hres⟩
        | brk => cases hfl; cases hres; exact hQ _ _ F₂ rfl
        | ret pr => cases hres; obtain ⟨u, rfl, r2⟩ := hfl; exact hQ _ _ F₂ ⟨u, rfl, r2⟩
end
end Mine
end PartFw9

/- part Fw10 -/
section PartFw10
open PySem PySem.W PyProof.Rows PySem.SeqAt
namespace Mine

theorem bindL_other {kindOf : Str → Option NameKind} {x : Str} : ∀ (binds : List (Str × Value)) (m : Str → Option Value), x ∉ binds.map (·.1) → bindL kindOf binds m x = m x
  | [], _, _ => rfl
  | (n, v) :: r, m, h => by
    unfold bindL
    have h1 : x ≠ n := fun e => h (by rw [e]; simp)
    have h2 : x ∉ r.map (·.1) := fun e => h (by rw [List.map_cons]; exact List.mem_cons_of_mem _ e)
    rw [bindL_other r _ h2]
    split
    · simp [h1]
    · rfl
theorem bindC_other {kindOf : Str → Option NameKind} {x : Str} : ∀ (binds : List (Str × Value)) (m : Str → Option Value), x ∉ binds.map (·.1) → bindC kindOf binds m x = m x
  | [], _, _ => rfl
  | (n, v) :: r, m, h => by
    unfold bindC
    have h1 : x ≠ n := fun e => h (by rw [e]; simp)
    have h2 : x ∉ r.map (·.1) := fun e => h (by rw [List.map_cons]; exact List.mem_cons_of_mem _ e)
    rw [bindC_other r _ h2]
    split
    · rfl
    · simp [h1]
theorem bindL_get {kindOf : Str → Option NameKind} {x : Str} {v : Value} (hk : kindOf x = some .local) : ∀ (binds : List (Str × Value)) (m : Str → Option Value), (binds.map (·.1)).Nodup → (x, v) ∈ binds → bindL kindOf binds m x = some v
  | (n, u) :: r, m, hn, hm => by
    rw [List.map_cons] at hn
    obtain ⟨h1, h2⟩ := List.nodup_cons.mp hn
    unfold bindL
    rcases List.mem_cons.mp hm with e | hm
    · cases e
      rw [bindL_other r _ h1, if_pos hk]; simp
    · exact bindL_get hk r _ h2 hm
theorem bindC_get {kindOf : Str → Option NameKind} {x : Str} {v : Value} (hk : ¬ kindOf x = some .local) : ∀ (binds : List (Str × Value)) (m : Str → Option Value), (binds.map (·.1)).Nodup → (x, v) ∈ binds → bindC kindOf binds m x = some v
  | (n, u) :: r, m, hn, hm => by
    rw [List.map_cons] at hn
    obtain ⟨h1, h2⟩ := List.nodup_cons.mp hn
    unfold bindC
    rcases List.mem_cons.mp hm with e | hm
    · cases e
      rw [bindC_other r _ h1, if_neg hk]; simp
    · exact bindC_get hk r _ h2 hm

/-- a contract: what stands by b is kept, the own arguments may be turned -/
def FnB (prog : Program) (w : World) (n i : Nat) (own : List Nat) (F : List PV → Option PV) : Prop :=
  ∀ (A : Around) (s : Shared) (b : Kept) (vals : List Value) (args : List PV) (pv : PV) (R : Result → Shared → Prop) (f : Addr) (o : Obj) (nm : Str) (a : Arguments) (bd : List Stmt) (d : List Expr) (r : Option Expr) (tp : List TypeParam) (sc : Scope) (ts : Option Scope) (bi : Str) (ps : Pos) (pm code doc : Value),
    pw.main.body[i]? = some (.FunctionDef nm a bd d r tp sc ts bi ps) → AOk A n → (∃ hT, TP hT ∧ ∀ a o, hT.get? a = some o → b a = some o) → (∀ a o, b a = some o → s.heap.get? a = some o) →
    s.heap.get? f = some o → o.data = .func (Calls.docDef nm a bd sc pm code doc) → s.heap.CodeRec code nm →
    Paired (fun v p => VR s.heap v p) vals args →
    (∀ (j : Nat) v, vals[j]? = some v → (j ∈ own → ∀ a, v = .ref a → b a = none) ∧ (j ∉ own → ∀ a, v = .ref a → ∃ o, b a = some o)) →
    (∀ (j k : Nat) a, j ∈ own → k ∈ own → vals[j]? = some (.ref a) → vals[k]? = some (.ref a) → j = k) → F args = some pv →
    (∀ v s', s'.gens = s.gens → s'.os = s.os → s'.drawn = s.drawn → (∀ a o, b a = some o → s'.heap.get? a = some o) → VR s'.heap v pv → (∀ a, v = .ref a → b a = none) → R (.ok (.ret v)) s') → codeAny (model prog w) A (.call (.ref f) ⟨vals, []⟩) R s

theorem FnB.ok {prog : Program} {w : World} {n i : Nat} {F : List PV → Option PV} (h : FnB prog w n i [] F) : FnOk prog w n i F := fun A s vals args pv R f o nm a bd d r tp sc ts bi ps pm code doc hb hA hT ho hd hcd hv hF hR =>
  h A s (fun a => s.heap.get? a) vals args pv R f o nm a bd d r tp sc ts bi ps pm code doc hb hA ⟨s.heap, hT, fun _ _ e => e⟩ (fun _ _ e => e) ho hd hcd hv
    (fun j v hj => ⟨fun e => (nomatch e), fun _ a e => by
      subst e
      obtain ⟨p, _, hp⟩ := Mine.Paired.get' hv hj
      obtain ⟨items, o, ho, _⟩ := hp.ref
      exact ⟨o, ho⟩⟩)
    (fun j k a hj => (nomatch hj)) hF fun v s' h1 h2 h3 h4 h5 h6 => hR v s' ⟨s'.heap, s'.toks, by cases s; cases s'; simp only at h1 h2 h3; subst h1 h2 h3; rfl, h4⟩ h5 h6

structure BodyOk (sc : Scope) (params rest : List Str) (own : List Nat) : Prop where
  nodup : (params ++ rest).Nodup
  kinds : ∀ x ∈ params ++ rest, sc.names.lookup x = some .local ∨ sc.names.lookup x = some .cell
  co : sc.isCoroutine = false
  gen : sc.isGenerator = false
  kind : sc.kind = .function

theorem enter {prog : Program} {w : World} {A : Around} {s : Shared} {b : Kept} {vals : List Value} {args : List PV} {f : Addr} {o : Obj} {nm : Str} {a : Arguments} {bd : List Stmt} {sc : Scope} {pm code doc : Value}
    {params rest : List Str} {own : List Nat} {R : Result → Shared → Prop} (hroom : A.depth < 900) (hT : ∃ hT, TP hT ∧ ∀ a o, hT.get? a = some o → b a = some o) (hbs : ∀ a o, b a = some o → s.heap.get? a = some o)
    (ho : s.heap.get? f = some o) (hd : o.data = .func (Calls.docDef nm a bd sc pm code doc)) (hcd : s.heap.CodeRec code nm) (hv : Paired (fun v p => VR s.heap v p) vals args)
    (hown : ∀ (j : Nat) v, vals[j]? = some v → (j ∈ own → ∀ a, v = .ref a → b a = none) ∧ (j ∉ own → ∀ a, v = .ref a → ∃ o, b a = some o))
    (hap : ∀ (j k : Nat) a, j ∈ own → k ∈ own → vals[j]? = some (.ref a) → vals[k]? = some (.ref a) → j = k) (hlen : args.length = params.length) (ok : BodyOk sc params rest own)
    (hbind : ∀ pm code doc (vals : List Value), vals.length = params.length → bindArgs (Calls.docDef nm a bd sc pm code doc) ⟨vals, []⟩ = pure (params.zip vals))
    (hbody : ∀ env s₁, EnvIs sc env → env.frame = some env.locals → env.locals = s.heap.objs.size → (∀ a o, s.heap.get? a = some o → s₁.heap.get? a = some o) → FrC ⟨sc, params ++ rest, own, []⟩ env b s s₁ (args.map some ++ List.replicate rest.length none) →
      wpAny (model prog w) (A.deeper env) (execs bd env) (fun f s' => R (.ok (.ret (match f with | .ret v => v | _ => .none))) s')
        (fun e s' => wpAny (model prog w) (A.deeper env) (leaving env e) (fun _ s'' => R (.error e) s'') (fun e' s'' => R (.error e') s'') s') s₁) : codeAny (model prog w) A (.call (.ref f) ⟨vals, []⟩) R s := by
  have hvl : vals.length = params.length := hv.length.trans hlen
  have hT' : TP s.heap := let ⟨hT, h1, h2⟩ := hT; h1.keeps fun a o e => hbs a o (h2 a o e)
  have hmapfst : (params.zip vals).map (·.1) = params := List.map_fst_zip (by rw [hvl]; exact Nat.le_refl _)
  have hpn : params.Nodup := (List.nodup_append.mp ok.nodup).1
  refine codeAny_call_cells (fd := Calls.docDef nm a bd sc pm code doc) (Nat.lt_of_lt_of_le hroom (by decide)) ho hd hT'.nolimit hcd rfl (hbind pm code doc vals hvl) rfl (fun x hx => ?_) (fun s₁ X => ?_) ok.co ok.gen ok.kind
  · have : x.1 ∈ params := by rw [← hmapfst]; exact List.mem_map_of_mem hx
    rcases ok.kinds x.1 (List.mem_append_left _ this) with h | h
    · exact .inl h
    · exact .inr ⟨h, cellsFrom_some _ _ _ (.inl h)⟩
  · have hL : s.heap.objs.size ≤ s.heap.objs.size := Nat.le_refl _
    have hab : ∀ c, s.heap.objs.size ≤ c → b c = none := fun c hc => by
      cases e : b c with
      | none => rfl
      | some o => have := hbs c o e; rw [fresh_size hc] at this; cases this
    have hcl : ∀ x c, (callEnvC (Calls.docDef nm a bd sc pm code doc) s.heap.objs.size f).cells.lookup x = some c → s.heap.objs.size < c := fun x c e => X.above x c (mem_of_lookup e)
    have hkof : ∀ x, (callEnvC (Calls.docDef nm a bd sc pm code doc) s.heap.objs.size f).kindOf x = sc.names.lookup x := fun _ => rfl
    have hsh : s₁.gens = s.gens ∧ s₁.os = s.os ∧ s₁.drawn = s.drawn := by obtain ⟨h, tk, rfl⟩ := X.toInCall.same; exact ⟨rfl, rfl, rfl⟩
    have hHolds : ∀ (j : Nat) x v, params[j]? = some x → vals[j]? = some v → Holds s₁.heap (callEnvC (Calls.docDef nm a bd sc pm code doc) s.heap.objs.size f) x v := fun j x v hx hv => by
      have hm : (x, v) ∈ params.zip vals := by
        refine List.mem_of_getElem? (i := j) ?_
        rw [List.getElem?_zip_eq_some]; exact ⟨hx, hv⟩
      have hnd : ((params.zip vals).map (·.1)).Nodup := by rw [hmapfst]; exact hpn
      rcases ok.kinds x (List.mem_append_left _ (List.mem_of_getElem? hx)) with h | h
      · exact .inl ⟨(hkof x).trans h, _, X.toInCall.ns, bindL_get ((hkof x).trans h) _ _ hnd hm⟩
      · obtain ⟨c, hc⟩ := Option.isSome_iff_exists.mp (cellsFrom_some (x := x) sc.names (s.heap.objs.size + 1) [] (.inl h))
        refine .inr ⟨(hkof x).trans h, c, hc, ?_⟩
        have hcell := X.cell x c hc
        rw [bindC_get (by rw [hkof, h]; decide) _ _ hnd hm] at hcell
        exact hcell
    have hat : ∀ (i : Nat) x pv, (params ++ rest)[i]? = some x → (args.map some ++ List.replicate rest.length none)[i]? = some (some pv) → params[i]? = some x ∧ ∃ v, vals[i]? = some v ∧ VR s.heap v pv := fun i x pv hx hp => by
      by_cases hi : i < args.length
      · rw [List.getElem?_append_left (by rw [List.length_map]; exact hi), List.getElem?_map] at hp
        rw [List.getElem?_append_left (by omega)] at hx
        obtain ⟨p, hp1, hp2⟩ := Option.map_eq_some_iff.mp hp
        cases hp2
        exact ⟨hx, Mine.Paired.get hv hp1⟩
      · rw [List.getElem?_append_right (by rw [List.length_map]; omega)] at hp
        obtain ⟨hlt, he⟩ := List.getElem?_eq_some_iff.mp hp
        rw [List.getElem_replicate] at he
        cases he
    refine hbody (callEnvC (Calls.docDef nm a bd sc pm code doc) s.heap.objs.size f) s₁ ⟨rfl, ok.kind, rfl, rfl⟩ rfl rfl X.toInCall.keep ?_
    refine ⟨hT, fun a o e => X.toInCall.keep a o (hbs a o e), hsh.1, hsh.2.1, hsh.2.2, ?_, ok.nodup, fun i x hx => ?_, hab _ (Nat.le_refl _), fun x c e => hab c (Nat.le_of_lt (hcl x c e)), fun x y c h1 h2 => name_of_addr X.apart (mem_of_lookup h1) (mem_of_lookup h2), ⟨_, X.toInCall.ns⟩, fun x c e => ⟨_, X.cell x c e⟩, fun i x pv hx hp => ?_, fun i j x y pv pw a hi hj hx hy hp hq H1 H2 => ?_, fun _ _ hm => nomatch hm⟩
    · show (args.map some ++ List.replicate rest.length none).length = (params ++ rest).length
      simp [hlen]
    · rcases ok.kinds x (List.mem_of_getElem? hx) with h | h
      · exact .inl ((hkof x).trans h)
      · exact .inr ⟨(hkof x).trans h, Option.isSome_iff_exists.mp (cellsFrom_some (x := x) sc.names (s.heap.objs.size + 1) [] (.inl h))⟩
    · obtain ⟨h1, v, h2, h3⟩ := hat i x pv hx hp
      exact ⟨v, hHolds i x v h1 h2, h3.keeps X.toInCall.keep, hown i v h2⟩
    · obtain ⟨h1, v, h2, h3⟩ := hat i x pv hx hp
      obtain ⟨h1', v', h2', h3'⟩ := hat j y pw hy hq
      have e := (hHolds i x v h1 h2).same H1
      have e' := (hHolds j y v' h1' h2').same H2
      subst e; subst e'
      exact hap i j a hi hj h2 h2'

theorem FnB.of_body {prog : Program} {w : World} {n i : Nat} {F : List PV → Option PV} {nm : Str} {a : Arguments} {bd : List Stmt} {d : List Expr} {r : Option Expr} {tp : List TypeParam} {sc : Scope} {ts : Option Scope} {bi : Str} {ps : Pos}
    {params rest : List Str} {own : List Nat} {g : REnv → Option (PFlow × REnv)} (hb : pw.main.body[i]? = some (.FunctionDef nm a bd d r tp sc ts bi ps)) (ok : BodyOk sc params rest own)
    (hbind : ∀ pm code doc (vals : List Value), vals.length = params.length → bindArgs (Calls.docDef nm a bd sc pm code doc) ⟨vals, []⟩ = pure (params.zip vals))
    (hbody : EvSs prog w ⟨sc, params ++ rest, own, []⟩ n bd g)
    (hF : ∀ args pv, F args = some pv → args.length = params.length ∧ ∃ ρ', g (args.map some ++ List.replicate rest.length none) = some (.ret pv, ρ')) : FnB prog w (n + 1) i own F := fun A s b vals args pv R f o nm' a' bd' d' r' tp' sc' ts' bi' ps' pm code doc hb' hA hT hbs ho hd hcd hv hown hap hFa hR => by
  rw [hb] at hb'; cases hb'
  obtain ⟨hlen, ρ', hg⟩ := hF args pv hFa
  refine enter (by have := hA.2.1; omega : A.depth < 900) hT hbs ho hd hcd hv hown hap hlen ok hbind fun env s₁ he _ _ _ F => ?_
  have hA' : AOk (A.deeper env) n := by
    obtain ⟨h1, h2, h3⟩ := hA
    refine ⟨h1, ?_, ?_⟩
    · show A.depth + 1 + n ≤ 900; omega
    · show A.units + 3 + 3 * n ≤ 9000; omega
  refine hbody _ _ _ b s s₁ _ ρ' (.ret pv) _ he hA' F hg fun fl s' F' hfl => ?_
  obtain ⟨v, rfl, hvr, hfr⟩ := hfl
  exact hR v s' F'.gens F'.os F'.drawn F'.keep hvr hfr

theorem bodyOk_of {sc : Scope} {params rest : List Str} {own : List Nat} (h : (decide (params ++ rest).Nodup && ((params ++ rest).all fun x => sc.names.lookup x == some .local || sc.names.lookup x == some .cell) && !sc.isCoroutine && !sc.isGenerator && (sc.kind == .function)) = true) : BodyOk sc params rest own := by
  simp only [Bool.and_eq_true, decide_eq_true_eq, Bool.not_eq_true', beq_iff_eq, List.all_eq_true, Bool.or_eq_true] at h
  exact ⟨h.1.1.1.1, h.1.1.1.2, h.1.1.2, h.1.2, h.2⟩
end Mine
end PartFw10

/- part Fw11 -/
section PartFw11
open PySem PySem.W PyProof.Rows PySem.SeqAt
namespace Mine

theorem closure_from {env : Env} : ∀ (names : List (Str × NameKind)) (acc : List (Str × Addr)), (∀ x ∈ names, x.2 = .free → ∃ c, env.cells.lookup x.1 = some c) →
    (∀ x c, acc.lookup x = some c → env.cells.lookup x = some c) →
    ∃ cl, (forIn names acc fun (x : Str × NameKind) (cs : List (Str × Addr)) => (if (x.2 == .free) = true then (do let a ← cellOf env x.1; pure (ForInStep.yield ((x.1, a) :: cs))) else pure (ForInStep.yield cs) : Sem (ForInStep (List (Str × Addr))))) = pure cl ∧
      (∀ x c, cl.lookup x = some c → env.cells.lookup x = some c) ∧ (∀ x, (acc.lookup x).isSome = true → (cl.lookup x).isSome = true) ∧ (∀ x ∈ names, x.2 = .free → (cl.lookup x.1).isSome = true)
  | [], acc, _, ha => ⟨acc, by rw [List.forIn_nil], ha, fun _ e => e, fun _ h => nomatch h⟩
  | (y, k) :: r, acc, hf, ha => by
    rw [List.forIn_cons]
    by_cases hk : k = .free
    · subst hk
      obtain ⟨c, hc⟩ := hf (y, .free) List.mem_cons_self rfl
      have hc' : env.cells.lookup y = some c := hc
      obtain ⟨cl, h1, h2, h3, h4⟩ := closure_from r ((y, c) :: acc) (fun x hx => hf x (List.mem_cons_of_mem _ hx)) (fun x c' e => by
        rw [List.lookup_cons] at e
        cases hb : x == y with
        | true => rw [hb] at e; cases e; rw [beq_iff_eq.mp hb]; exact hc'
        | false => rw [hb] at e; exact ha x c' e)
      refine ⟨cl, ?_, h2, fun x e => h3 x ?_, fun x hx hk => ?_⟩
      · have e1 : cellOf env y = pure c := by unfold cellOf; rw [hc']
        simp only [beq_self_eq_true, if_true, e1, pure_bind]
        exact h1
      · rw [List.lookup_cons]; cases hb : x == y with
        | true => rfl
        | false => exact e
      · rcases List.mem_cons.mp hx with e | hx
        · cases e; exact h3 y (by rw [List.lookup_cons]; simp)
        · exact h4 x hx hk
    · obtain ⟨cl, h1, h2, h3, h4⟩ := closure_from r acc (fun x hx => hf x (List.mem_cons_of_mem _ hx)) ha
      refine ⟨cl, ?_, h2, h3, fun x hx hk' => ?_⟩
      · have e1 : (k == NameKind.free) = false := beq_false_of_ne hk
        simp only [e1, Bool.false_eq_true, if_false, pure_bind]
        exact h1
      · rcases List.mem_cons.mp hx with e | hx
        · cases e; exact absurd hk' hk
        · exact h4 x hx hk'

theorem closure_ok {scope : Scope} {env : Env} (hf : ∀ x ∈ scope.names, x.2 = .free → ∃ c, env.cells.lookup x.1 = some c) :
    ∃ cl, closureFor scope env = pure cl ∧ (∀ x c, cl.lookup x = some c → env.cells.lookup x = some c) ∧ (∀ x ∈ scope.names, x.2 = .free → (cl.lookup x.1).isSome = true) := by
  obtain ⟨cl, h1, h2, _, h4⟩ := closure_from (env := env) scope.names [] hf (fun _ _ e => by cases e)
  refine ⟨cl, ?_, h2, h4⟩
  simp only [closureFor]
  rw [show (forIn scope.names [] _ : Sem _) = pure cl from h1]
  rfl

def compSc (scope sc : Scope) : Scope :=
  { scope with names := scope.names.map fun (n, k) => if (k == .free && sc.kind == .function && sc.names.lookup n == some .cell) then (n, .cell) else (n, k) }
theorem relabel_is {scope sc : Scope} {env : Env} (he : EnvIs sc env) : relabel scope env = compSc scope sc := by
  unfold relabel compSc Env.kindOf
  rw [he.scope]

def pvOf : Value → PV
  | .bool b => .bool b
  | .int i _ => .int i
  | .str s _ => .str s.cps.toList
  | _ => .none
theorem VF.pv {v : Value} {p : PV} (h : VF v p) : pvOf v = p := by
  obtain ⟨h1, h2⟩ := h
  have := h2 ⟨#[], default⟩
  cases p with
  | none => cases this; rfl
  | bool b => cases this; rfl
  | int i => obtain ⟨t, rfl⟩ := this; rfl
  | str s => obtain ⟨t, rfl⟩ := this; rfl
  | li _ => cases h1
  | ls _ => cases h1

def EvIfs (prog : Program) (w : World) (C : Cx) (n : Nat) (ifs : List Expr) (f : REnv → Option Bool) : Prop :=
  ∀ (A : Around) (E : Value → Shared → Prop) (env : Env) (b : Kept) (s0 s : Shared) (ρ : REnv) (k : Bool) (Q : Bool → Shared → Prop),
    EnvIs C.sc env → AOk A n → FrC C env b s0 s ρ → f ρ = some k → (∀ s', Keeps s s' → Q k s') →
    wpAny (model prog w) A (forIn ifs true fun c r => if r = true then do let ok ← isTrue c env (eval c env); pure (ForInStep.yield ok) else pure (ForInStep.yield r)) Q E s

theorem EvIfs.nil {prog : Program} {w : World} {C : Cx} {n : Nat} : EvIfs prog w C n [] (fun _ => some true) := fun A E env b s0 s ρ k Q he hA F hf hQ => by
  cases hf; rw [List.forIn_nil]; exact wpAny_pure (hQ s (Keeps.refl s))
theorem EvIfs.one {prog : Program} {w : World} {C : Cx} {n : Nat} {c : Expr} {f : REnv → Option Bool} (h : EvT prog w C n c f) : EvIfs prog w C n [c] f := fun A E env b s0 s ρ k Q he hA F hf hQ => by
  rw [List.forIn_cons]
  simp only [if_true]
  refine wpAny_bind (wpAny_bind (h A _ env b s0 s ρ k _ he hA F hf fun s₁ k₁ => wpAny_pure ?_))
  show wpAny _ _ (forIn [] k _) _ _ _
  rw [List.forIn_nil]
  exact wpAny_pure (hQ s₁ k₁)

def pComp (t : REnv → Option Bool) (e : REnv → Option PV) (mk : PV → REnv) : List PV → Option (List PV)
  | [] => some []
  | x :: xs => (t (mk x)).bind fun k => (pComp t e mk xs).bind fun r => if k then (e (mk x)).bind fun y => if y.flat then some (y :: r) else none else some r

theorem pComp_tests {t : REnv → Option Bool} {e : REnv → Option PV} {mk : PV → REnv} : ∀ {items : List PV} {out : List PV}, pComp t e mk items = some out → ∀ p ∈ items, ∃ k, t (mk p) = some k ∧ (k = true → ∃ y, e (mk p) = some y ∧ y.flat = true)
  | x :: xs, out, h, p, hp => by
    unfold pComp at h
    obtain ⟨k, hk, h⟩ := Option.bind_eq_some_iff.mp h
    obtain ⟨r, hr, h⟩ := Option.bind_eq_some_iff.mp h
    rcases List.mem_cons.mp hp with rfl | hp
    · refine ⟨k, hk, fun e => ?_⟩
      subst e
      simp only [if_true] at h
      obtain ⟨y, hy, h⟩ := Option.bind_eq_some_iff.mp h
      split at h
      · exact ⟨y, hy, by assumption⟩
      · cases h
    · exact pComp_tests hr p hp

theorem pComp_out {t : REnv → Option Bool} {e : REnv → Option PV} {mk : PV → REnv} : ∀ {items : List PV} {out : List PV} {vs ys : List Value}, pComp t e mk items = some out → vs.length = items.length → (∀ (j : Nat) v, vs[j]? = some v → ∃ p, items[j]? = some p ∧ VF v p) →
    Paired (fun v y => ∃ q, e (mk (pvOf v)) = some q ∧ VF y q) (vs.filter fun v => (t (mk (pvOf v))).getD false) ys → Paired (fun y q => VF y q) ys out
  | [], out, [], ys, h, _, _, hp => by cases h; cases hp; exact .nil
  | x :: xs, out, v :: vs, ys, h, hl, hv, hp => by
    unfold pComp at h
    obtain ⟨k, hk, h⟩ := Option.bind_eq_some_iff.mp h
    obtain ⟨r, hr, h⟩ := Option.bind_eq_some_iff.mp h
    obtain ⟨p, hp0, hvf⟩ := hv 0 v rfl
    cases hp0
    have hpv := hvf.pv
    have hl' : vs.length = xs.length := by simpa using hl
    have hv' : ∀ (j : Nat) v, vs[j]? = some v → ∃ p, xs[j]? = some p ∧ VF v p := fun j v e => by simpa using hv (j + 1) v (by simpa using e)
    rw [List.filter_cons] at hp
    simp only [hpv, hk, Option.getD_some] at hp
    cases k with
    | false =>
      simp only [Bool.false_eq_true, if_false] at h hp
      cases h
      exact pComp_out hr hl' hv' hp
    | true =>
      simp only [if_true] at h hp
      obtain ⟨y, hy, h⟩ := Option.bind_eq_some_iff.mp h
      split at h <;> cases h
      cases hp with
      | cons h1 t =>
        obtain ⟨q, hq, hvq⟩ := h1
        rw [hpv, hy] at hq; cases hq
        exact .cons hvq (pComp_out hr hl' hv' t)

structure CompOk (C C' : Cx) (scope : Scope) (x : Str) (frees : List Nat) : Prop where
  sc : C'.sc = compSc scope C.sc
  hcell : ∀ y ∈ scope.names, y.2 ≠ .cell
  kind : scope.kind = .function
  names : ∀ y ∈ scope.names, y.2 = .local → scope.names.lookup y.1 = some .local
  hx : scope.names.lookup x = some .local
  free : ∀ y ∈ scope.names, y.2 = .free → C.sc.names.lookup y.1 = some .cell
  fall : ∀ y ∈ scope.names, y.2 = .free → ∃ i : Nat, C.vars[i]? = some y.1
  vars : C'.vars = x :: frees.filterMap fun j => C.vars[j]?
  inj : ∀ (k : Nat) j, frees[k]? = some j → ∃ y, C.vars[j]? = some y ∧ C'.vars[k + 1]? = some y ∧ (y, NameKind.free) ∈ scope.names ∧ C'.sc.names.lookup y = some .cell
  len : C'.vars.length = frees.length + 1
  nodup : C'.vars.Nodup
  fnodup : frees.Nodup
  zero : 0 ∉ C'.own
  own : ∀ (k : Nat) j, frees[k]? = some j → (k + 1 ∈ C'.own ↔ j ∈ C.own)
  ex : C'.ex = []

def mkIn (ρ : REnv) (frees : List Nat) (p : PV) : REnv := some p :: frees.map fun j => ρ[j]?.join

theorem kindOf_comp {scope sc : Scope} {env : Env} {cl : List (Str × Addr)} {L : Addr} (he : EnvIs sc env) (y : Str) : (compEnvC scope cl L env).kindOf y = (compSc scope sc).names.lookup y := by
  show (relabel scope env).names.lookup y = _
  rw [relabel_is he]

theorem FR.inner {C C' : Cx} {scope : Scope} {x : Str} {frees : List Nat} {env : Env} {b : Kept} {s0 s₂ s₃ : Shared} {ρ : REnv} {wr : List Addr} {cl : List (Str × Addr)} {L : Addr} {m₃ : Str → Option Value} {v : Value} {p : PV}
    (ok : CompOk C C' scope x frees) (he : EnvIs C.sc env) (F : FrC C env b s0 s₂ ρ) (hb : ∀ a ∈ wr, b a = none) (hd : FieldsAt s₂.heap wr)
    (hcl : ∀ x c, cl.lookup x = some c → env.cells.lookup x = some c) (hcf : ∀ x ∈ scope.names, x.2 = .free → (cl.lookup x.1).isSome = true)
    (hk : ∀ b o, b ∉ wr → s₂.heap.get? b = some o → s₃.heap.get? b = some o) (hL : s₂.heap.objs.size ≤ L) (hn : s₃.heap.Ns L m₃) (hm : m₃ x = some v) (hv : VF v p) :
    FrC C' (compEnvC scope cl L env) b s₃ s₃ (mkIn ρ frees p) := by
  have hcell : ∀ {c : Addr} {ov : Option Value}, s₂.heap.IsCell c ov → s₃.heap.IsCell c ov := fun hc => let ⟨o, ho, e⟩ := hc; ⟨o, hk _ o (hd.cell hc) ho, e⟩
  have hV : ∀ {v : Value} {p : PV}, VR s₂.heap v p → VR s₃.heap v p := fun R => R.at fun a e o ho => by
    subst e
    obtain ⟨items, hl⟩ := R.ref
    exact hk a o (hd.list hl) ho
  have hx0 : C'.vars[0]? = some x := by rw [ok.vars]; rfl
  have hHx : Holds s₃.heap (compEnvC scope cl L env) x v := by
    refine .inl ⟨?_, m₃, hn, hm⟩
    show (relabel scope env).names.lookup x = _
    exact lookup_relabel_local ok.hx
  have hfree : ∀ (k : Nat) y pv, C'.vars[k + 1]? = some y → (frees.map fun j => ρ[j]?.join)[k]? = some (some pv) →
      ∃ j u, frees[k]? = some j ∧ C.vars[j]? = some y ∧ ρ[j]? = some (some pv) ∧ Holds s₂.heap env y u ∧ VR s₂.heap u pv ∧ Holds s₃.heap (compEnvC scope cl L env) y u ∧ ((j ∈ C.own → ∀ a, u = .ref a → b a = none) ∧ (j ∉ C.own → ∀ a, u = .ref a → ∃ o, b a = some o)) := fun k y pv hy hp => by
    rw [List.getElem?_map] at hp
    obtain ⟨j, hj, hjp⟩ := Option.map_eq_some_iff.mp hp
    obtain ⟨y', h1, h2, h3, h4⟩ := ok.inj k j hj
    rw [hy] at h2; cases h2
    have hρ : ρ[j]? = some (some pv) := Option.join_eq_some_iff.mp hjp
    obtain ⟨u, H, R, o⟩ := F.vals j y pv h1 hρ
    refine ⟨j, u, hj, h1, hρ, H, R, .inr ⟨by rw [kindOf_comp he, ← ok.sc]; exact h4, ?_⟩, o⟩
    obtain ⟨c, hc⟩ := Option.isSome_iff_exists.mp (hcf _ h3 rfl)
    have hc' := hcl _ _ hc
    rcases H with ⟨k', _⟩ | ⟨_, c', hc2, hv2⟩
    · have := ok.free _ h3 rfl
      rw [he.kindOf, this] at k'; cases k'
    · rw [hc'] at hc2; cases hc2
      exact ⟨_, hc, hcell hv2⟩
  refine ⟨F.top, fun a o e => hk a o (fun hm => by rw [hb a hm] at e; cases e) (F.keep a o e), rfl, rfl, rfl, ?_, ok.nodup, fun i y hy => ?_, ?_, fun y c e => F.cellB y c (hcl y c e), fun y z c h1 h2 => F.cellsApart y z c (hcl y c h1) (hcl z c h2), ⟨m₃, hn⟩,
    fun y c e => let ⟨ov, ho⟩ := F.cells y c (hcl y c e); ⟨ov, hcell ho⟩, fun i y pv hy hp => ?_, fun i j y z pv pw a hio hjo hy hz hp hq H1 H2 => ?_, fun y a hm => by rw [ok.ex] at hm; cases hm⟩
  · unfold mkIn; rw [List.length_cons, List.length_map, ok.len]
  · cases i with
    | zero => rw [hx0] at hy; cases hy; exact .inl (lookup_relabel_local ok.hx)
    | succ k =>
      have hlt : k < frees.length := by have := (List.getElem?_eq_some_iff.mp hy).1; rw [ok.len] at this; omega
      obtain ⟨y', h1, h2, h3, h4⟩ := ok.inj k _ (List.getElem?_eq_getElem hlt)
      rw [hy] at h2; cases h2
      obtain ⟨c, hc⟩ := Option.isSome_iff_exists.mp (hcf _ h3 rfl)
      exact .inr ⟨by rw [kindOf_comp he, ← ok.sc]; exact h4, c, hc⟩
  · show b L = none
    cases e : b L with
    | none => rfl
    | some o => have := F.keep L o e; rw [fresh_size hL] at this; cases this
  · cases i with
    | zero =>
      rw [hx0] at hy; cases hy
      have : p = pv := by unfold mkIn at hp; simpa using hp
      subst this
      exact ⟨v, hHx, hv.2 _, fun h => absurd h ok.zero, fun _ a e => by subst e; exact (VR.flat_ref hv.1 (hv.2 s₃.heap)).elim⟩
    | succ k =>
      have hp' : (frees.map fun j => ρ[j]?.join)[k]? = some (some pv) := by unfold mkIn at hp; simpa using hp
      obtain ⟨j, u, h1, h2, h3, h4, h5, h6, h7⟩ := hfree k y pv hy hp'
      have := ok.own k j h1
      exact ⟨u, h6, hV h5, fun h => h7.1 (this.mp h), fun h => h7.2 fun q => h (this.mpr q)⟩
  · cases i with
    | zero => exact absurd hio ok.zero
    | succ i =>
      cases j with
      | zero => exact absurd hjo ok.zero
      | succ j =>
        have hp' : (frees.map fun j => ρ[j]?.join)[i]? = some (some pv) := by unfold mkIn at hp; simpa using hp
        have hq' : (frees.map fun j => ρ[j]?.join)[j]? = some (some pw) := by unfold mkIn at hq; simpa using hq
        obtain ⟨i', u, h1, h2, h3, h4, h5, h6, h7⟩ := hfree i y pv hy hp'
        obtain ⟨j', u', g1, g2, g3, g4, g5, g6, g7⟩ := hfree j z pw hz hq'
        have e1 := h6.same H1
        have e2 := g6.same H2
        subst e1; subst e2
        have := F.apart i' j' y z pv pw a ((ok.own i i' h1).mp hio) ((ok.own j j' g1).mp hjo) h2 g2 h3 g3 h4 g4
        subst this
        rw [nodup_at (vars := C'.vars) ok.nodup hy (hz.trans (by rw [show y = z from Option.some.inj (h2.symm.trans g2)]))]

section
variable {prog : Program} {w : World} {C C' : Cx} {n : Nat}

theorem quiet {scope : Scope} {x : Str} {frees : List Nat} {env : Env} {b : Kept} {s0 s₂ : Shared} {ρ : REnv} {wr : List Addr} {cl : List (Str × Addr)} {ifs : List Expr} {elt : Expr} {A : Around} {items out : List PV} {ft : REnv → Option Bool} {fe : REnv → Option PV} {k : Bool}
    (ok : CompOk C C' scope x frees) (he : EnvIs C.sc env) (hA : AOk A n) (F : FrC C env b s0 s₂ ρ) (hb : ∀ a ∈ wr, b a = none) (hd : FieldsAt s₂.heap wr)
    (hcl : ∀ x c, cl.lookup x = some c → env.cells.lookup x = some c) (hcf : ∀ x ∈ scope.names, x.2 = .free → (cl.lookup x.1).isSome = true)
    (ht : EvIfs prog w C' n ifs ft) (hel : EvX prog w C' n k elt fe) (hout : pComp ft fe (mkIn ρ frees) items = some out) :
    QuietOnC prog w A env scope cl x ifs elt wr (fun i v => ∃ p, items[i]? = some p ∧ VF v p) (fun v => (ft (mkIn ρ frees (pvOf v))).getD false) (fun v y => ∃ q, fe (mkIn ρ frees (pvOf v)) = some q ∧ VF y q) s₂ where
  tests := fun L i v s₃ m₃ E' hL hP hn hm hk _ => by
    obtain ⟨p, hp, hvf⟩ := hP
    obtain ⟨c, hc, _⟩ := pComp_tests hout p (List.mem_of_getElem? hp)
    have Fi := FR.inner ok he F hb hd hcl hcf hk hL hn hm hvf
    have hei : EnvIs C'.sc (compEnvC scope cl L env) := ⟨by show relabel scope env = _; rw [relabel_is he, ok.sc], by rw [ok.sc]; exact ok.kind, he.globals, he.builtins⟩
    refine ht A E' _ b s₃ s₃ _ c _ hei hA Fi hc fun s₄ k₄ => ⟨?_, k₄⟩
    rw [hvf.pv, hc]; rfl
  elt := fun L i v s₃ m₃ E' hL hP hpv hn hm hk _ => by
    obtain ⟨p, hp, hvf⟩ := hP
    obtain ⟨c, hc, hy⟩ := pComp_tests hout p (List.mem_of_getElem? hp)
    rw [hvf.pv, hc] at hpv
    obtain ⟨y, hy1, hy2⟩ := hy hpv
    have Fi := FR.inner ok he F hb hd hcl hcf hk hL hn hm hvf
    have hei : EnvIs C'.sc (compEnvC scope cl L env) := ⟨by show relabel scope env = _; rw [relabel_is he, ok.sc], by rw [ok.sc]; exact ok.kind, he.globals, he.builtins⟩
    refine hel A E' _ b s₃ s₃ _ y _ hei hA Fi hy1 fun u s₄ k₄ R _ => ⟨⟨y, by rw [hvf.pv]; exact hy1, hy2, fun h => R.flat hy2⟩, k₄⟩

def mkList : PV → Option PV := fun p => some p
def liOf (out : List PV) : Option PV := (asInts out).bind fun xs => if xs.length ≤ cap then some (.li xs) else none
def lsOf (out : List PV) : Option PV := (asStrs out).bind fun xs => if xs.length ≤ cap then some (.ls xs) else none

theorem liOf_ok {h : Heap} {a : Addr} {ys : List Value} {out : List PV} {pv : PV} (hl : PlainL h a ys.toArray) (hp : Paired (fun y q => VF y q) ys out) (e : liOf out = some pv) : VR h (.ref a) pv := by
  obtain ⟨xs, h1, h2⟩ := Option.bind_eq_some_iff.mp e
  split at h2 <;> cases h2
  exact ⟨a, ys, rfl, hl, asInts_ok (h := h) (Paired.mono (fun v q hv => hv.2 h) hp) h1⟩
theorem lsOf_ok {h : Heap} {a : Addr} {ys : List Value} {out : List PV} {pv : PV} (hl : PlainL h a ys.toArray) (hp : Paired (fun y q => VF y q) ys out) (e : lsOf out = some pv) : VR h (.ref a) pv := by
  obtain ⟨xs, h1, h2⟩ := Option.bind_eq_some_iff.mp e
  split at h2 <;> cases h2
  exact ⟨a, ys, rfl, hl, asStrs_ok (h := h) (Paired.mono (fun v q hv => hv.2 h) hp) h1⟩

/-- how a comprehension's items become a list -/
def Shelves (sh : List PV → Option PV) : Prop := ∀ {h : Heap} {a : Addr} {ys : List Value} {out : List PV} {pv : PV}, PlainL h a ys.toArray → Paired (fun y q => VF y q) ys out → sh out = some pv → VR h (.ref a) pv

theorem comp_closure {C C' : Cx} {scope : Scope} {x : Str} {frees : List Nat} {env : Env} {b : Kept} {s0 s : Shared} {ρ : REnv} (ok : CompOk C C' scope x frees) (he : EnvIs C.sc env) (F : FrC C env b s0 s ρ) :
    ∃ cl, closureFor scope env = pure cl ∧ (∀ x c, cl.lookup x = some c → env.cells.lookup x = some c) ∧ (∀ x ∈ scope.names, x.2 = .free → (cl.lookup x.1).isSome = true) := closure_ok fun y hy hk => by
  obtain ⟨i, hi⟩ := ok.fall y hy hk
  rcases F.slot i y.1 hi with h | ⟨_, h⟩
  · rw [he.kindOf, ok.free y hy hk] at h; cases h
  · exact h

theorem EvX.comp (frees : List Nat) {sh : List PV → Option PV} {scope : Scope} {x : Str} {px pos : Pos} {iter elt : Expr} {ifs : List Expr} {fit : REnv → Option (List PV)} {ft : REnv → Option Bool} {fe : REnv → Option PV} {k k' : Bool}
    (hsh : Shelves sh) (ok : CompOk C C' scope x frees) (hit : EvIt prog w C n k iter fit) (ht : EvIfs prog w C' n ifs ft) (hel : EvX prog w C' n k' elt fe)
    (hs : ∀ env x, foldedSetIterable iter env x = pure x := by intro _ _; rfl) :
    EvX prog w C n true (.ListComp elt [⟨.Name x px, iter, ifs, 0⟩] scope pos) (fun ρ => (fit ρ).bind fun items => (pComp ft fe (mkIn ρ frees) items).bind sh) := fun A E env b s0 s ρ pv Q he hA F hf hQ => by
  obtain ⟨items, hitems, hf⟩ := Option.bind_eq_some_iff.mp hf
  obtain ⟨out, hout, hf⟩ := Option.bind_eq_some_iff.mp hf
  obtain ⟨cl, hclos, hcl, hcf⟩ := comp_closure ok he F
  refine wpAny_ListComp_free (fun v => (ft (mkIn ρ frees (pvOf v))).getD false) (fun v y => ∃ q, fe (mkIn ρ frees (pvOf v)) = some q ∧ VF y q) hclos ok.hcell ok.kind ok.names ok.hx
    (hit A E env b s0 s ρ items _ he hA F hitems fun I fp wr St s₂ k₂ W st0 hsz hwr hfp hfld _ => ?_) (hs env)
  have hwb : ∀ a ∈ wr, b a = none := fun a ha => fresh_kept F (hwr a ha)
  have hd : FieldsAt s₂.heap wr := hfld 0 _ st0
  refine ⟨I, fp, wr, items.length, _, St, rfl, W, hsz, st0, hfp, quiet ok he hA (F.keeps k₂) hwb hd hcl hcf ht hel hout, fun D h' tk ys vs hD _ hpl hlen hP hF hk => ?_⟩
  have hp2 := pComp_out hout hlen hP hF
  have hpl' : PlainL h' D ys.toList.toArray := by obtain ⟨o, ho⟩ := hpl; exact ⟨_, _, ho, rfl, rfl, rfl⟩
  have kk : Keeps s { s₂ with heap := h', toks := tk } := by
    obtain ⟨h₂, t₂, rfl, hk₂⟩ := k₂
    exact ⟨h', tk, rfl, fun c o e => hk c o (fun hm => by rw [hwr c hm] at e; cases e) (hk₂ c o e)⟩
  exact hQ _ _ kk (hsh hpl' hp2 hf) fun _ a e => by cases e; exact fresh_back k₂ hD

/-- a comprehension laid straight to a local name -/
theorem EvS.assignComp (i : Nat) (frees : List Nat) {sh : List PV → Option PV} {scope : Scope} {x y : Str} {px py pos spos : Pos} {iter elt : Expr} {ifs : List Expr} {fit : REnv → Option (List PV)} {ft : REnv → Option Bool} {fe : REnv → Option PV} {k k' : Bool}
    (hy : C.vars[i]? = some y) (hi : i ∈ C.own) (hloc : C.sc.names.lookup y = some .local)
    (hsh : Shelves sh) (ok : CompOk C C' scope x frees) (hit : EvIt prog w C n k iter fit) (ht : EvIfs prog w C' n ifs ft) (hel : EvX prog w C' n k' elt fe)
    (hs : ∀ env x, foldedSetIterable iter env x = pure x := by intro _ _; rfl)
    (hline : (py.line == pos.line) = true := by rfl) (hany : (scope.names.any fun z => z.1 == y && (z.2 == .local || z.2 == .cell)) = false := by decide +kernel) :
    EvS prog w C n (.Assign [.Name y py] (.ListComp elt [⟨.Name x px, iter, ifs, 0⟩] scope pos) spos) (pAssign i fun ρ => (fit ρ).bind fun items => (pComp ft fe (mkIn ρ frees) items).bind sh) := fun A E env b s0 s ρ ρ' fl Q he hA F hf hQ => by
  obtain ⟨pv, hp0, e⟩ := Option.map_eq_some_iff.mp hf
  cases e
  obtain ⟨items, hitems, hf⟩ := Option.bind_eq_some_iff.mp hp0
  obtain ⟨out, hout, hf⟩ := Option.bind_eq_some_iff.mp hf
  obtain ⟨cl, hclos, hcl, hcf⟩ := comp_closure ok he F
  have hk : env.scope.kind = .function := by rw [he.scope]; exact he.kind
  have hbk : env.blockKind = .function := by unfold Env.blockKind; rw [hk]; rfl
  have hsw : swapsWith (.ListComp elt [⟨.Name x px, iter, ifs, 0⟩] scope pos) (some (.Name y py)) spos.line env = pure true := by
    show (pure (env.blockKind == .function && env.kindOf y == some .local && py.line == pos.line && !(scope.names.any fun z => z.1 == y && (z.2 == .local || z.2 == .cell))) : Sem Bool) = pure true
    rw [hbk, he.kindOf, hloc, hline, hany]; rfl
  refine wpAny_Assign_ListComp_free (fun v => (ft (mkIn ρ frees (pvOf v))).getD false) (fun v y => ∃ q, fe (mkIn ρ frees (pvOf v)) = some q ∧ VF y q) hsw hclos ok.hcell ok.kind ok.names ok.hx ((he.kindOf y).trans hloc) (by rw [hk]; rfl)
    (hit A E env b s0 s ρ items _ he hA F hitems fun I fp wr St s₂ k₂ W st0 hsz hwr hfp hfld _ => ?_) (hs env)
  have hwb : ∀ a ∈ wr, b a = none := fun a ha => fresh_kept F (hwr a ha)
  have hd : FieldsAt s₂.heap wr := hfld 0 _ st0
  have F₂ := F.keeps k₂
  obtain ⟨m, hm⟩ := F₂.ns
  refine ⟨I, fp, wr, items.length, _, St, m, rfl, W, hsz, st0, hfp, hd.ns hm, hm, quiet ok he hA F₂ hwb hd hcl hcf ht hel hout, fun D h' tk ys vs hD _ hpl hlen hP hF hn' hk => ?_⟩
  have hp2 := pComp_out hout hlen hP hF
  have hpl' : PlainL h' D ys.toList.toArray := by obtain ⟨o, ho⟩ := hpl; exact ⟨_, _, ho, rfl, rfl, rfl⟩
  have hpv : VR h' (.ref D) pv := hsh hpl' hp2 hf
  have other : ∀ {z u}, z ≠ y → Holds s₂.heap env z u → Holds h' env z u := fun {z u} hyx H => by
    rcases H with ⟨k, m', hm', e⟩ | ⟨k, c, hc, hv⟩
    · have := Ns.same hm hm'
      subst this
      exact .inl ⟨k, _, hn', by simp only [hyx, if_false]; exact e⟩
    · obtain ⟨o, ho', hd'⟩ := hv
      exact .inr ⟨k, c, hc, o, hk c o (cell_ne_ns ⟨o, ho', hd'⟩ hm) (hd.cell ⟨o, ho', hd'⟩) ho', hd'⟩
  refine hQ .next _ (F₂.turned (v := .ref D) (fun c o e => hk c o (fun q => by subst q; rw [F.locB] at e; cases e) (fun hm => by rw [hwb c hm] at e; cases e) (F₂.keep c o e)) hy ⟨_, hn'⟩ (fun z c hc => ?_)
    (.inl ⟨(he.kindOf y).trans hloc, _, hn', by simp⟩) hpv ⟨fun _ a e => by cases e; exact fresh_kept F₂ hD, fun q => absurd hi q⟩ (fun j z u pw hj hz hp H R => ⟨other (fun q => hj (nodup_at F.nodup (q ▸ hz) hy)) H, ?_, fun a e q => ?_⟩) fun z a hm H => other (fun q => (F.ext z a hm).1 (by subst q; exact List.mem_of_getElem? hy)) H) rfl
  · obtain ⟨ov, ho⟩ := F₂.cells z c hc
    obtain ⟨o, ho', hd'⟩ := ho
    exact ⟨ov, o, hk c o (cell_ne_ns ⟨o, ho', hd'⟩ hm) (hd.cell ⟨o, ho', hd'⟩) ho', hd'⟩
  · refine R.at fun a e o ho => ?_
    subst e
    obtain ⟨its, hl⟩ := R.ref
    exact hk a o (list_ne_ns hl hm) (hd.list hl) ho
  · cases q
    subst e
    obtain ⟨its, o, ho, _⟩ := R.ref
    rw [hD] at ho; cases ho
end
end Mine
end PartFw11

/- part Fw12 -/
section PartFw12
open PySem PySem.W PyProof.Rows PySem.SeqAt
namespace Mine

section
variable {prog : Program} {w : World} {C : Cx} {n : Nat}

/-- a method of a built-in type -/
def MethodOk (prog : Program) (w : World) (n : Nat) (T id : String) (F : PV → List PV → Option PV) : Prop :=
  ∀ (s : Shared) (self : Value) (ps : PV) (vals : List Value) (args : List PV) (pv : PV), VR s.heap self ps → Paired (fun v p => VR s.heap v p) vals args → F ps args = some pv → Gives1 prog w n (call (.builtin id) (self :: vals)) s pv

theorem EvX.method {T id : String} {name : Str} {o e : Expr} {es : List Expr} {apos pos : Pos} {k : Bool} {fo : REnv → Option PV} {fs : REnv → Option (List PV)} {F : PV → List PV → Option PV}
    (pa : PlainAttrs T) (slot : Slot T name id) (hty : typeOf (.builtin id) = pure (.type "method_descriptor")) (hfn : MethodOk prog w n T id F)
    (hT : ∀ (s : Shared) v p args pv, VR s.heap v p → F p args = some pv → s.TypeIs v T ∧ ∀ a, v = .ref a → ∃ ob, s.heap.get? a = some ob ∧ ob.dict = none)
    (ho : EvX prog w C n k o fo) (hl : EvL prog w C n (e :: es) fs)
    (hbase : ∀ env, attributeBase o name env (eval o env) = eval o env := by intro _; rfl)
    (hfew : ∀ env, ((backTo pos (starEach (e :: es) env)).all (fun x => !x.1) && (backToKw pos (keywordEach [] env)).all (fun x => x.1.isSome)
      && decide ((e :: es).length + ([] : List Keyword).length + (if ([] : List Keyword).isEmpty then 0 else 1) < 30)) = true := by intro _; rfl)
    (hline : (apos.endLine == pos.line) = true := by rfl)
    (hse : ∀ env, starEach (e :: es) env = (false, eval e env) :: starEach es env := by intro _; rfl) (hany : ∀ env, (backTo pos (starEach (e :: es) env)).any (·.1) = false := by intro _; rfl) :
    EvX prog w C n true (.Call (.Attribute o name apos) (e :: es) [] pos) (fun ρ => (fo ρ).bind fun a => (fs ρ).bind fun l => F a l) := fun A E env b s0 s ρ pv Q he hA F' hf hQ => by
  obtain ⟨pa', ha, hf⟩ := Option.bind_eq_some_iff.mp hf
  obtain ⟨ps, hb, hf⟩ := Option.bind_eq_some_iff.mp hf
  refine wpAny_Call_method (hbase env) (hfew env) hline pa slot hty (ho A E env b s0 s ρ pa' _ he hA F' ha fun ov s₁ k₁ R _ => ?_)
  obtain ⟨h1, h2⟩ := hT s₁ ov pa' ps pv R hf
  refine ⟨h1, h2, Calls.callWith_builtin (hany env) (evalArgs_es (hse env) (hl A E env b s0 s₁ ρ ps pos _ he hA (F'.keeps k₁) hb fun vs s₂ k₂ rs => ?_))⟩
  exact hfn s₂ ov pa' vs ps pv (R.keepsK k₂) rs hf A E Q hA fun v s₃ k₃ rv fr => hQ v s₃ (Keeps.trans (Keeps.trans k₁ k₂) k₃) rv fun _ a e => fresh_back (Keeps.trans k₁ k₂) (fr a e)

def joinL (sep : List Nat) (ys : List (List Nat)) : List Nat := (Txt.join (mkS sep) (ys.map mkS)).cps.toList
def joinF : PV → List PV → Option PV
  | .str sep, [.ls ys] => if sep.length ≤ 16 ∧ (ys.map (·.length)).sum + ys.length ≤ 100000 then some (.str (joinL sep ys)) else none
  | _, _ => none
theorem join_ok : MethodOk prog w n "str" "str.join" joinF := fun s self ps vals args pv hs hv hf A E Q hA hQ => by
  unfold joinF at hf
  split at hf
  · split at hf <;> cases hf
    rename_i sep ys hc
    obtain ⟨t, rfl⟩ := hs
    cases hv with
    | cons h1 t' =>
      cases t'
      obtain ⟨a, vs, rfl, hl, hp⟩ := h1
      have e : ((ys.map mkS).map (·.length)).sum = (ys.map (·.length)).sum := by
        rw [List.map_map]; congr 1
      refine join_listW hl.isList (StrsV.are hp) (by rw [mkS_length]; exact hc.1) (by rw [e, List.length_map]; omega) fun t' k => hQ _ _ (keeps_tok s k) ⟨t', rfl⟩ no_ref_str
  · cases hf
theorem isStr_of {F : PV → List PV → Option PV} (h : ∀ p args pv, F p args = some pv → ∃ x, p = .str x) : ∀ (s : Shared) v p args pv, VR s.heap v p → F p args = some pv → s.TypeIs v "str" ∧ ∀ a, v = .ref a → ∃ ob, s.heap.get? a = some ob ∧ ob.dict = none := fun s v p args pv R hf => by
  obtain ⟨x, rfl⟩ := h p args pv hf
  obtain ⟨t, rfl⟩ := R
  exact ⟨typeIs_str _ _ _, fun a e => nomatch e⟩
theorem joinF_str : ∀ p args pv, joinF p args = some pv → ∃ x, p = .str x := fun p args pv h => by
  unfold joinF at h
  split at h
  · exact ⟨_, rfl⟩
  · cases h

def splitL (x y : List Nat) : List (List Nat) := (Txt.split (mkS x) (mkS y)).map (·.cps.toList)
def splitF : PV → List PV → Option PV
  | .str x, [.str y] => if x.length ≤ 100000 ∧ y ≠ [] ∧ (Builtin.Str.partsBetween (mkS x) (Builtin.Str.occurrences (mkS x) (mkS y) 0 (mkS x).length ((mkS x).length + 1)) (mkS y).length).length ≤ 100000 then some (.ls (splitL x y)) else none
  | _, _ => none
theorem splitF_str : ∀ p args pv, splitF p args = some pv → ∃ x, p = .str x := fun p args pv h => by
  unfold splitF at h
  split at h
  · exact ⟨_, rfl⟩
  · cases h
theorem strs_of_values : ∀ (l : List (Str × Tok)), StrsV (strValues l) ((l.map (·.1)).map (·.cps.toList))
  | [] => .nil
  | (x, t) :: r => .cons ⟨t, rfl⟩ (strs_of_values r)
theorem split_ok : MethodOk prog w n "str" "str.split" splitF := fun s self ps vals args pv hs hv hf A E Q hA hQ => by
  unfold splitF at hf
  split at hf
  · split at hf <;> cases hf
    rename_i x y hc
    obtain ⟨t, rfl⟩ := hs
    cases hv with
    | cons h1 t' =>
      cases t'
      obtain ⟨u, rfl⟩ := h1
      have hy : ((mkS y).length == 0) = false := by
        rw [mkS_length]
        cases y with
        | nil => exact absurd rfl hc.2.1
        | cons _ _ => rfl
      have hsz : (mkS x).length ≤ sizeLine := sizeLine_big (by rw [mkS_length]; exact hc.1)
      have fin : ∀ (l : List (Str × Tok)) k, l.map (·.1) = Txt.split (mkS x) (mkS y) → Q (.ref s.heap.objs.size) { s with heap := s.heap.push { cls := .type "list", data := .seq (strValues l).toArray }, toks := k } := fun l k hl => by
        refine hQ _ _ ⟨_, k, rfl, fun _ _ e => Heap.get?_push_of_some _ e⟩ ⟨_, strValues l, rfl, isList_new _ _, ?_⟩ fun a e => by cases e; exact fresh_size (Nat.le_refl _)
        unfold splitL
        rw [← hl]; exact strs_of_values l
      have heq := fin
      cases h1 : (decide ((mkS x).length < (mkS y).length) || decide (Builtin.Str.strKind (mkS x) < Builtin.Str.strKind (mkS y)))
      · cases hf' : (Builtin.Str.occurrences (mkS x) (mkS y) 0 (mkS x).length ((mkS x).length + 1)).isEmpty
        · refine call_meets PySem.F.slot_str_split (typeIs_str _ _ _) PySem.F.entry_str_split (PySem.F.args_str_split_2 _ _) (meets_str_split_sep (mkS x) (mkS y) t u h1 hy hf' hsz (sizeLine_big hc.2.2)) ?_
          show wants Q E _ { s with toks := _, heap := s.heap.push { cls := .type "list", data := .seq (strsFrom s.toks (Builtin.Str.partsBetween (mkS x) (Builtin.Str.occurrences (mkS x) (mkS y) 0 (mkS x).length ((mkS x).length + 1)) (mkS y).length)).toArray } }
          rw [strsFrom_eq]
          exact fin (numbered s.toks _) _ ((numbered_texts _ _).trans ((if_neg (ne_true_of_eq_false h1)).trans (if_neg (ne_true_of_eq_false hf'))).symm)
        · exact call_meets PySem.F.slot_str_split (typeIs_str _ _ _) PySem.F.entry_str_split (PySem.F.args_str_split_2 _ _) (meets_str_split_not_found (mkS x) (mkS y) t u h1 hy hf')
            (fin [(mkS x, t)] s.toks ((if_neg (ne_true_of_eq_false h1)).trans (if_pos hf')).symm)
      · exact call_meets PySem.F.slot_str_split (typeIs_str _ _ _) PySem.F.entry_str_split (PySem.F.args_str_split_2 _ _) (meets_str_split_cannot_occur (mkS x) (mkS y) t u h1)
          (fin [(mkS x, t)] s.toks (if_pos h1).symm)
  · cases hf

/-- an own list is turned by a statement -/
def addPV : PV → PV → Option PV
  | .li xs, .int a => if xs.length ≤ cap then some (.li (xs ++ [a])) else none
  | .ls xs, .str a => if xs.length ≤ cap then some (.ls (xs ++ [a])) else none
  | _, _ => none
def extPV : PV → PV → Option PV
  | .li xs, .li a => if xs.length + a.length ≤ cap then some (.li (xs ++ a)) else none
  | _, _ => none
def putPV : PV → PV → PV → Option PV
  | .li xs, .int i, .int a => if 0 ≤ i ∧ i < xs.length ∧ xs.length ≤ cap then some (.li (xs.set i.toNat a)) else none
  | .ls xs, .int i, .str a => if 0 ≤ i ∧ i < xs.length ∧ xs.length ≤ cap then some (.ls (xs.set i.toNat a)) else none
  | _, _, _ => none

theorem Paired.set {α β : Type} {F : α → β → Prop} : ∀ {l₁ : List α} {l₂ : List β} {a : α} {b : β}, Paired F l₁ l₂ → F a b → ∀ i, Paired F (l₁.set i a) (l₂.set i b)
  | _, _, _, _, .nil, _, _ => .nil
  | _, _, _, _, .cons _ t, hab, 0 => .cons hab t
  | _, _, _, _, .cons h t, hab, i + 1 => .cons h (Mine.Paired.set t hab i)

theorem appendOk {A : Around} {E : Value → Shared → Prop} {Q : Value → Shared → Prop} {s : Shared} {a : Addr} {x : Value} {pl px pv : PV} (hl : VR s.heap (.ref a) pl) (hx : VR s.heap x px) (h : addPV pl px = some pv)
    (hQ : ∀ h', VR h' (.ref a) pv → Heap.SameBut a s.heap h' → Q .none { s with heap := h' }) : wpAny (model prog w) A (call (.builtin "list.append") [.ref a, x]) Q E s := by
  unfold addPV at h
  split at h
  · split at h <;> cases h
    obtain ⟨a', vs, e, hp, hi⟩ := hl
    cases e
    refine list_append_plainL hp (fun h' hp' hs => hQ h' ⟨_, vs ++ [x], rfl, ?_, Mine.Paired.append hi (.cons hx .nil)⟩ hs) (by rw [List.size_toArray, hi.length]; exact sizeLine_big (by assumption))
    have : (vs ++ [x]).toArray = vs.toArray.push x := by simp
    rw [this]; exact hp'
  · split at h <;> cases h
    obtain ⟨a', vs, e, hp, hi⟩ := hl
    cases e
    refine list_append_plainL hp (fun h' hp' hs => hQ h' ⟨_, vs ++ [x], rfl, ?_, Mine.Paired.append hi (.cons hx .nil)⟩ hs) (by rw [List.size_toArray, hi.length]; exact sizeLine_big (by assumption))
    have : (vs ++ [x]).toArray = vs.toArray.push x := by simp
    rw [this]; exact hp'
  · cases h

theorem dict_mapSeq (o : Obj) (f) : (o.mapSeq f).dict = o.dict := by
  obtain ⟨c, d, dt, sl⟩ := o; cases dt <;> rfl

theorem extendOk {A : Around} {E : Value → Shared → Prop} {Q : Value → Shared → Prop} {s : Shared} {a : Addr} {x : Value} {pl px pv : PV} (hl : VR s.heap (.ref a) pl) (hx : VR s.heap x px) (h : extPV pl px = some pv)
    (hQ : ∀ h', VR h' (.ref a) pv → Heap.SameBut a s.heap h' → Q .none { s with heap := h' }) : wpAny (model prog w) A (call (.builtin "list.extend") [.ref a, x]) Q E s := by
  unfold extPV at h
  split at h
  · split at h <;> cases h
    rename_i hc
    obtain ⟨a', vs, e, hp, hi⟩ := hl
    cases e
    obtain ⟨c, us, rfl, hpu, hju⟩ := hx
    obtain ⟨o, m, ho, hcl, hdn, hd⟩ := id hp
    obtain ⟨o', m', ho', hcl', hdn', hd'⟩ := id hpu
    have e1 := hi.length
    have e2 := hju.length
    refine wpAny_call_entry PySem.F.slot_list_extend hp.isList.typeIs PySem.F.entry_list_extend ?_ (PySem.F.args_list_extend_2 _ _)
    show wpAny _ _ (Builtin.List.listExtendWith (.ref a) (.ref c) .none) _ _ s
    unfold Builtin.List.listExtendWith
    refine wpAny_bind (wpAny_typeOf hpu.isList.typeIs ?_)
    simp only [beq_self_eq_true, Bool.or_true, Bool.true_or, if_true]
    unfold Builtin.List.listItems
    refine wpAny_bind (wpAny_bind (wpAny_seqItems ho' hd' (wpAny_pure ?_)))
    refine wpAny_bind (wpAny_bind (wpAny_seqItems ho hd (wpAny_pure ?_)))
    have hbig : Builtin.List.listTooLong (vs.toArray.size + us.toArray.size) = false := by
      unfold Builtin.List.listTooLong
      have : vs.toArray.size + us.toArray.size ≤ sizeLine := sizeLine_big (by simp only [List.size_toArray]; have : cap = 100000 := rfl; omega)
      simpa using this
    rw [hbig, Bool.and_false]
    simp only [Bool.false_eq_true, if_false]
    obtain ⟨n', hd2⟩ := Obj.data_mapSeq hd (· ++ us.toArray)
    have hsz1 : vs.toArray.size ≤ sizeLine := sizeLine_big (by simp only [List.size_toArray]; have : cap = 100000 := rfl; omega)
    have hsz2 : (vs.toArray ++ us.toArray).size ≤ sizeLine + 1 := Nat.le_succ_of_le (sizeLine_big (by simp only [List.size_toArray, Array.size_append]; have : cap = 100000 := rfl; omega))
    refine wpAny_bind (wpAny_updateSeq ho hd ?_ (hz := hsz1) (_hz' := hsz2))
    refine wpAny_pure ⟨.none, rfl, hQ _ ⟨_, vs ++ us, rfl, ⟨_, n', Heap.get?_update_self _ ho (Obj.isFreed_of_seq hd2), (Obj.cls_mapSeq ..).trans hcl, (dict_mapSeq ..).trans hdn, ?_⟩, Mine.Paired.append hi hju⟩ (Heap.SameBut.update ..)⟩
    rw [hd2]; simp
  · cases h

theorem putOk {A : Around} {E : Value → Shared → Prop} {Q : Unit → Shared → Prop} {s : Shared} {a : Addr} {i x : Value} {pl pi px pv : PV} (hl : VR s.heap (.ref a) pl) (hi : VR s.heap i pi) (hx : VR s.heap x px) (h : putPV pl pi px = some pv)
    (hQ : ∀ h', VR h' (.ref a) pv → Heap.SameBut a s.heap h' → Q () { s with heap := h' }) : wpAny (model prog w) A (setItem (.ref a) i x) Q E s := by
  have key : ∀ {vs : List Value} {k : Int} {t : Tok}, PlainL s.heap a vs.toArray → 0 ≤ k → k < vs.length → vs.length ≤ 100000 → (∀ h', PlainL h' a (vs.set k.toNat x).toArray → Heap.SameBut a s.heap h' → Q () { s with heap := h' }) →
      wpAny (model prog w) A (setItem (.ref a) (.int k t) x) Q E s := fun {vs k t} hp h0 hn hc hQ => by
    obtain ⟨o, m, ho, hcl, hdn, hd⟩ := id hp
    unfold setItem
    try with_reducible refine wpAny_holding ?_
    first | refine wpAny_bind (wpAny_pure ?_) | skip
    refine wpAny_bind (wpAny_sequenceKey hp.isList.typeIs (by decide) ?_)
    refine wpAny_bind (wpAny_callSpecial?_slot (name := Str.ofString "__setitem__") hp.isList.typeIs slot_list_setitem (wpAny_call_entry slot_list_setitem hp.isList.typeIs entry_list_setitem ?_ (args_list_setitem _ _ _)))
    show wpAny _ _ (Builtin.List.listSubscript? (.int k t) >>= _) _ _ s
    refine wpAny_bind (wpAny_listSubscript_int (fitsIndex_of h0 (by omega)) ?_)
    obtain ⟨j, rfl⟩ := Int.eq_ofNat_of_zero_le h0
    have hj : j < vs.length := by omega
    show wpAny _ _ ((seqItemAt a j >>= fun r => pure (r.map (j, ·))) >>= _) _ _ s
    refine wpAny_bind (wpAny_bind (wpAny_seqItemAt ho hd (wpAny_pure ?_)))
    rw [show vs.toArray[j]? = some vs[j] by simp [hj]]
    show wpAny _ _ (setSeqItemAt a j x >>= _) _ _ s
    obtain ⟨n', hd2⟩ := Obj.data_mapSeq hd (·.setIfInBounds j x)
    have hfin : PlainL (s.heap.update a (Obj.mapSeq (·.setIfInBounds j x))) a (vs.set j x).toArray :=
      ⟨_, n', Heap.get?_update_self _ ho (Obj.isFreed_of_seq hd2), (Obj.cls_mapSeq ..).trans hcl, (dict_mapSeq ..).trans hdn, by rw [hd2]; simp⟩
    refine wpAny_bind (wpAny_setSeqItemAt ho hd ?_)
    first
      | exact wpAny_bind (wpAny_pure (wpAny_pure ⟨.none, rfl, wpAny_pure (hQ _ hfin (Heap.SameBut.update ..))⟩))
      | exact wpAny_pure ⟨.none, rfl, wpAny_pure (hQ _ hfin (Heap.SameBut.update ..))⟩
  have hcap : cap = 100000 := rfl
  unfold putPV at h
  split at h
  · split at h <;> cases h
    rename_i hc
    obtain ⟨a', vs, e, hp, hI⟩ := hl
    cases e
    obtain ⟨t, rfl⟩ := hi
    have e1 := hI.length
    exact key hp hc.1 (by omega) (by omega) fun h' hp' hs => hQ h' ⟨_, _, rfl, hp', Mine.Paired.set hI hx _⟩ hs
  · split at h <;> cases h
    rename_i hc
    obtain ⟨a', vs, e, hp, hI⟩ := hl
    cases e
    obtain ⟨t, rfl⟩ := hi
    have e1 := hI.length
    exact key hp hc.1 (by omega) (by omega) fun h' hp' hs => hQ h' ⟨_, _, rfl, hp', Mine.Paired.set hI hx _⟩ hs
  · cases h

theorem isRef_add {h : Heap} {v : Value} {p q r : PV} (R : VR h v p) (e : addPV p q = some r) : ∃ a, v = .ref a ∧ ∃ ob, h.get? a = some ob ∧ ob.dict = none := by
  unfold addPV at e
  split at e
  · obtain ⟨a, vs, rfl, ⟨o, _, ho, _, hd, _⟩, _⟩ := R; exact ⟨a, rfl, o, ho, hd⟩
  · obtain ⟨a, vs, rfl, ⟨o, _, ho, _, hd, _⟩, _⟩ := R; exact ⟨a, rfl, o, ho, hd⟩
  · cases e
theorem isRef_ext {h : Heap} {v : Value} {p q r : PV} (R : VR h v p) (e : extPV p q = some r) : ∃ a, v = .ref a ∧ ∃ ob, h.get? a = some ob ∧ ob.dict = none := by
  unfold extPV at e
  split at e
  · obtain ⟨a, vs, rfl, ⟨o, _, ho, _, hd, _⟩, _⟩ := R; exact ⟨a, rfl, o, ho, hd⟩
  · cases e
theorem isRef_put {h : Heap} {v : Value} {p i q r : PV} (R : VR h v p) (e : putPV p i q = some r) : ∃ a, v = .ref a := by
  unfold putPV at e
  split at e
  · obtain ⟨a, vs, rfl, _⟩ := R; exact ⟨a, rfl⟩
  · obtain ⟨a, vs, rfl, _⟩ := R; exact ⟨a, rfl⟩
  · cases e

def pTurn (i : Nat) (g : PV → PV → Option PV) (f : REnv → Option PV) : REnv → Option (PFlow × REnv) := fun ρ => (ρ[i]?.join).bind fun l => (f ρ).bind fun x => (g l x).map fun l' => (.next, ρ.set i (some l'))

theorem EvS.turn (i : Nat) {g : PV → PV → Option PV} {id : String} {name x : Str} {e : Expr} {p1 apos cpos epos : Pos} {k : Bool} {f : REnv → Option PV} (hx : C.vars[i]? = some x) (hi : i ∈ C.own) (h : EvX prog w C n k e f)
    (slot : Slot "list" name id) (hty : typeOf (.builtin id) = pure (.type "method_descriptor"))
    (hok : ∀ {A : Around} {E : Value → Shared → Prop} {Q : Value → Shared → Prop} {s : Shared} {a : Addr} {x : Value} {pl px pv : PV}, VR s.heap (.ref a) pl → VR s.heap x px → g pl px = some pv →
      (∀ h', VR h' (.ref a) pv → Heap.SameBut a s.heap h' → Q .none { s with heap := h' }) → wpAny (model prog w) A (call (.builtin id) [.ref a, x]) Q E s)
    (href : ∀ {h : Heap} {v : Value} {p q r : PV}, VR h v p → g p q = some r → ∃ a, v = .ref a ∧ ∃ ob, h.get? a = some ob ∧ ob.dict = none)
    (hd : (x == ("__debug__" : Str)) = false := by decide)
    (hsw : ∀ env, swapsWith (.Call (.Attribute (.Name x p1) name apos) [e] [] cpos) none epos.line env = pure false := by intro _; rfl)
    (hbase : ∀ env, attributeBase (.Name x p1) name env (eval (.Name x p1) env) = eval (.Name x p1) env := by intro _; rfl)
    (hfew : ∀ env, ((backTo cpos (starEach [e] env)).all (fun x => !x.1) && (backToKw cpos (keywordEach [] env)).all (fun x => x.1.isSome)
      && decide (([e] : List Expr).length + ([] : List Keyword).length + (if ([] : List Keyword).isEmpty then 0 else 1) < 30)) = true := by intro _; rfl)
    (hline : (apos.endLine == cpos.line) = true := by rfl)
    (hse : ∀ env, starEach [e] env = (false, eval e env) :: starEach [] env := by intro _; rfl) (hany : ∀ env, (backTo cpos (starEach [e] env)).any (·.1) = false := by intro _; rfl) :
    EvS prog w C n (.Expr (.Call (.Attribute (.Name x p1) name apos) [e] [] cpos) epos) (pTurn i g f) := fun A E env b s0 s ρ ρ' fl Q he hA F hf hQ => by
  obtain ⟨pl, hpl, hf⟩ := Option.bind_eq_some_iff.mp hf
  obtain ⟨px, hpx, hf⟩ := Option.bind_eq_some_iff.mp hf
  obtain ⟨pv, hpv, e'⟩ := Option.map_eq_some_iff.mp hf
  cases e'
  have hρ : ρ[i]? = some (some pl) := Option.join_eq_some_iff.mp hpl
  obtain ⟨v, H, R, o⟩ := F.vals i x pl hx hρ
  obtain ⟨a, rfl, ob, hob, hdn⟩ := href R hpv
  refine wpAny_Expr_any (wpAny_Call_method (hbase env) (hfew env) hline PySem.F.plainAttrs_list slot hty (wpAny_Name (load_holds he H ?_) hd)) (by unfold interactive; rw [he.scope, he.kind]; rfl) (hsw env)
  obtain ⟨items, hl⟩ := R.ref
  refine ⟨hl.typeIs, fun a' q => by cases q; exact ⟨ob, hob, hdn⟩, Calls.callWith_builtin (hany env) (evalArgs_es (hse env) ?_)⟩
  have hL : EvL prog w C n [e] (fun ρ => (f ρ).bind fun a => ((fun _ => some ([] : List PV)) ρ).map (a :: ·)) := EvL.cons h EvL.nil hse
  refine hL A E env b s0 s ρ [px] cpos _ he hA F (by simp [hpx]) fun vs s₁ k₁ rs => ?_
  cases rs with
  | cons h1 t =>
    cases t
    have F₁ := F.keeps k₁
    refine hok (R.keepsK k₁) h1 hpv fun h' hv' hs => ?_
    exact hQ _ _ (FR.mutate (tk := s₁.toks) F₁ hx hi hρ (H.keeps fun _ _ => Keeps.get k₁) hs hv') rfl

theorem EvS.append (i : Nat) {x : Str} {e : Expr} {p1 apos cpos epos : Pos} {k : Bool} {f : REnv → Option PV} (hx : C.vars[i]? = some x) (hi : i ∈ C.own) (h : EvX prog w C n k e f)
    (hd : (x == ("__debug__" : Str)) = false := by decide)
    (hsw : ∀ env, swapsWith (.Call (.Attribute (.Name x p1) "append" apos) [e] [] cpos) none epos.line env = pure false := by intro _; rfl)
    (hbase : ∀ env, attributeBase (.Name x p1) "append" env (eval (.Name x p1) env) = eval (.Name x p1) env := by intro _; rfl)
    (hfew : ∀ env, ((backTo cpos (starEach [e] env)).all (fun x => !x.1) && (backToKw cpos (keywordEach [] env)).all (fun x => x.1.isSome)
      && decide (([e] : List Expr).length + ([] : List Keyword).length + (if ([] : List Keyword).isEmpty then 0 else 1) < 30)) = true := by intro _; rfl)
    (hline : (apos.endLine == cpos.line) = true := by rfl)
    (hse : ∀ env, starEach [e] env = (false, eval e env) :: starEach [] env := by intro _; rfl) (hany : ∀ env, (backTo cpos (starEach [e] env)).any (·.1) = false := by intro _; rfl) :
    EvS prog w C n (.Expr (.Call (.Attribute (.Name x p1) "append" apos) [e] [] cpos) epos) (pTurn i addPV f) :=
  EvS.turn i hx hi h PySem.F.slot_list_append PySem.F.type_list_append appendOk isRef_add hd hsw hbase hfew hline hse hany
theorem EvS.extend (i : Nat) {x : Str} {e : Expr} {p1 apos cpos epos : Pos} {k : Bool} {f : REnv → Option PV} (hx : C.vars[i]? = some x) (hi : i ∈ C.own) (h : EvX prog w C n k e f)
    (hd : (x == ("__debug__" : Str)) = false := by decide)
    (hsw : ∀ env, swapsWith (.Call (.Attribute (.Name x p1) "extend" apos) [e] [] cpos) none epos.line env = pure false := by intro _; rfl)
    (hbase : ∀ env, attributeBase (.Name x p1) "extend" env (eval (.Name x p1) env) = eval (.Name x p1) env := by intro _; rfl)
    (hfew : ∀ env, ((backTo cpos (starEach [e] env)).all (fun x => !x.1) && (backToKw cpos (keywordEach [] env)).all (fun x => x.1.isSome)
      && decide (([e] : List Expr).length + ([] : List Keyword).length + (if ([] : List Keyword).isEmpty then 0 else 1) < 30)) = true := by intro _; rfl)
    (hline : (apos.endLine == cpos.line) = true := by rfl)
    (hse : ∀ env, starEach [e] env = (false, eval e env) :: starEach [] env := by intro _; rfl) (hany : ∀ env, (backTo cpos (starEach [e] env)).any (·.1) = false := by intro _; rfl) :
    EvS prog w C n (.Expr (.Call (.Attribute (.Name x p1) "extend" apos) [e] [] cpos) epos) (pTurn i extPV f) :=
  EvS.turn i hx hi h PySem.F.slot_list_extend PySem.F.type_list_extend extendOk isRef_ext hd hsw hbase hfew hline hse hany

def pPut (i : Nat) (fi fv : REnv → Option PV) : REnv → Option (PFlow × REnv) := fun ρ => (fv ρ).bind fun v => (ρ[i]?.join).bind fun l => (fi ρ).bind fun k => (putPV l k v).map fun l' => (.next, ρ.set i (some l'))

theorem EvS.put (i : Nat) {x : Str} {ei e : Expr} {px p' pos : Pos} {k k' : Bool} {fi fv : REnv → Option PV} (hx : C.vars[i]? = some x) (hi : i ∈ C.own) (hidx : EvX prog w C n k ei fi) (h : EvX prog w C n k' e fv)
    (hs : ∀ env, swapsWith e (some (.Subscript (.Name x px) ei p')) pos.line env = pure false := by intro _; rfl) (hd : (x == ("__debug__" : Str)) = false := by decide) :
    EvS prog w C n (.Assign [.Subscript (.Name x px) ei p'] e pos) (pPut i fi fv) := fun A E env b s0 s ρ ρ' fl Q he hA F hf hQ => by
  obtain ⟨pv, hpv, hf⟩ := Option.bind_eq_some_iff.mp hf
  obtain ⟨pl, hpl, hf⟩ := Option.bind_eq_some_iff.mp hf
  obtain ⟨pk, hpk, hf⟩ := Option.bind_eq_some_iff.mp hf
  obtain ⟨pr, hpr, e'⟩ := Option.map_eq_some_iff.mp hf
  cases e'
  have hρ : ρ[i]? = some (some pl) := Option.join_eq_some_iff.mp hpl
  obtain ⟨v, H, R, o⟩ := F.vals i x pl hx hρ
  obtain ⟨a, rfl⟩ := isRef_put R hpr
  refine wpAny_Assign_Subscript (h A E env b s0 s ρ pv _ he hA F hpv fun u s₁ k₁ ru _ => ?_) (hs env)
  have F₁ := F.keeps k₁
  refine wpAny_Name (load_holds he (H.keeps fun _ _ => Keeps.get k₁) ?_) hd
  refine hidx A E env b s0 s₁ ρ pk _ he hA F₁ hpk fun iv s₂ k₂ ri _ => ?_
  exact putOk ((R.keepsK k₁).keepsK k₂) ri (ru.keepsK k₂) hpr fun h' hv' hs' => hQ _ _ (FR.mutate (tk := s₂.toks) (F₁.keeps k₂) hx hi hρ ((H.keeps fun _ _ => Keeps.get k₁).keeps fun _ _ => Keeps.get k₂) hs' hv') rfl

def pAugPut (i : Nat) (op : Operator) (fi fv : REnv → Option PV) : REnv → Option (PFlow × REnv) := fun ρ => (ρ[i]?.join).bind fun l => (fi ρ).bind fun k => (pyIdx l k).bind fun old => (fv ρ).bind fun v => (pyAug op old v).bind fun new => (putPV l k new).map fun l' => (.next, ρ.set i (some l'))

theorem getItemOk {A : Around} {E : Value → Shared → Prop} {Q : Value → Shared → Prop} {s : Shared} {o i : Value} {pl pi px pv pr : PV} (hl : VR s.heap o pl) (hi : VR s.heap i pi) (h : pyIdx pl pi = some pv) (hp : putPV pl pi px = some pr)
    (hQ : VR s.heap (pvVal : Value) pv → True) (hQ2 : ∀ v, VR s.heap v pv → Q v s) : wpAny (model prog w) A (getItem o i) Q E s := by
  unfold putPV at hp
  split at hp
  · rename_i xs k x
    split at hp <;> cases hp
    rename_i hc
    obtain ⟨a, vs, rfl, hpl, hI⟩ := hl
    obtain ⟨t, rfl⟩ := hi
    have hcap : cap = 100000 := rfl
    have hk : 0 ≤ k ∧ k < 100000 := ⟨hc.1, by omega⟩
    simp only [pyIdx, hk, and_self, if_true] at h
    obtain ⟨y, hy, rfl⟩ := Option.map_eq_some_iff.mp h
    obtain ⟨v, hv, hf⟩ := Mine.Paired.get hI hy
    exact wpAny_getItem_list hpl.isList hk.1 (by omega) (by simpa using hv) (hQ2 v hf)
  · rename_i xs k x
    split at hp <;> cases hp
    rename_i hc
    obtain ⟨a, vs, rfl, hpl, hI⟩ := hl
    obtain ⟨t, rfl⟩ := hi
    have hcap : cap = 100000 := rfl
    have hk : 0 ≤ k ∧ k < 100000 := ⟨hc.1, by omega⟩
    simp only [pyIdx, hk, and_self, if_true] at h
    obtain ⟨y, hy, rfl⟩ := Option.map_eq_some_iff.mp h
    obtain ⟨v, hv, hf⟩ := Mine.Paired.get hI hy
    exact wpAny_getItem_list hpl.isList hk.1 (by omega) (by simpa using hv) (hQ2 v hf)
  · cases hp

theorem EvS.augPut (i : Nat) {x : Str} {op : Operator} {ei e : Expr} {px p' pos : Pos} {k k' : Bool} {fi fv : REnv → Option PV} (hx : C.vars[i]? = some x) (hi : i ∈ C.own) (hidx : EvX prog w C n k ei fi) (h : EvX prog w C n k' e fv)
    (ha : ∀ ov iv new, augStore ei ov iv new = (do holding [new, ov, iv] (setItem ov iv new); release [new, ov, iv] []; pure .next) := by intro _ _ _; rfl) (hd : (x == ("__debug__" : Str)) = false := by decide) :
    EvS prog w C n (.AugAssign (.Subscript (.Name x px) ei p') op e pos) (pAugPut i op fi fv) := fun A E env b s0 s ρ ρ' fl Q he hA F hf hQ => by
  obtain ⟨pl, hpl, hf⟩ := Option.bind_eq_some_iff.mp hf
  obtain ⟨pk, hpk, hf⟩ := Option.bind_eq_some_iff.mp hf
  obtain ⟨po, hpo, hf⟩ := Option.bind_eq_some_iff.mp hf
  obtain ⟨pv, hpv, hf⟩ := Option.bind_eq_some_iff.mp hf
  obtain ⟨pn, hpn, hf⟩ := Option.bind_eq_some_iff.mp hf
  obtain ⟨pr, hpr, e'⟩ := Option.map_eq_some_iff.mp hf
  cases e'
  have hρ : ρ[i]? = some (some pl) := Option.join_eq_some_iff.mp hpl
  obtain ⟨v, H, R, o⟩ := F.vals i x pl hx hρ
  obtain ⟨a, rfl⟩ := isRef_put R hpr
  refine wpAny_AugAssign_Subscript_any (wpAny_Name (load_holds he H ?_) hd) ha
  refine hidx A E env b s0 s ρ pk _ he hA F hpk fun iv s₁ k₁ ri _ => ?_
  refine getItemOk (R.keepsK k₁) ri hpo hpr (pvVal := .none) (fun _ => trivial) fun old ro => ?_
  refine h A E env b s0 s₁ ρ pv _ he hA (F.keeps k₁) hpv fun u s₂ k₂ ru _ => ?_
  refine augOk hpn (ro.keepsK k₂) ru A E _ hA fun new s₃ k₃ rn _ => ?_
  exact putOk (((R.keepsK k₁).keepsK k₂).keepsK k₃) ((ri.keepsK k₂).keepsK k₃) rn hpr fun h' hv' hs' =>
    hQ _ _ (FR.mutate (tk := s₃.toks) (((F.keeps k₁).keeps k₂).keeps k₃) hx hi hρ (((H.keeps fun _ _ => Keeps.get k₁).keeps fun _ _ => Keeps.get k₂).keeps fun _ _ => Keeps.get k₃) hs' hv') rfl

end
end Mine
end PartFw12

/- part Fw13 -/
section PartFw13
open PySem PySem.W PyProof.Rows PySem.SeqAt PySem.Builtin PySem.Builtin.Re
namespace Mine
set_option maxRecDepth 100000 in
theorem slot_sub : Slot "re.Pattern" "sub" "re.Pattern.sub" :=
  .of (owner := "re.Pattern") (n := "sub") (by rw [typeLookup_type, builtinLookup_eq_fast]; kernel_rfl) (by decide +kernel) (by decide +kernel) (by decide +kernel)
    (by first | exact .inl (by decide +kernel) | exact .inr (by decide +kernel)) (by rw [isSubtype_type]; kernel_rfl)
set_option maxRecDepth 100000 in
theorem plainAttrs_pattern : PlainAttrs "re.Pattern" :=
  ⟨⟨"object.__getattribute__", by rw [typeLookup_type, builtinLookup_eq_fast]; kernel_rfl, by decide +kernel⟩, by rw [typeLookup_type, builtinLookup_eq_fast]; kernel_rfl⟩
theorem type_sub : typeOf (.builtin "re.Pattern.sub") = pure (.type "method_descriptor") := by show builtinType _ = _; rw [builtinType_eq_fast]; kernel_rfl
theorem entry_sub : entryFor table "re.Pattern.sub" = some Builtin.«re.Pattern.sub» := entryFor_of_tree (by kernel_rfl)
theorem entry_sub_loop : entryFor table "re.Pattern.sub.loop" = some Builtin.«re.Pattern.sub.loop» := entryFor_of_tree (by kernel_rfl)
theorem plain_sub_loop : plainId "re.Pattern.sub.loop" = true := by decide +kernel
theorem args_sub (a b c : Value) : argsOk "re.Pattern.sub" ⟨[a, b, c], []⟩ := by unfold argsOk; kernel_rfl
theorem str_not_called : typeLookup (.type "str") "__call__" = pure none := by rw [typeLookup_type, builtinLookup_eq_fast]; kernel_rfl
end Mine
end PartFw13

/- part Fw14 -/
section PartFw14
open PySem PySem.W PyProof.Rows PySem.SeqAt PySem.Builtin PySem.Builtin.Re
namespace Mine

section
variable {M : Model} {A : Around} {E : Value → Shared → Prop} {s : Shared}

theorem drive_ok {Q : Sre.M → Shared → Prop} : ∀ (j turns : Nat) (m : Sre.M), j < turns → (m.runFor (4 * (j + 1))).outcome.isSome = true → Q (m.runFor (4 * (j + 1))) s → wpAny M A (reDrive turns m) Q E s
  | j, 0, m, h, _, _ => absurd h (Nat.not_lt_zero _)
  | j, t + 1, m, h, ho, hQ => by
    unfold reDrive
    show wpAny M A (if (m.runFor 4).outcome.isSome = true then pure (m.runFor 4) else (rule "sre.turn" >>= fun _ => reDrive t (m.runFor 4))) Q E s
    by_cases h4 : (m.runFor 4).outcome.isSome = true
    · rw [if_pos h4]
      have e : m.runFor (4 * (j + 1)) = m.runFor 4 := by
        rw [show 4 * (j + 1) = 4 + 4 * j by omega, runFor_add, runFor_done h4]
      rw [e] at hQ
      exact wpAny_pure hQ
    · rw [if_neg h4]
      refine wpAny_bind (wpAny_rule ?_)
      cases j with
      | zero => exact absurd ho h4
      | succ j =>
        have e : m.runFor (4 * (j + 1 + 1)) = (m.runFor 4).runFor (4 * (j + 1)) := by rw [← runFor_add, show 4 * (j + 1 + 1) = 4 + 4 * (j + 1) by omega]
        rw [e] at ho hQ
        exact drive_ok j t _ (Nat.lt_of_succ_lt_succ h) ho hQ

theorem rules_ok {Q : PUnit → Shared → Prop} (f : Nat → PUnit → Sem (ForInStep PUnit)) (hf : ∀ i u, ∃ tag, f i u = pure (.yield ⟨⟩) ∨ f i u = (rule tag >>= fun _ => pure (.yield ⟨⟩))) (h : Q ⟨⟩ s) (l : List Nat) : wpAny M A (forIn l ⟨⟩ f) Q E s :=
  wpAny_forIn_list f (fun _ _ s' => s' = s) Q (fun x rest b s' e => by
    subst e
    obtain ⟨tag, e | e⟩ := hf x b
    · rw [e]; exact wpAny_pure rfl
    · rw [e]; exact wpAny_bind (wpAny_rule (wpAny_pure rfl))) (fun b s' e => by subst e; exact h) l ⟨⟩ rfl

theorem run_ok {Q : Option Sre.M → Shared → Prop} {k : Nat} {m : Sre.M} {r : Option (Nat × Nat)} (hE : Ends k m r) (hk : k < 1000000000)
    (h : match r with
      | some (a, e) => ∀ m' : Sre.M, m'.start = a → m'.handed = e → Q (some m') s
      | none => Q none s) : wpAny M A (reRunToEnd m) Q E s := by
  obtain ⟨j, hj, H⟩ := hE
  have hsome : (m.runFor j).outcome.isSome = true := by
    cases r with
    | none => obtain ⟨x, hx, _⟩ := H; rw [hx]; rfl
    | some p => obtain ⟨⟨x, hx, _⟩, _⟩ := H; rw [hx]; rfl
  have e : m.runFor (4 * (j + 1)) = m.runFor j := by
    rw [show 4 * (j + 1) = j + (3 * j + 4) by omega, runFor_add, runFor_done hsome]
  unfold reRunToEnd
  refine wpAny_bind (drive_ok j (2 ^ 64) m (by have : (2:Nat) ^ 64 = 18446744073709551616 := by decide
                                               omega) (by rw [e]; exact hsome) ?_)
  rw [e]
  refine wpAny_bind (rules_ok _ (fun i u => ⟨Sre.names.getD i "", ?_⟩) ?_ _)
  · by_cases hs : (m.runFor j).seen.has i = true
    · right; rw [if_pos hs]
    · left; rw [if_neg hs]
  · cases r with
    | none => obtain ⟨x, hx, rfl⟩ := H; rw [hx]; exact wpAny_pure h
    | some p => obtain ⟨⟨x, hx, rfl⟩, h1, h2⟩ := H; rw [hx]; exact wpAny_pure (h _ h1 h2)

theorem PatAt.but {h h' : Heap} {p L : Addr} {code : Array Nat} (x : PatAt h p code) (hs : Heap.SameBut L h h') {its : Array Value} (hl : h.IsList L its) (hc : ∀ o fs c, h.get? p = some o → o.data = .fields fs → fs.getD 5 .none = .ref c → c ≠ L) : PatAt h' p code := by
  obtain ⟨o, fs, c, oc, its', n, h1, h2, h3, h4, h5, h6, h7, h8, h9, h10⟩ := x
  have hp : p ≠ L := by
    rintro rfl
    obtain ⟨o', ho', _, m, hd⟩ := hl
    rw [h1] at ho'; cases ho'; rw [h4] at hd; cases hd
  exact ⟨o, fs, c, oc, its', n, (hs.2 p hp).trans h1, h2, h3, h4, h5, h6, h7, (hs.2 c (hc o fs c h1 h4 h5)).trans h8, h9, h10⟩

theorem whole_ok {Q : ReTarget → Shared → Prop} {p : Addr} {code : Array Nat} {x : Str} {t : Tok} (hp : PatAt s.heap p code)
    (h : Q { pattern := .ref p, string := .str x t, code := code, text := x.cps, kind := 0, groups := 0, pos := 0, lim := x.cps.size } s) : wpAny M A (reWholeTarget (.ref p) (.str x t)) Q E s := by
  obtain ⟨o, fs, c, oc, its, n, h1, h2, h3, h4, h5, h6, h7, h8, h9, h10⟩ := hp
  unfold reWholeTarget fieldsOf
  refine wpAny_bind (wpAny_bind (wpAny_load h1 ?_))
  rw [h4]
  refine wpAny_pure ?_
  unfold reTextOf asStr?
  refine wpAny_bind (wpAny_bind (wpAny_pure (wpAny_pure ?_)))
  rw [h6]
  show wpAny M A (reNoCollectionInside _ 0 >>= fun _ => _) Q E s
  refine wpAny_bind (wpAny_pure ?_)
  rw [h5, h7]
  unfold reRawItems
  refine wpAny_bind (wpAny_bind (wpAny_seqItems h8 h9 (wpAny_pure ?_)))
  refine wpAny_pure ?_
  show Q { pattern := _, string := _, code := (its.map reRawOf).map (·.toNat), text := _, kind := _, groups := _, pos := _, lim := _ } s
  rw [h10]; exact h
end

def subPieces (seek : Nat → Option (Nat × Nat)) (t repl : List Nat) : Nat → Nat → Option (List (List Nat))
  | 0, _ => none
  | k + 1, done => match seek done with
    | some (a, e) => if e = a then none else (subPieces seek t repl k e).map fun r => (if done < a then [(t.drop done).take (a - done)] else []) ++ repl :: r
    | none => some (if done < t.length then [(t.drop done).take (t.length - done)] else [])

def subText (seek : Nat → Option (Nat × Nat)) (t repl : List Nat) : Option (List Nat) :=
  (subPieces seek t repl (t.length + 2) 0).bind fun ps => if t.length ≤ 1000 ∧ ps.length ≤ 1000 ∧ (ps.map (·.length)).sum ≤ 10000 ∧ repl.contains 92 = false then some (if ps = [] then [] else joinL [] ps) else none

theorem extract_is (x : List Nat) (a b : Nat) : (⟨(mkS x).cps.extract a b⟩ : Str) = mkS ((x.drop a).take (b - a)) := by
  simp [mkS, List.extract_eq_take_drop]

theorem run_some {M : Model} {A : Around} {E : Value → Shared → Prop} {s : Shared} {Q : Option Sre.M → Shared → Prop} {k a e : Nat} {m : Sre.M} {r : Option (Nat × Nat)} (hE : Ends k m r) (hr : r = some (a, e)) (hk : k < 1000000000) (h : ∀ m' : Sre.M, m'.start = a → m'.handed = e → Q (some m') s) : wpAny M A (reRunToEnd m) Q E s := by
  subst hr; exact run_ok hE hk h
theorem run_none {M : Model} {A : Around} {E : Value → Shared → Prop} {s : Shared} {Q : Option Sre.M → Shared → Prop} {k : Nat} {m : Sre.M} {r : Option (Nat × Nat)} (hE : Ends k m r) (hr : r = none) (hk : k < 1000000000) (h : Q none s) : wpAny M A (reRunToEnd m) Q E s := by
  subst hr; exact run_ok hE hk h

section
variable {prog : Program} {w : World} {A : Around} {s : Shared}

theorem slice_ok {E : Value → Shared → Prop} {Q : Value → Shared → Prop} (x : List Nat) (b e : Nat) (hx : x.length ≤ 1000) (h : ∀ v, IsS v ((x.drop b).take (e - b)) → Q v { s with toks := s.toks + 1 }) : wpAny (model prog w) A (reSlice (mkS x).cps 0 b e) Q E s := by
  unfold reSlice
  show wpAny _ _ (mkStr _) _ _ _
  rw [extract_is]
  refine wpAny_mkStr (h _ ⟨_, rfl⟩) (sizeLine_big ?_)
  rw [mkS_length, List.length_take, List.length_drop]; omega

/-- a piece is laid behind the others -/
theorem push_piece {L : Addr} {vs : List Value} {qs : List (List Nat)} {v : Value} {q : List Nat} {E : Value → Shared → Prop} {Q : Unit → Shared → Prop} (hl : PlainL s.heap L vs.toArray) (hp : StrsV vs qs) (hv : IsS v q) (hn : qs.length ≤ 5000)
    (h : ∀ h', PlainL h' L (vs ++ [v]).toArray → StrsV (vs ++ [v]) (qs ++ [q]) → Heap.SameBut L s.heap h' → Q () { s with heap := h' }) : wpAny (model prog w) A (updateSeq L (·.push v)) Q E s := by
  obtain ⟨o, m, ho, hcl, hdn, hd⟩ := id hl
  obtain ⟨n', hd2⟩ := Obj.data_mapSeq hd (·.push v)
  have e := hp.length
  refine wpAny_updateSeq ho hd (h _ ⟨_, n', Heap.get?_update_self _ ho (Obj.isFreed_of_seq hd2), (Obj.cls_mapSeq ..).trans hcl, (dict_mapSeq ..).trans hdn, ?_⟩ (Mine.Paired.append hp (.cons hv .nil)) (Heap.SameBut.update ..)) (sizeLine_big (by rw [List.size_toArray]; omega))
    (Nat.le_succ_of_le (sizeLine_big (by rw [Array.size_push, List.size_toArray]; omega)))
  rw [hd2]; simp

def ButL (L : Addr) (s s' : Shared) : Prop := ∃ h' tk, s' = { s with heap := h', toks := tk } ∧ ∀ b, b ≠ L → ∀ o, s.heap.get? b = some o → h'.get? b = some o
theorem ButL.refl {L : Addr} (s : Shared) : ButL L s s := ⟨s.heap, s.toks, rfl, fun _ _ _ e => e⟩
theorem ButL.tick {L : Addr} (s : Shared) (k : Nat) : ButL L s { s with toks := k } := ⟨s.heap, k, rfl, fun _ _ _ e => e⟩
theorem ButL.trans {L : Addr} {s s' s'' : Shared} (x : ButL L s s') (y : ButL L s' s'') : ButL L s s'' := by
  obtain ⟨h, t, rfl, k⟩ := x
  obtain ⟨h', t', rfl, k'⟩ := y
  exact ⟨h', t', rfl, fun b hb o e => k' b hb o (k b hb o e)⟩
theorem ButL.same {L : Addr} {s : Shared} {h' : Heap} {tk : Nat} (hs : Heap.SameBut L s.heap h') : ButL L s { s with heap := h', toks := tk } := ⟨h', tk, rfl, fun b hb o e => (hs.2 b hb).trans e⟩

structure LoopAt (h : Heap) (p L : Addr) (code : Array Nat) (vs : List Value) (qs : List (List Nat)) : Prop where
  pat : PatAt h p code
  ne : ∀ o fs c, h.get? p = some o → o.data = .fields fs → fs.getD 5 .none = .ref c → c ≠ L
  list : PlainL h L vs.toArray
  texts : StrsV vs qs

theorem LoopAt.push {h h' : Heap} {p L : Addr} {code : Array Nat} {vs us : List Value} {qs rs : List (List Nat)} (X : LoopAt h p L code vs qs) (hs : Heap.SameBut L h h') (hl : PlainL h' L us.toArray) (hr : StrsV us rs) : LoopAt h' p L code us rs := by
  have hp : p ≠ L := by
    rintro rfl
    obtain ⟨o, fs, c, oc, its', n, h1, h2, h3, h4, _⟩ := X.pat
    obtain ⟨o', ho', _, m, hd⟩ := X.list.isList
    rw [h1] at ho'; cases ho'; rw [h4] at hd; cases hd
  exact ⟨X.pat.but hs X.list.isList X.ne, fun o fs c h1 => X.ne o fs c ((hs.2 p hp).symm.trans h1), hl, hr⟩

theorem loop_ok {seek : Nat → Option (Nat × Nat)} {code : Array Nat} {p L : Addr} {x repl : List Nat} {t u : Tok} {R : Result → Shared → Prop} {K : Nat}
    (hK : K < 1000000000) (hseek : ∀ s, Ends K (Sre.forSearch code (mkS x).cps 0 s (mkS x).cps.size false) (seek s)) (hx : x.length ≤ 1000) : ∀ (k done : Nat) (cnt : Int) (s : Shared) (vs : List Value) (qs out : List (List Nat)),
    LoopAt s.heap p L code vs qs → subPieces seek x repl k done = some out → qs.length + out.length ≤ 1000 → ((qs ++ out).map (·.length)).sum ≤ 10000 →
    (∀ v s', ButL L s s' → IsS v (if qs ++ out = [] then [] else joinL [] (qs ++ out)) → R (.ok (.ret v)) s') →
    codeAny (model prog w) A (.builtin "re.Pattern.sub.loop" ⟨[.ref p, .str (mkS x) t, .str (mkS repl) u, rawInt 0, rawInt 0, rawInt cnt, rawInt done, rawInt done, .bool false, .ref L, .bool false], []⟩) R s
  | 0, done, cnt, s, vs, qs, out, _, h, _, _, _ => by cases h
  | k + 1, done, cnt, s, vs, qs, out, X, h, hlen, hsum, hR => by
    refine codeAny_builtin entry_sub_loop ?_
    rw [Around.under_plainId plain_sub_loop _]
    show wpAny _ A.in1 (reWholeTarget (.ref p) (.str (mkS x) t) >>= _) _ _ s
    refine wpAny_bind (whole_ok X.pat ?_)
    show wpAny _ A.in1 (reLiteralCannotBeTurned (.str (mkS repl) u) >>= _) _ _ s
    refine wpAny_bind ?_
    unfold reLiteralCannotBeTurned asStr?
    refine wpAny_bind (wpAny_pure ?_)
    show wpAny _ A.in1 (pure ()) _ _ s
    refine wpAny_pure ?_
    show wpAny _ A.in1 (reRunToEnd (Sre.forSearch code (mkS x).cps 0 ((done : Int)).toNat (mkS x).cps.size false) >>= _) _ _ s
    have hsz : (mkS x).cps.size = x.length := by simp [mkS]
    unfold subPieces at h
    cases hs : seek done with
    | some r =>
      obtain ⟨a, e⟩ := r
      rw [hs] at h
      dsimp only at h
      refine wpAny_bind (run_some (hseek _) hs hK fun m' h1 h2 => ?_)
      by_cases hea : e = a
      · rw [if_pos hea] at h; cases h
      · rw [if_neg hea] at h
        obtain ⟨rest, hrest, rfl⟩ := Option.map_eq_some_iff.mp h
        dsimp only
        rw [h1, h2]
        have tail : ∀ (s₁ : Shared) (vs₁ : List Value) (qs₁ : List (List Nat)), ButL L s s₁ → LoopAt s₁.heap p L code vs₁ qs₁ → qs₁ ++ repl :: rest = qs ++ ((if done < a then [(x.drop done).take (a - done)] else []) ++ repl :: rest) →
            wpAny (model prog w) A.in1 (updateSeq L (fun y => y.push (.str (mkS repl) u)) >>= fun _ => again (.builtin "re.Pattern.sub.loop" ⟨[.ref p, .str (mkS x) t, .str (mkS repl) u, rawInt 0, rawInt 0, rawInt (cnt + 1), rawInt e, rawInt e, .bool (e == a), .ref L, .bool false], []⟩))
              (fun fin s' => match fin with | .done f => R (.ok f) s' | .again c' => c'.quiet = true ∧ codeAny (model prog w) A c' R s') (fun e s' => R (.error e) s') s₁ := fun s₁ vs₁ qs₁ hB X₁ hq => by
          have hlen' : qs.length + ((if done < a then [(x.drop done).take (a - done)] else []) ++ repl :: rest).length = qs₁.length + (rest.length + 1) := by
            rw [← List.length_append, ← hq, List.length_append, List.length_cons]
          rw [← hq] at hsum hR
          refine wpAny_bind (push_piece X₁.list X₁.texts ⟨u, rfl⟩ (by omega) fun h' hl' hp' hs' => ?_)
          rw [show (e == a) = false from beq_false_of_ne hea]
          refine wpAny_pure ⟨plainId_quiet plain_sub_loop _, ?_⟩
          refine loop_ok hK hseek hx k e (cnt + 1) _ _ (qs₁ ++ [repl]) rest (X₁.push hs' hl' hp') hrest (by rw [List.length_append, List.length_singleton]; omega) (by rw [List.append_assoc]; exact hsum) fun v s' hB' hv => hR v s' ((hB.trans (ButL.same hs')).trans hB') ?_
          rw [List.append_assoc] at hv
          exact hv
        have mid : ∀ (s₁ : Shared) (vs₁ : List Value) (qs₁ : List (List Nat)), ButL L s s₁ → LoopAt s₁.heap p L code vs₁ qs₁ → qs₁ ++ repl :: rest = qs ++ ((if done < a then [(x.drop done).take (a - done)] else []) ++ repl :: rest) →
            wpAny (model prog w) A.in1 (pure (Value.str (mkS repl) u) >>= fun item => (updateSeq L (fun y => y.push item) >>= fun _ => again (.builtin "re.Pattern.sub.loop" ⟨[.ref p, .str (mkS x) t, .str (mkS repl) u, rawInt 0, rawInt 0, rawInt (cnt + 1), rawInt e, rawInt e, .bool (e == a), .ref L, .bool false], []⟩)))
              (fun fin s' => match fin with | .done f => R (.ok f) s' | .again c' => c'.quiet = true ∧ codeAny (model prog w) A c' R s') (fun e s' => R (.error e) s') s₁ := fun s₁ vs₁ qs₁ hB X₁ hq => wpAny_bind (wpAny_pure (tail s₁ vs₁ qs₁ hB X₁ hq))
        by_cases hd : done < a
        · rw [if_pos (show ((done : Int)).toNat < a from hd)]
          refine wpAny_bind (slice_ok x done a hx fun v hv => ?_)
          refine wpAny_bind (push_piece X.list X.texts hv (by simp only [List.length_append, List.length_cons] at hlen; omega) fun h' hl' hp' hs' => ?_)
          exact mid _ _ (qs ++ [(x.drop done).take (a - done)]) ((ButL.tick s _).trans (ButL.same hs')) (X.push hs' hl' hp') (by rw [if_pos hd, List.append_assoc])
        · rw [if_neg (show ¬ ((done : Int)).toNat < a from hd)]
          exact mid s vs qs (ButL.refl s) X (by rw [if_neg hd]; rfl)
    | none =>
      rw [hs] at h
      dsimp only at h
      refine wpAny_bind (run_none (hseek _) hs hK ?_)
      dsimp only
      have fin : ∀ (s₁ : Shared) (vs₁ : List Value) (qs₁ : List (List Nat)), ButL L s s₁ → LoopAt s₁.heap p L code vs₁ qs₁ → qs₁ = qs ++ out →
          wpAny (model prog w) A.in1 (reSlice (mkS x).cps 0 0 0 >>= fun joiner => seqItems? (.ref L) >>= fun its => if (its.getD #[]).isEmpty = true then (pure joiner >>= fun text => ret text) else (call (.builtin "str.join") [joiner, .ref L] >>= fun text => ret text))
            (fun fin s' => match fin with | .done f => R (.ok f) s' | .again c' => c'.quiet = true ∧ codeAny (model prog w) A c' R s') (fun e s' => R (.error e) s') s₁ := fun s₁ vs₁ qs₁ hB X₁ hq => by
        subst hq
        refine wpAny_bind (slice_ok x 0 0 hx fun v hv => ?_)
        obtain ⟨o, m, ho, hcl, hdn, hdd⟩ := id X₁.list
        refine wpAny_bind (wpAny_seqItems ho hdd ?_)
        have hv0 : IsS v [] := by simpa using hv
        have e := X₁.texts.length
        have hB' : ButL L s { s₁ with toks := s₁.toks + 1 } := hB.trans (ButL.tick _ _)
        by_cases hemp : qs ++ out = []
        · have hvs : vs₁ = [] := List.length_eq_zero_iff.mp (by rw [e, hemp]; rfl)
          subst hvs
          rw [if_pos (show (((some (#[] : Array Value))).getD #[]).isEmpty = true from rfl)]
          refine wpAny_bind (wpAny_pure (wpAny_pure ?_))
          exact hR v _ hB' (by rw [if_pos hemp]; exact hv0)
        · have hvs : vs₁ ≠ [] := fun q => hemp (List.length_eq_zero_iff.mp (by rw [← e, q]; rfl))
          rw [if_neg (by cases vs₁ with | nil => exact absurd rfl hvs | cons _ _ => simp)]
          obtain ⟨t', rfl⟩ := hv0
          have e2 : (((qs ++ out).map mkS).map (·.length)).sum = ((qs ++ out).map (·.length)).sum := by rw [List.map_map]; congr 1
          refine wpAny_bind (join_listW X₁.list.isList (StrsV.are X₁.texts) (by rw [mkS_length]; decide) (by rw [e2, List.length_map, List.length_append]; omega) fun t'' k => wpAny_pure ?_)
          exact hR _ _ (hB'.trans (ButL.tick _ _)) (by rw [if_neg hemp]; exact ⟨t'', rfl⟩)
      cases h
      by_cases hd : done < x.length
      · rw [if_pos (show ((done : Int)).toNat < (mkS x).cps.size by rw [hsz]; exact hd)]
        rw [if_pos hd] at hlen fin
        refine wpAny_bind (slice_ok x done (mkS x).cps.size hx fun v hv => ?_)
        rw [hsz] at hv
        refine wpAny_bind (push_piece X.list X.texts hv (by omega) fun h' hl' hp' hs' => ?_)
        exact fin _ _ _ ((ButL.tick s _).trans (ButL.same hs')) (X.push hs' hl' hp') rfl
      · rw [if_neg (show ¬ ((done : Int)).toNat < (mkS x).cps.size by rw [hsz]; exact hd)]
        rw [if_neg hd] at fin
        exact fin s vs qs (ButL.refl s) X (List.append_nil _).symm
end
end Mine
end PartFw14

/- part Fw15 -/
section PartFw15
open PySem PySem.W PyProof.Rows PySem.SeqAt PySem.Builtin PySem.Builtin.Re
namespace Mine

theorem named_two (a b : Value) : reNamed "re.Pattern.sub" "sub" ["repl", "string", "count"] 2 [a, b] [] = pure [some a, some b, none] := rfl

theorem sub_meets {seek : Nat → Option (Nat × Nat)} {code : Array Nat} {p : Addr} {x repl out : List Nat} {t u : Tok} {K : Nat}
    (hK : K < 1000000000) (hseek : ∀ s, Ends K (Sre.forSearch code (mkS x).cps 0 s (mkS x).cps.size false) (seek s)) (hout : subText seek x repl = some out) :
    Meets (Builtin.«re.Pattern.sub» ⟨[.ref p, .str (mkS repl) u, .str (mkS x) t], []⟩)
      (fun _ R s => PatAt s.heap p code ∧ ∀ v s', Keeps s s' → IsS v out → R (.ok (.ret v)) s') := fun prog w A R s ⟨hp, hR⟩ => by
  obtain ⟨ps, hps, hout⟩ := Option.bind_eq_some_iff.mp hout
  split at hout
  case isFalse => cases hout
  rename_i hc
  injection hout with ho
  subst ho
  obtain ⟨hx, hn, hsum, h92⟩ := hc
  show wpAny _ A.in1 (reNamed "re.Pattern.sub" "sub" ["repl", "string", "count"] 2 [.str (mkS repl) u, .str (mkS x) t] [] >>= _) _ _ s
  rw [named_two]
  refine wpAny_bind (wpAny_pure ?_)
  show wpAny _ A.in1 (pure (0 : Int) >>= _) _ _ s
  refine wpAny_bind (wpAny_pure ?_)
  refine wpAny_bind (wpAny_specialOf (typeIs_str _ _ _) str_not_called ?_)
  show wpAny _ A.in1 (asStr? (.str (mkS repl) u) >>= _) _ _ s
  unfold asStr?
  refine wpAny_bind (wpAny_pure ?_)
  have h92' : (!(mkS repl).cps.contains 92) = true := by
    show (!((repl.toArray).contains 92)) = true
    simp only [List.contains_toArray]
    rw [h92]; rfl
  show wpAny _ A.in1 (pure (!(mkS repl).cps.contains 92) >>= _) _ _ s
  rw [h92']
  refine wpAny_bind (wpAny_pure ?_)
  show wpAny _ A.in1 (pure (Value.str (mkS repl) u, (0 : Int)) >>= _) _ _ s
  refine wpAny_bind (wpAny_pure ?_)
  show wpAny _ A.in1 (Sem.bind _ _) _ _ s
  refine wpAny_bind (wpAny_holding (whole_ok hp ?_))
  show wpAny _ A.in1 (newList [] >>= _) _ _ s
  refine wpAny_bind (wpAny_newList ?_)
  refine wpAny_pure ⟨plainId_quiet plain_sub_loop _, ?_⟩
  have X : LoopAt (s.heap.push { cls := .type "list", data := .seq ([] : List Value).toArray }) p s.heap.objs.size code [] [] := by
    refine ⟨hp.keeps fun _ _ e => Heap.get?_push_of_some _ e, ?_, isList_new _ _, .nil⟩
    intro o fs c h1 h2 h3
    obtain ⟨o', fs', c', oc, its, n, g1, g2, g3, g4, g5, g6, g7, g8, _⟩ := hp
    have g1' := Heap.get?_push_of_some { cls := .type "list", data := .seq ([] : List Value).toArray } g1
    rw [g1'] at h1; cases h1
    rw [g4] at h2; cases h2
    rw [g5] at h3; cases h3
    exact Nat.ne_of_lt (Heap.lt_size g8)
  refine loop_ok hK hseek hx (x.length + 2) 0 0 { s with heap := s.heap.push { cls := .type "list", data := .seq ([] : List Value).toArray } } [] [] ps X hps (by simpa using hn) (by simpa using hsum) fun v s' hB hv => hR v s' ?_ (by simpa using hv)
  obtain ⟨h', tk, rfl, hk⟩ := hB
  exact ⟨h', tk, rfl, fun b o e => hk b (Nat.ne_of_lt (Heap.lt_size e)) o (Heap.get?_push_of_some _ e)⟩

end Mine
end PartFw15

/- part Fw16 -/
section PartFw16
open PySem PySem.W PyProof.Rows PySem.SeqAt PySem.Builtin PySem.Builtin.Re
namespace Mine

def subF (seek : List Nat → Nat → Option (Nat × Nat)) : List PV → Option PV
  | [.str repl, .str x] => (subText (seek x) x repl).map .str
  | _ => none
def getF : List PV → Option PV
  | [.int k, .str _] => (flagWords.lookup k).map .str
  | _ => none

section
variable {prog : Program} {w : World} {C : Cx} {n : Nat}

/-- a method of a global object -/
theorem EvX.global {T id : String} {name gname : Str} {e : Expr} {es : List Expr} {p1 apos pos : Pos} {fs : REnv → Option (List PV)} {F : List PV → Option PV}
    (pa : PlainAttrs T) (slot : Slot T name id) (hty : typeOf (.builtin id) = pure (.type "method_descriptor")) (P : Heap → Addr → Prop) (hk : ∀ h h' p, P h p → (∀ b o, h.get? b = some o → h'.get? b = some o) → P h' p)
    (hT : ∀ h, TP h → ∃ mg p, h.Ns mainGlobals mg ∧ mg gname = some (.ref p) ∧ P h p)
    (hP : ∀ (s : Shared) p, P s.heap p → s.TypeIs (.ref p) T ∧ ∃ ob, s.heap.get? p = some ob ∧ ob.dict = none)
    (hfn : ∀ (s : Shared) p vals args pv, P s.heap p → Paired (fun v p => VR s.heap v p) vals args → F args = some pv → Gives1 prog w n (PySem.call (.builtin id) (.ref p :: vals)) s pv)
    (hx : C.sc.names.lookup gname = some .globalImplicit) (hl : EvL prog w C n (e :: es) fs) (hd : (gname == ("__debug__" : Str)) = false := by decide)
    (hbase : ∀ env, attributeBase (.Name gname p1) name env (eval (.Name gname p1) env) = eval (.Name gname p1) env := by intro _; rfl)
    (hfew : ∀ env, ((backTo pos (starEach (e :: es) env)).all (fun x => !x.1) && (backToKw pos (keywordEach [] env)).all (fun x => x.1.isSome)
      && decide ((e :: es).length + ([] : List Keyword).length + (if ([] : List Keyword).isEmpty then 0 else 1) < 30)) = true := by intro _; rfl)
    (hline : (apos.endLine == pos.line) = true := by rfl)
    (hse : ∀ env, starEach (e :: es) env = (false, eval e env) :: starEach es env := by intro _; rfl) (hany : ∀ env, (backTo pos (starEach (e :: es) env)).any (·.1) = false := by intro _; rfl) :
    EvX prog w C n true (.Call (.Attribute (.Name gname p1) name apos) (e :: es) [] pos) (fun ρ => (fs ρ).bind F) := fun A E env b s0 s ρ pv Q he hA F' hf hQ => by
  obtain ⟨ps, hb, hf⟩ := Option.bind_eq_some_iff.mp hf
  obtain ⟨mg, p, hmg, hgp, hpp⟩ := hT _ F'.tp
  refine wpAny_Call_method (hbase env) (hfew env) hline pa slot hty (name_global he hx hmg hgp ?_ hd)
  obtain ⟨h1, ob, h2, h3⟩ := hP s p hpp
  refine ⟨h1, fun a e => by cases e; exact ⟨ob, h2, h3⟩, Calls.callWith_builtin (hany env) (evalArgs_es (hse env) (hl A E env b s0 s ρ ps pos _ he hA F' hb fun vs s₂ k₂ rs => ?_))⟩
  exact hfn s₂ p vs ps pv (hk _ _ _ hpp fun _ _ => Keeps.get k₂) rs hf A E Q hA fun v s₃ k₃ rv fr => hQ v s₃ (Keeps.trans k₂ k₃) rv fun _ a e => fresh_back k₂ (fr a e)

theorem EvX.sub {gname : Str} {code : Array Nat} {seek : List Nat → Nat → Option (Nat × Nat)} {e : Expr} {es : List Expr} {p1 apos pos : Pos} {fs : REnv → Option (List PV)}
    (hT : ∀ h, TP h → ∃ mg p, h.Ns mainGlobals mg ∧ mg gname = some (.ref p) ∧ PatAt h p code)
    (hseek : ∀ x : List Nat, x.length ≤ 1000 → ∃ K, K < 1000000000 ∧ ∀ s, Ends K (Sre.forSearch code (mkS x).cps 0 s (mkS x).cps.size false) (seek x s))
    (hx : C.sc.names.lookup gname = some .globalImplicit) (hl : EvL prog w C n (e :: es) fs) (hd : (gname == ("__debug__" : Str)) = false := by decide)
    (hbase : ∀ env, attributeBase (.Name gname p1) "sub" env (eval (.Name gname p1) env) = eval (.Name gname p1) env := by intro _; rfl)
    (hfew : ∀ env, ((backTo pos (starEach (e :: es) env)).all (fun x => !x.1) && (backToKw pos (keywordEach [] env)).all (fun x => x.1.isSome)
      && decide ((e :: es).length + ([] : List Keyword).length + (if ([] : List Keyword).isEmpty then 0 else 1) < 30)) = true := by intro _; rfl)
    (hline : (apos.endLine == pos.line) = true := by rfl)
    (hse : ∀ env, starEach (e :: es) env = (false, eval e env) :: starEach es env := by intro _; rfl) (hany : ∀ env, (backTo pos (starEach (e :: es) env)).any (·.1) = false := by intro _; rfl) :
    EvX prog w C n true (.Call (.Attribute (.Name gname p1) "sub" apos) (e :: es) [] pos) (fun ρ => (fs ρ).bind (subF seek)) :=
  EvX.global plainAttrs_pattern slot_sub type_sub (fun h p => PatAt h p code) (fun _ _ _ x k => x.keeps k) hT
    (fun s p ⟨o, fs, c, oc, its, n, h1, h2, h3, _⟩ => ⟨⟨o, h1, h2⟩, o, h1, h3⟩)
    (fun s p vals args pv hp hv hF A E Q hA hQ => by
      unfold subF at hF
      split at hF
      · rename_i repl x
        obtain ⟨out, ho, rfl⟩ := Option.map_eq_some_iff.mp hF
        cases hv with
        | cons h1 t =>
          cases t with
          | cons h2 t =>
            cases t
            obtain ⟨u, rfl⟩ := h1
            obtain ⟨t, rfl⟩ := h2
            have hlen : x.length ≤ 1000 := by
              obtain ⟨ps, hps, ho'⟩ := Option.bind_eq_some_iff.mp ho
              split at ho'
              · rename_i hc; exact hc.1
              · cases ho'
            obtain ⟨K, hK, hs⟩ := hseek x hlen
            refine call_meets slot_sub ?_ entry_sub (args_sub _ _ _) (sub_meets hK hs ho) ⟨hp, fun v s' k hv => ?_⟩
            · obtain ⟨o, fs, c, oc, its, n, h1, h2, _⟩ := hp; exact ⟨o, h1, h2⟩
            · obtain ⟨t', rfl⟩ := hv
              exact hQ _ _ k ⟨t', rfl⟩ no_ref_str
      · cases hF) hx hl hd hbase hfew hline hse hany

def seekA (x : List Nat) : Nat → Option (Nat × Nat) := seek1 (mkS x).cps
def seekB (x : List Nat) : Nat → Option (Nat × Nat) := seek2 (mkS x).cps
theorem top_re1 (h : Heap) (T : TP h) : ∃ mg p, h.Ns mainGlobals mg ∧ mg "_twin_re_1" = some (.ref p) ∧ PatAt h p code1 := by
  obtain ⟨mg, mb, h1, _, _, _, _, ⟨p, h6, h7⟩, _⟩ := T.ns; exact ⟨mg, p, h1, h6, h7⟩
theorem top_re2 (h : Heap) (T : TP h) : ∃ mg p, h.Ns mainGlobals mg ∧ mg "_twin_re_2" = some (.ref p) ∧ PatAt h p code2 := by
  obtain ⟨mg, mb, h1, _, _, _, _, _, ⟨p, h6, h7⟩, _⟩ := T.ns; exact ⟨mg, p, h1, h6, h7⟩
theorem top_flags (h : Heap) (T : TP h) : ∃ mg p, h.Ns mainGlobals mg ∧ mg "COMPILER_FLAG_NAMES" = some (.ref p) ∧ FlagsAt h p := by
  obtain ⟨mg, mb, h1, _, _, _, _, _, _, ⟨p, h6, h7⟩⟩ := T.ns; exact ⟨mg, p, h1, h6, h7⟩
theorem seekA_ok (x : List Nat) (hx : x.length ≤ 1000) : ∃ K, K < 1000000000 ∧ ∀ s, Ends K (Sre.forSearch code1 (mkS x).cps 0 s (mkS x).cps.size false) (seekA x s) :=
  ⟨4 * (mkS x).cps.size + 8, by have : (mkS x).cps.size = x.length := by simp [mkS]
                                omega, fun s => search1 _ s⟩
theorem seekB_ok (x : List Nat) (_ : x.length ≤ 1000) : ∃ K, K < 1000000000 ∧ ∀ s, Ends K (Sre.forSearch code2 (mkS x).cps 0 s (mkS x).cps.size false) (seekB x s) :=
  ⟨17, by decide, fun s => search2 _ s⟩

theorem EvX.flags {e : Expr} {es : List Expr} {p1 apos pos : Pos} {fs : REnv → Option (List PV)}
    (hx : C.sc.names.lookup ("COMPILER_FLAG_NAMES" : Str) = some .globalImplicit) (hl : EvL prog w C n (e :: es) fs)
    (hbase : ∀ env, attributeBase (.Name "COMPILER_FLAG_NAMES" p1) "get" env (eval (.Name "COMPILER_FLAG_NAMES" p1) env) = eval (.Name "COMPILER_FLAG_NAMES" p1) env := by intro _; rfl)
    (hfew : ∀ env, ((backTo pos (starEach (e :: es) env)).all (fun x => !x.1) && (backToKw pos (keywordEach [] env)).all (fun x => x.1.isSome)
      && decide ((e :: es).length + ([] : List Keyword).length + (if ([] : List Keyword).isEmpty then 0 else 1) < 30)) = true := by intro _; rfl)
    (hline : (apos.endLine == pos.line) = true := by rfl)
    (hse : ∀ env, starEach (e :: es) env = (false, eval e env) :: starEach es env := by intro _; rfl) (hany : ∀ env, (backTo pos (starEach (e :: es) env)).any (·.1) = false := by intro _; rfl) :
    EvX prog w C n true (.Call (.Attribute (.Name "COMPILER_FLAG_NAMES" p1) "get" apos) (e :: es) [] pos) (fun ρ => (fs ρ).bind getF) :=
  EvX.global PySem.F.plainAttrs_dict PySem.F.slot_dict_get PySem.F.type_dict_get FlagsAt (fun _ _ _ x k => x.keeps k) top_flags
    (fun s p ⟨_, f, hm, _⟩ => by
      obtain ⟨o, es, ep, ho, hc, _⟩ := hm prog w
      exact ⟨⟨o, ho, hc.1⟩, o, ho, hc.2.1⟩)
    (fun s p vals args pv hp hv hF A E Q hA hQ => by
      unfold getF at hF
      split at hF
      · rename_i k x
        obtain ⟨out, ho, rfl⟩ := Option.map_eq_some_iff.mp hF
        cases hv with
        | cons h1 t =>
          cases t with
          | cons h2 t =>
            cases t
            obtain ⟨u, rfl⟩ := h1
            obtain ⟨t, rfl⟩ := h2
            obtain ⟨hs, f, hm, hw⟩ := hp
            have hmem : (k, out) ∈ flagWords := by
              revert ho
              generalize flagWords = l
              induction l with
              | nil => intro h; cases h
              | cons p r ih =>
                intro h
                rw [List.lookup_cons] at h
                cases hb : k == p.1 with
                | true => rw [hb] at h; cases h; rw [show k = p.1 from beq_iff_eq.mp hb]; exact List.mem_cons_self
                | false => rw [hb] at h; exact List.mem_cons_of_mem _ (ih h)
            obtain ⟨t', ht⟩ := hw _ hmem
            have hty : s.TypeIs (.ref p) "dict" := by obtain ⟨o, es, ep, ho, hc, _⟩ := hm prog w; exact ⟨o, ho, hc.1⟩
            refine call_meetsIn PySem.F.slot_dict_get hty PySem.F.entry_dict_get (PySem.F.args_dict_get_3 _ _ _) (meets_dict_get_default (intKind prog w) p (intKind_is prog w k u) hs _) ⟨f, hm prog w, ?_⟩
            show Q ((f k).getD _) _
            rw [show f k = _ from ht]
            exact hQ _ _ (keeps_tok s _) ⟨t', rfl⟩ no_ref_str
      · cases hF) hx hl (by decide) hbase hfew hline hse hany
end
end Mine
end PartFw16

/- part Fw17 -/
section PartFw17
open PySem PySem.W PyProof.Rows PySem.SeqAt
namespace Mine

abbrev XF := REnv → Option PV
abbrev TF := REnv → Option Bool
abbrev LF := REnv → Option (List PV)
abbrev SF := REnv → Option (PFlow × REnv)
def xInt (i : Int) : XF := fun _ => some (.int i)
def xStr (l : List Nat) : XF := fun _ => some (.str l)
def xBool (b : Bool) : XF := fun _ => some (.bool b)
def xNone : XF := fun _ => some .none
def xVar (i : Nat) : XF := fun ρ => ρ[i]?.join
def xBin (op : Operator) (f g : XF) : XF := fun ρ => (f ρ).bind fun a => (g ρ).bind fun c => pyBin op a c
def xCmp (op : CmpOp) (f g : XF) : XF := fun ρ => (f ρ).bind fun a => (g ρ).bind fun c => (pyCmp op a c).map .bool
def tCmp (op : CmpOp) (f g : XF) : TF := fun ρ => (f ρ).bind fun a => (g ρ).bind fun c => pyCmp op a c
def tPlain (f : XF) : TF := fun ρ => (f ρ).bind pyTruth
def tNot (f : TF) : TF := fun ρ => (f ρ).map (!·)
def tAnd (f g : TF) : TF := fun ρ => (f ρ).bind fun k => if k then g ρ else some false
def tOr (f g : TF) : TF := fun ρ => (f ρ).bind fun k => if k then some true else g ρ
def xIte (t : TF) (f g : XF) : XF := fun ρ => (t ρ).bind fun k => if k then f ρ else g ρ
def xIdx (f g : XF) : XF := fun ρ => (f ρ).bind fun a => (g ρ).bind fun c => pyIdx a c
def pNo : REnv → Option (Option Int) := fun _ => some none
def pOf (f : XF) : REnv → Option (Option Int) := fun ρ => ((f ρ).bind asInt).map Option.some
def xSlice (f : XF) (l u : REnv → Option (Option Int)) : XF := fun ρ => (f ρ).bind fun a => (l ρ).bind fun l => (u ρ).bind fun u => pySlice l u a
def lNil : LF := fun _ => some []
def lCons (f : XF) (g : LF) : LF := fun ρ => (f ρ).bind fun a => (g ρ).map (a :: ·)
def xListI (g : LF) : XF := fun ρ => ((g ρ).bind asInts).bind fun xs => if xs.length ≤ cap then some (.li xs) else none
def xListS (g : LF) : XF := fun ρ => ((g ρ).bind asStrs).bind fun xs => if xs.length ≤ cap then some (.ls xs) else none
def xCall (F : List PV → Option PV) (g : LF) : XF := fun ρ => (g ρ).bind F
def xCallOwn (F : List PV → Option PV) (f : XF) (j : Nat) : XF := fun ρ => (f ρ).bind fun a => (ρ[j]?.join).bind fun c => F [a, c]
def xMeth (F : PV → List PV → Option PV) (f : XF) (g : LF) : XF := fun ρ => (f ρ).bind fun a => (g ρ).bind fun l => F a l
def iList (f : XF) : LF := fun ρ => (f ρ).bind pyItems
def iRange (f : XF) : LF := fun ρ => (f ρ).bind rangeItems
def xComp (frees : List Nat) (sh : List PV → Option PV) (it : LF) (t : TF) (e : XF) : XF := fun ρ => (it ρ).bind fun items => (pComp t e (mkIn ρ frees) items).bind sh
def tYes : TF := fun _ => some true
def pBrk : SF := fun ρ => some (.brk, ρ)

theorem shelves_li : Shelves liOf := fun hl hp e => liOf_ok hl hp e
theorem shelves_ls : Shelves lsOf := fun hl hp e => lsOf_ok hl hp e

theorem AOk.mono {A : Around} {n n' : Nat} (h : AOk A n') (hn : n ≤ n') : AOk A n := ⟨h.1, by have := h.2.1; omega, by have := h.2.2; omega⟩
theorem FnOk.mono {prog : Program} {w : World} {n n' i : Nat} {F : List PV → Option PV} (h : FnOk prog w n i F) (hn : n ≤ n') : FnOk prog w n' i F :=
  fun A s vals args pv R f o nm a bd d r tp sc ts bi ps pm code doc hb hA => h A s vals args pv R f o nm a bd d r tp sc ts bi ps pm code doc hb (hA.mono hn)

theorem FnB.flat {prog : Program} {w : World} {n i : Nat} {own : List Nat} {F : List PV → Option PV} (h : FnB prog w n i own F) (hf : ∀ args pv, F args = some pv → ∀ (j : Nat) p, j ∈ own → args[j]? = some p → p.flat = true) : FnOk prog w n i F := fun A s vals args pv R f o nm a bd d r tp sc ts bi ps pm code doc hb hA hT ho hd hcd hv hF hR =>
  h A s (fun a => s.heap.get? a) vals args pv R f o nm a bd d r tp sc ts bi ps pm code doc hb hA ⟨s.heap, hT, fun _ _ e => e⟩ (fun _ _ e => e) ho hd hcd hv
    (fun j v hj => ⟨fun hm a e => by
      subst e
      obtain ⟨p, hp1, hp⟩ := Mine.Paired.get' hv hj
      exact (hp.flat_ref (hf args pv hF j p hm hp1)).elim, fun _ a e => by
      subst e
      obtain ⟨p, _, hp⟩ := Mine.Paired.get' hv hj
      obtain ⟨items, o, ho, _⟩ := hp.ref
      exact ⟨o, ho⟩⟩)
    (fun j k a hm _ hj _ => by
      obtain ⟨p, hp1, hp⟩ := Mine.Paired.get' hv hj
      exact (hp.flat_ref (hf args pv hF j p hm hp1)).elim) hF fun v s' h1 h2 h3 h4 h5 h6 => hR v s' ⟨s'.heap, s'.toks, by cases s; cases s'; simp only at h1 h2 h3; subst h1 h2 h3; rfl, h4⟩ h5 h6

def compCheck (C : Cx) (scope : Scope) (x : Str) (frees own : List Nat) (vars : List Str) : Bool :=
  (scope.names.all fun y => y.2 != .cell) && (scope.kind == .function) && (scope.names.all fun y => y.2 != .local || scope.names.lookup y.1 == some .local) && (scope.names.lookup x == some .local) &&
  (scope.names.all fun y => y.2 != .free || (C.sc.names.lookup y.1 == some .cell && C.vars.contains y.1)) && (vars == x :: frees.filterMap fun j => C.vars[j]?) && (vars.length == frees.length + 1) &&
  ((List.range frees.length).all fun k => match frees[k]? with
    | some j => (match C.vars[j]? with
      | some y => vars[k + 1]? == some y && scope.names.contains (y, NameKind.free) && (compSc scope C.sc).names.lookup y == some .cell
      | none => false) && (own.contains (k + 1) == C.own.contains j)
    | none => true) && decide vars.Nodup && decide frees.Nodup && !own.contains 0

theorem compOk_of {C : Cx} {scope : Scope} {x : Str} {frees : List Nat} (vars : List Str) (own : List Nat) (h : compCheck C scope x frees own vars = true) : CompOk C ⟨compSc scope C.sc, vars, own, []⟩ scope x frees := by
  unfold compCheck at h
  simp only [Bool.and_eq_true, List.all_eq_true, bne_iff_ne, beq_iff_eq, Bool.or_eq_true, decide_eq_true_eq, Bool.not_eq_true'] at h
  obtain ⟨⟨⟨⟨⟨⟨⟨⟨⟨⟨h1, h2⟩, h3⟩, h4⟩, h5⟩, h6⟩, h7⟩, h8⟩, h9⟩, h10⟩, h11⟩ := h
  have h8' : ∀ (k : Nat) j, frees[k]? = some j → ∃ y, C.vars[j]? = some y ∧ vars[k + 1]? = some y ∧ (y, NameKind.free) ∈ scope.names ∧ (compSc scope C.sc).names.lookup y = some .cell ∧ (own.contains (k + 1) = C.own.contains j) := fun k j hk => by
    have := h8 k (List.mem_range.mpr (List.getElem?_eq_some_iff.mp hk).1)
    rw [hk] at this
    dsimp only at this
    obtain ⟨a, b⟩ := Bool.and_eq_true_iff.mp this
    rw [beq_iff_eq] at b
    cases hy : C.vars[j]? with
    | none => rw [hy] at a; cases a
    | some y =>
      rw [hy] at a
      simp only [Bool.and_eq_true, beq_iff_eq, List.contains_iff_mem] at a
      exact ⟨y, rfl, a.1.1, a.1.2, a.2, b⟩
  refine ⟨rfl, h1, h2, fun y hy hl => (h3 y hy).resolve_left fun q => q hl, h4, fun y hy hl => ((h5 y hy).resolve_left fun q => q hl).1, fun y hy hl => ?_, h6, fun k j hk => ?_, h7, h9, h10, by simpa using h11, fun k j hk => ?_, rfl⟩
  · have := ((h5 y hy).resolve_left fun q => q hl).2
    obtain ⟨i, hi⟩ := List.getElem?_of_mem (List.contains_iff_mem.mp this)
    exact ⟨i, hi⟩
  · obtain ⟨y, a, b, c, d, _⟩ := h8' k j hk
    exact ⟨y, a, b, c, d⟩
  · obtain ⟨y, _, _, _, _, e⟩ := h8' k j hk
    rw [← List.contains_iff_mem, ← List.contains_iff_mem]
    exact e ▸ Iff.rfl
end Mine
end PartFw17

/- part Fw18 -/
section PartFw18
open PySem PySem.W PyProof.Rows PySem.SeqAt
namespace Mine
section
variable {prog : Program} {w : World} {C : Cx} {n : Nat}

/-- a call that may turn its first argument, which is new -/
theorem EvX.callOwn {i : Nat} {x : Str} {a : Arguments} {bd : List Stmt} {d : List Expr} {r : Option Expr} {tp : List TypeParam} {sc : Scope} {ts : Option Scope} {bi : Str} {ps : Pos} {e : Expr} {y : Str} {py : Pos} {own : List Nat} {f1 : XF} {F : List PV → Option PV} {p q : Pos}
    (hfn : FnB prog w n i own F) (ho0 : 0 ∈ own) (ho1 : 1 ∉ own) (hb : pw.main.body[i]? = some (.FunctionDef x a bd d r tp sc ts bi ps)) (hx : C.sc.names.lookup x = some .globalImplicit)
    (h1 : EvX prog w C n true e f1) (j : Nat) (hy : C.vars[j]? = some y)
    (hse : ∀ env, starEach [e, .Name y py] env = [(false, eval e env), (false, eval (.Name y py) env)] := by intro _; rfl) (hany : ∀ env, (backTo q (starEach [e, .Name y py] env)).any (·.1) = false := by intro _; rfl)
    (hse2 : ∀ env, starEach [.Name y py] env = (false, eval (.Name y py) env) :: starEach [] env := by intro _; rfl)
    (hd : (x == ("__debug__" : Str)) = false := by decide) (hdy : (y == ("__debug__" : Str)) = false := by decide) :
    EvX prog w C n true (.Call (.Name x p) [e, .Name y py] [] q) (fun ρ => (f1 ρ).bind fun a => (ρ[j]?.join).bind fun c => F [a, c]) := fun A E env b s0 s ρ pv Q he hA F' hf hQ => by
  obtain ⟨pa, ha, hf⟩ := Option.bind_eq_some_iff.mp hf
  obtain ⟨pc, hc, hf⟩ := Option.bind_eq_some_iff.mp hf
  obtain ⟨mg, mb, g1, g2, g3, _⟩ := F'.tp.ns
  obtain ⟨f, o, pm, code, doc, hmg, ho, hdat, hcd⟩ := g3 i _ _ _ _ _ _ _ _ _ _ hb
  have hρ : ρ[j]? = some (some pc) := Option.join_eq_some_iff.mp hc
  obtain ⟨v2, H2, R2, o2⟩ := F'.vals j y pc hy hρ
  refine wpAny_Call_NameR (name_global he hx g1 hmg ?_ hd)
  refine Calls.callWith_function (o := o) (fd := Calls.docDef x a bd sc pm code doc) (evalArgs_es (by rw [hse, hse2]; rfl) ?_)
  refine spliced_more (h1 A E env b s0 s ρ pa _ he hA F' ha fun v1 s₁ k₁ R1 fr1 => ?_) (by rw [hse, hse2]; rfl)
  refine spliced_more (wpAny_Name (load_holds he (H2.keeps fun _ _ => Keeps.get k₁) ?_) hdy) (hse2 env)
  refine spliced_none ⟨⟨Keeps.get k₁ ho, hdat⟩, wpAny_call ?_⟩
  refine hfn A s₁ (fun c => s.heap.get? c) [v1, v2] [pa, pc] pv _ f o x a bd d r tp sc ts bi ps pm code doc hb hA ⟨s.heap, F'.tp, fun _ _ e => e⟩ (fun _ _ => Keeps.get k₁) (Keeps.get k₁ ho) hdat (hcd.keeps fun _ _ => Keeps.get k₁)
    (.cons R1 (.cons (R2.keepsK k₁) .nil)) (fun k v hk => ?_) (fun k l c hk hl h1 h2 => ?_) hf fun v s₂ e1 e2 e3 hkeep rv fr => ?_
  · match k, hk with
    | 0, hk =>
      cases hk
      exact ⟨fun _ c e => fr1 rfl c e, fun hn => absurd ho0 hn⟩
    | 1, hk =>
      cases hk
      refine ⟨fun h => absurd h ho1, fun _ c e => ?_⟩
      subst e
      obtain ⟨its, o, ho, _⟩ := R2.ref
      exact ⟨o, ho⟩
  · have : ∀ k, k ∈ own → ([v1, v2] : List Value)[k]? = some (.ref c) → k = 0 := fun k hk h => by
      match k, hk, h with
      | 0, _, _ => rfl
      | 1, hk, _ => exact absurd hk ho1
      | k + 2, _, h => simp at h
    rw [this k hk h1, this l hl h2]
  · refine hQ v s₂ ⟨s₂.heap, s₂.toks, ?_, hkeep⟩ rv fun _ c e => fr c e
    obtain ⟨h', tk, rfl, _⟩ := k₁
    cases s₂
    simp only at e1 e2 e3
    subst e1 e2 e3
    rfl
end
end Mine
end PartFw18

/- part Wk1 -/
section PartWk1
open PySem PySem.W PyProof.Rows PySem.SeqAt
set_option maxRecDepth 100000
set_option maxHeartbeats 4000000
namespace Mine

def g_strcoll  : SF :=
  (pRet (xBin .Sub (xCmp .Gt (xVar 0) (xVar 1)) (xCmp .Lt (xVar 0) (xVar 1))))
theorem walk_strcoll {prog : Program} {w : World}   {F : List PV → Option PV}
    (hF : ∀ args pv, F args = some pv → args.length = 2 ∧ ∃ ρ', g_strcoll  (args.map some ++ List.replicate 0 none) = some (.ret pv, ρ')) : FnB prog w 1 12 [] F := by
  refine FnB.of_body (n := 0) (params := ["a", "b"]) (rest := []) (own := []) (g := g_strcoll ) (hb := rfl) (bodyOk_of (by decide +kernel)) (fun _ _ _ vals h => by match vals, h with | [_, _], _ => rfl) ?_ hF
  exact (EvSs.one (EvS.ret (EvX.bin (EvX.cmp (EvX.var 0 rfl) (EvX.var 1 rfl)) (EvX.cmp (EvX.var 0 rfl) (EvX.var 1 rfl)))))


def g_quotedata  : SF :=
  (pRet (xCall (subF seekA) (lCons (xStr [46, 46]) (lCons (xCall (subF seekB) (lCons (xStr [13, 10]) (lCons (xVar 0) lNil))) lNil))))
theorem walk_quotedata {prog : Program} {w : World}   {F : List PV → Option PV}
    (hF : ∀ args pv, F args = some pv → args.length = 1 ∧ ∃ ρ', g_quotedata  (args.map some ++ List.replicate 0 none) = some (.ret pv, ρ')) : FnB prog w 1 5 [] F := by
  refine FnB.of_body (n := 0) (params := ["data"]) (rest := []) (own := []) (g := g_quotedata ) (hb := rfl) (bodyOk_of (by decide +kernel)) (fun _ _ _ vals h => by match vals, h with | [_], _ => rfl) ?_ hF
  exact (EvSs.one (EvS.ret (EvX.sub top_re1 seekA_ok rfl (EvL.cons (EvX.cstr [46, 46] (by decide +kernel)) (EvL.cons (EvX.sub top_re2 seekB_ok rfl (EvL.cons (EvX.crlf rfl) (EvL.cons (EvX.var 0 rfl) EvL.nil))) EvL.nil)))))


def g_fix_eols  : SF :=
  (pRet (xCall (subF seekB) (lCons (xStr [13, 10]) (lCons (xVar 0) lNil))))
theorem walk_fix_eols {prog : Program} {w : World}   {F : List PV → Option PV}
    (hF : ∀ args pv, F args = some pv → args.length = 1 ∧ ∃ ρ', g_fix_eols  (args.map some ++ List.replicate 0 none) = some (.ret pv, ρ')) : FnB prog w 1 6 [] F := by
  refine FnB.of_body (n := 0) (params := ["data"]) (rest := []) (own := []) (g := g_fix_eols ) (hb := rfl) (bodyOk_of (by decide +kernel)) (fun _ _ _ vals h => by match vals, h with | [_], _ => rfl) ?_ hF
  exact (EvSs.one (EvS.ret (EvX.sub top_re2 seekB_ok rfl (EvL.cons (EvX.crlf rfl) (EvL.cons (EvX.var 0 rfl) EvL.nil)))))


def g_law_is_there (F_strcoll : List PV → Option PV) : SF :=
  (pSeq (pForElse (iList (xVar 0)) 2
    (pIf (tCmp .Eq (xCall F_strcoll (lCons (xVar 2) (lCons (xVar 1) lNil))) (xInt 0)) (pRet (xBool true)) pSkip) pSkip)
  (pRet (xBool false)))
theorem walk_law_is_there {prog : Program} {w : World} (F_strcoll : List PV → Option PV) (h_strcoll : FnOk prog w 1 12 F_strcoll) {F : List PV → Option PV}
    (hF : ∀ args pv, F args = some pv → args.length = 2 ∧ ∃ ρ', g_law_is_there F_strcoll (args.map some ++ List.replicate 1 none) = some (.ret pv, ρ')) : FnB prog w 2 19 [2] F := by
  refine FnB.of_body (n := 1) (params := ["book", "mail"]) (rest := ["one"]) (own := [2]) (g := g_law_is_there F_strcoll) (hb := rfl) (bodyOk_of (by decide +kernel)) (fun _ _ _ vals h => by match vals, h with | [_, _], _ => rfl) ?_ hF
  exact (EvSs.cons (EvS.loop 2 rfl (by decide) (EvIt.var 0 rfl (by decide))
    (EvSs.one (EvS.ite (EvT.cmp (EvX.call h_strcoll rfl rfl (EvL.cons (EvX.var 2 rfl) (EvL.cons (EvX.var 1 rfl) EvL.nil))) EvX.cint) (EvSs.one (EvS.ret EvX.cbool)) EvSs.nil)) EvSs.nil)
  (EvSs.one (EvS.ret EvX.cbool)))

end Mine
end PartWk1

/- part Wk2 -/
section PartWk2
open PySem PySem.W PyProof.Rows PySem.SeqAt
set_option maxRecDepth 100000
set_option maxHeartbeats 4000000
namespace Mine

def g_pretty_flags  : SF :=
  (pSeq (pAssign 1 (xListS lNil))
  (pSeq (pForElse (iRange (xInt 32)) 2
    (pSeq (pAssign 3 (xBin .LShift (xInt 1) (xVar 2)))
    (pIf (tPlain (xBin .BitAnd (xVar 0) (xVar 3))) (pSeq (pTurn 1 addPV (xCall getF (lCons (xVar 3) (lCons (xCall hexF (lCons (xVar 3) lNil)) lNil))))
      (pSeq (pAug 0 .BitXor (xVar 3))
      (pIf (tNot (tPlain (xVar 0))) pBrk pSkip))) pSkip)) (pTurn 1 addPV (xCall hexF (lCons (xVar 0) lNil))))
  (pRet (xMeth joinF (xStr [44, 32]) (lCons (xVar 1) lNil)))))
theorem walk_pretty_flags {prog : Program} {w : World}   {F : List PV → Option PV}
    (hF : ∀ args pv, F args = some pv → args.length = 1 ∧ ∃ ρ', g_pretty_flags  (args.map some ++ List.replicate 3 none) = some (.ret pv, ρ')) : FnB prog w 1 9 [0, 1, 2, 3] F := by
  refine FnB.of_body (n := 0) (params := ["flags"]) (rest := ["names", "i", "flag"]) (own := [0, 1, 2, 3]) (g := g_pretty_flags ) (hb := rfl) (bodyOk_of (by decide +kernel)) (fun _ _ _ vals h => by match vals, h with | [_], _ => rfl) ?_ hF
  exact (EvSs.cons (EvS.assign 1 rfl (by decide) (EvX.listS EvL.nil))
  (EvSs.cons (EvS.loop 2 rfl (by decide) (EvIt.range EvX.cint rfl)
    (EvSs.cons (EvS.assign 3 rfl (by decide) (EvX.bin EvX.cint (EvX.var 2 rfl)))
    (EvSs.one (EvS.ite (EvT.plain (EvX.bin (EvX.var 0 rfl) (EvX.var 3 rfl))) (EvSs.cons (EvS.append 1 rfl (by decide) (EvX.flags rfl (EvL.cons (EvX.var 3 rfl) (EvL.cons (EvX.builtin hex_ok (by decide +kernel) rfl (EvL.cons (EvX.var 3 rfl) EvL.nil)) EvL.nil))))
      (EvSs.cons (EvS.aug 0 rfl (by decide) (EvX.var 3 rfl))
      (EvSs.one (EvS.ite (EvT.not (EvT.plain (EvX.var 0 rfl))) (EvSs.one EvS.brk) EvSs.nil)))) EvSs.nil))) (EvSs.one (EvS.append 1 rfl (by decide) (EvX.builtin hex_ok (by decide +kernel) rfl (EvL.cons (EvX.var 0 rfl) EvL.nil)))))
  (EvSs.one (EvS.ret (EvX.method PySem.F.plainAttrs_str PySem.F.slot_str_join PySem.F.type_str_join join_ok (isStr_of joinF_str) (EvX.cstr [44, 32] (by decide +kernel)) (EvL.cons (EvX.var 1 rfl) EvL.nil))))))


def g_law_cells  : SF :=
  (pSeq (pAssign 1 (xListI (lCons (xInt 3) (lCons (xInt 45) (lCons (xInt 95) (lCons (xInt 22) (lCons (xInt 40) (lCons (xInt 81) (lCons (xInt 57) lNil)))))))))
  (pSeq (pForElse (iRange (xCall minF (lCons (xInt 63) (lCons (xCall len1 (lCons (xVar 0) lNil)) lNil)))) 2
    (pAugPut 1 .Add (xBin .Mod (xVar 2) (xInt 7)) (xBin .Mod (xIdx (xVar 0) (xVar 2)) (xBin .Pow (xInt 10) (xInt 6)))) pSkip)
  (pRet (xVar 1))))
theorem walk_law_cells {prog : Program} {w : World}   {F : List PV → Option PV}
    (hF : ∀ args pv, F args = some pv → args.length = 1 ∧ ∃ ρ', g_law_cells  (args.map some ++ List.replicate 2 none) = some (.ret pv, ρ')) : FnB prog w 1 14 [1, 2] F := by
  refine FnB.of_body (n := 0) (params := ["script"]) (rest := ["cells", "k"]) (own := [1, 2]) (g := g_law_cells ) (hb := rfl) (bodyOk_of (by decide +kernel)) (fun _ _ _ vals h => by match vals, h with | [_], _ => rfl) ?_ hF
  exact (EvSs.cons (EvS.assign 1 rfl (by decide) (EvX.listI (EvL.cons EvX.cint (EvL.cons EvX.cint (EvL.cons EvX.cint (EvL.cons EvX.cint (EvL.cons EvX.cint (EvL.cons EvX.cint (EvL.cons EvX.cint EvL.nil)))))))))
  (EvSs.cons (EvS.loop 2 rfl (by decide) (EvIt.range (EvX.builtin min_ok (by decide +kernel) rfl (EvL.cons EvX.cint (EvL.cons (EvX.builtin len_ok (by decide +kernel) rfl (EvL.cons (EvX.var 0 rfl) EvL.nil)) EvL.nil))) rfl)
    (EvSs.one (EvS.augPut 1 rfl (by decide) (EvX.bin (EvX.var 2 rfl) EvX.cint) (EvX.bin (EvX.idx (EvX.var 0 rfl) (EvX.var 2 rfl)) (EvX.bin EvX.cint EvX.cint)))) EvSs.nil)
  (EvSs.one (EvS.retVar 1 rfl (by decide)))))


def g_law_tape  : SF :=
  (pSeq (pAssign 1 (xListI lNil))
  (pSeq (pForElse (iList (xVar 0)) 2
    (pSeq (pAssign 3 (xListI (lCons (xBin .Add (xBin .Mod (xVar 2) (xInt 64)) (xBin .Mult (xBin .Mod (xVar 2) (xInt 2)) (xInt 128))) lNil)))
    (pSeq (pWhile (tCmp .Gt (xVar 2) (xInt 63))
      (pSeq (pAug 2 .FloorDiv (xInt 64))
      (pAssign 3 (xBin .Add (xListI (lCons (xBin .Add (xBin .Add (xInt 64) (xBin .Mod (xVar 2) (xInt 64))) (xBin .Mult (xBin .Mod (xVar 2) (xInt 2)) (xInt 128))) lNil)) (xVar 3)))) 40)
    (pTurn 1 extPV (xVar 3)))) pSkip)
  (pRet (xVar 1))))
theorem walk_law_tape {prog : Program} {w : World}   {F : List PV → Option PV}
    (hF : ∀ args pv, F args = some pv → args.length = 1 ∧ ∃ ρ', g_law_tape  (args.map some ++ List.replicate 3 none) = some (.ret pv, ρ')) : FnB prog w 1 15 [1, 2, 3] F := by
  refine FnB.of_body (n := 0) (params := ["cells"]) (rest := ["octets", "cell", "figures"]) (own := [1, 2, 3]) (g := g_law_tape ) (hb := rfl) (bodyOk_of (by decide +kernel)) (fun _ _ _ vals h => by match vals, h with | [_], _ => rfl) ?_ hF
  exact (EvSs.cons (EvS.assign 1 rfl (by decide) (EvX.listI EvL.nil))
  (EvSs.cons (EvS.loop 2 rfl (by decide) (EvIt.var 0 rfl (by decide))
    (EvSs.cons (EvS.assign 3 rfl (by decide) (EvX.listI (EvL.cons (EvX.bin (EvX.bin (EvX.var 2 rfl) EvX.cint) (EvX.bin (EvX.bin (EvX.var 2 rfl) EvX.cint) EvX.cint)) EvL.nil)))
    (EvSs.cons (EvS.while_ 40 (EvT.cmp (EvX.var 2 rfl) EvX.cint)
      (EvSs.cons (EvS.aug 2 rfl (by decide) EvX.cint)
      (EvSs.one (EvS.assign 3 rfl (by decide) (EvX.bin (EvX.listI (EvL.cons (EvX.bin (EvX.bin EvX.cint (EvX.bin (EvX.var 2 rfl) EvX.cint)) (EvX.bin (EvX.bin (EvX.var 2 rfl) EvX.cint) EvX.cint)) EvL.nil)) (EvX.var 3 rfl))))))
    (EvSs.one (EvS.extend 1 rfl (by decide) (EvX.var 3 rfl))))) EvSs.nil)
  (EvSs.one (EvS.retVar 1 rfl (by decide)))))


def g_law_order  : SF :=
  (pSeq (pAssign 1 (xListI (lCons (xInt 0) (lCons (xInt 1) (lCons (xInt 2) (lCons (xInt 3) (lCons (xInt 4) lNil)))))))
  (pSeq (pAssign 2 (xListI lNil))
  (pSeq (pWhile (tCmp .NotEq (xVar 1) (xListI lNil))
    (pSeq (pAssign 3 (xBin .Mod (xVar 0) (xCall len1 (lCons (xVar 1) lNil))))
    (pSeq (pAug 0 .FloorDiv (xCall len1 (lCons (xVar 1) lNil)))
    (pSeq (pTurn 2 addPV (xIdx (xVar 1) (xVar 3)))
    (pAssign 1 (xBin .Add (xSlice (xVar 1) pNo (pOf (xVar 3))) (xSlice (xVar 1) (pOf (xBin .Add (xVar 3) (xInt 1))) pNo)))))) 6)
  (pRet (xVar 2)))))
theorem walk_law_order {prog : Program} {w : World}   {F : List PV → Option PV}
    (hF : ∀ args pv, F args = some pv → args.length = 1 ∧ ∃ ρ', g_law_order  (args.map some ++ List.replicate 3 none) = some (.ret pv, ρ')) : FnB prog w 1 17 [0, 1, 2, 3] F := by
  refine FnB.of_body (n := 0) (params := ["number"]) (rest := ["left", "order", "k"]) (own := [0, 1, 2, 3]) (g := g_law_order ) (hb := rfl) (bodyOk_of (by decide +kernel)) (fun _ _ _ vals h => by match vals, h with | [_], _ => rfl) ?_ hF
  exact (EvSs.cons (EvS.assign 1 rfl (by decide) (EvX.listI (EvL.cons EvX.cint (EvL.cons EvX.cint (EvL.cons EvX.cint (EvL.cons EvX.cint (EvL.cons EvX.cint EvL.nil)))))))
  (EvSs.cons (EvS.assign 2 rfl (by decide) (EvX.listI EvL.nil))
  (EvSs.cons (EvS.while_ 6 (EvT.cmp (EvX.var 1 rfl) (EvX.listI EvL.nil))
    (EvSs.cons (EvS.assign 3 rfl (by decide) (EvX.bin (EvX.var 0 rfl) (EvX.builtin len_ok (by decide +kernel) rfl (EvL.cons (EvX.var 1 rfl) EvL.nil))))
    (EvSs.cons (EvS.aug 0 rfl (by decide) (EvX.builtin len_ok (by decide +kernel) rfl (EvL.cons (EvX.var 1 rfl) EvL.nil)))
    (EvSs.cons (EvS.append 2 rfl (by decide) (EvX.idx (EvX.var 1 rfl) (EvX.var 3 rfl)))
    (EvSs.one (EvS.assign 1 rfl (by decide) (EvX.bin (EvX.slice (EvX.var 1 rfl) EvPart.no (EvPart.of (EvX.var 3 rfl))) (EvX.slice (EvX.var 1 rfl) (EvPart.of (EvX.bin (EvX.var 3 rfl) EvX.cint)) EvPart.no))))))))
  (EvSs.one (EvS.retVar 2 rfl (by decide))))))


def g_law_mail  : SF :=
  (pSeq (pAssign 2 (xListS (lCons (xStr [10]) (lCons (xStr [13]) (lCons (xStr [13, 10]) lNil)))))
  (pRet (xMeth joinF (xStr []) (lCons (xComp [2, 1, 0] lsOf (iRange (xInt 5)) tYes (xBin .Add (xBin .Add (xBin .Mult (xStr [46]) (xBin .Mod (xBin .FloorDiv (xVar 3) (xBin .Pow (xInt 2) (xVar 0))) (xInt 2))) (xIdx (xStr [97, 98, 99, 100, 101]) (xVar 0))) (xIdx (xVar 1) (xBin .Mod (xBin .Add (xVar 2) (xVar 0)) (xInt 3))))) lNil))))
theorem walk_law_mail {prog : Program} {w : World}   {F : List PV → Option PV}
    (hF : ∀ args pv, F args = some pv → args.length = 2 ∧ ∃ ρ', g_law_mail  (args.map some ++ List.replicate 1 none) = some (.ret pv, ρ')) : FnB prog w 1 18 [2] F := by
  refine FnB.of_body (n := 0) (params := ["mask", "kind"]) (rest := ["ends"]) (own := [2]) (g := g_law_mail ) (hb := rfl) (bodyOk_of (by decide +kernel)) (fun _ _ _ vals h => by match vals, h with | [_, _], _ => rfl) ?_ hF
  exact (EvSs.cons (EvS.assign 2 rfl (by decide) (EvX.listS (EvL.cons (EvX.cstr [10] (by decide +kernel)) (EvL.cons (EvX.cstr [13] (by decide +kernel)) (EvL.cons (EvX.cstr [13, 10] (by decide +kernel)) EvL.nil)))))
  (EvSs.one (EvS.ret (EvX.method PySem.F.plainAttrs_str PySem.F.slot_str_join PySem.F.type_str_join join_ok (isStr_of joinF_str) (EvX.cstr [] (by decide +kernel)) (EvL.cons (EvX.comp [2, 1, 0] shelves_ls (compOk_of ["i", "ends", "kind", "mask"] [1] (by decide +kernel)) (EvIt.range EvX.cint rfl) EvIfs.nil (EvX.bin (EvX.bin (EvX.bin (EvX.cstr [46] (by decide +kernel)) (EvX.bin (EvX.bin (EvX.var 3 rfl) (EvX.bin EvX.cint (EvX.var 0 rfl))) EvX.cint)) (EvX.idx (EvX.cstr [97, 98, 99, 100, 101] (by decide +kernel)) (EvX.var 0 rfl))) (EvX.idx (EvX.var 1 rfl) (EvX.bin (EvX.bin (EvX.var 2 rfl) (EvX.var 0 rfl)) EvX.cint)))) EvL.nil)))))

end Mine
end PartWk2

/- part Wk3 -/
section PartWk3
open PySem PySem.W PyProof.Rows PySem.SeqAt
set_option maxRecDepth 100000
set_option maxHeartbeats 4000000
namespace Mine

def g_law_book (F_law_mail : List PV → Option PV) (F_fix_eols : List PV → Option PV) (F_law_is_there : List PV → Option PV) : SF :=
  (pSeq (pAssign 1 (xListS lNil))
  (pSeq (pForElse (iList (xVar 0)) 2
    (pSeq (pAssign 3 (xCall F_fix_eols (lCons (xCall F_law_mail (lCons (xBin .Mod (xVar 2) (xInt 32)) (lCons (xBin .FloorDiv (xVar 2) (xInt 32)) lNil))) lNil)))
    (pIf (tNot (tPlain (xCall F_law_is_there (lCons (xVar 1) (lCons (xVar 3) lNil))))) (pTurn 1 addPV (xVar 3)) pSkip)) pSkip)
  (pRet (xVar 1))))
theorem walk_law_book {prog : Program} {w : World} (F_law_mail : List PV → Option PV) (F_fix_eols : List PV → Option PV) (F_law_is_there : List PV → Option PV) (h_law_mail : FnOk prog w 2 18 F_law_mail) (h_fix_eols : FnOk prog w 2 6 F_fix_eols) (h_law_is_there : FnOk prog w 2 19 F_law_is_there) {F : List PV → Option PV}
    (hF : ∀ args pv, F args = some pv → args.length = 1 ∧ ∃ ρ', g_law_book F_law_mail F_fix_eols F_law_is_there (args.map some ++ List.replicate 3 none) = some (.ret pv, ρ')) : FnB prog w 3 20 [1, 2, 3] F := by
  refine FnB.of_body (n := 2) (params := ["numbers"]) (rest := ["book", "number", "mail"]) (own := [1, 2, 3]) (g := g_law_book F_law_mail F_fix_eols F_law_is_there) (hb := rfl) (bodyOk_of (by decide +kernel)) (fun _ _ _ vals h => by match vals, h with | [_], _ => rfl) ?_ hF
  exact (EvSs.cons (EvS.assign 1 rfl (by decide) (EvX.listS EvL.nil))
  (EvSs.cons (EvS.loop 2 rfl (by decide) (EvIt.var 0 rfl (by decide))
    (EvSs.cons (EvS.assign 3 rfl (by decide) (EvX.call h_fix_eols rfl rfl (EvL.cons (EvX.call h_law_mail rfl rfl (EvL.cons (EvX.bin (EvX.var 2 rfl) EvX.cint) (EvL.cons (EvX.bin (EvX.var 2 rfl) EvX.cint) EvL.nil))) EvL.nil)))
    (EvSs.one (EvS.ite (EvT.not (EvT.plain (EvX.call h_law_is_there rfl rfl (EvL.cons (EvX.var 1 rfl) (EvL.cons (EvX.var 3 rfl) EvL.nil))))) (EvSs.one (EvS.append 1 rfl (by decide) (EvX.var 3 rfl))) EvSs.nil))) EvSs.nil)
  (EvSs.one (EvS.retVar 1 rfl (by decide)))))


def g_law_sunk (F_quotedata : List PV → Option PV) (F_law_is_there : List PV → Option PV) : SF :=
  (pSeq (pAssign 2 (xListS (lCons (xStr [10]) (lCons (xStr [13]) (lCons (xStr [13, 10]) lNil)))))
  (pSeq (pForElse (iList (xVar 1)) 3
    (pForElse (iRange (xCall len1 (lCons (xVar 0) lNil))) 4
      (pSeq (pAssign 5 (xCall F_quotedata (lCons (xMeth joinF (xIdx (xVar 2) (xBin .Mod (xVar 3) (xInt 3))) (lCons (xMeth splitF (xIdx (xVar 0) (xVar 4)) (lCons (xStr [13, 10]) lNil)) lNil)) lNil)))
      (pSeq (pAssign 6 (xComp [] lsOf (iList (xMeth splitF (xVar 5) (lCons (xStr [13, 10]) lNil))) tYes (xIte (tCmp .Eq (xSlice (xVar 0) pNo (pOf (xInt 1))) (xStr [46])) (xSlice (xVar 0) (pOf (xInt 1)) pNo) (xVar 0))))
      (pIf (tCmp .Eq (xSlice (xIdx (xVar 6) (xVar 3)) pNo (pOf (xInt 1))) (xStr [46])) (pSeq (pPut 6 (xVar 3) (xSlice (xIdx (xVar 6) (xVar 3)) (pOf (xInt 1)) pNo))
        (pSeq (pAssign 7 (xMeth joinF (xStr [13, 10]) (lCons (xVar 6) lNil)))
        (pIf (tNot (tPlain (xCall F_law_is_there (lCons (xVar 0) (lCons (xVar 7) lNil))))) (pPut 0 (xVar 4) (xVar 7)) pSkip))) pSkip))) pSkip) pSkip)
  (pRet (xVar 0))))
theorem walk_law_sunk {prog : Program} {w : World} (F_quotedata : List PV → Option PV) (F_law_is_there : List PV → Option PV) (h_quotedata : FnOk prog w 2 5 F_quotedata) (h_law_is_there : FnOk prog w 2 19 F_law_is_there) {F : List PV → Option PV}
    (hF : ∀ args pv, F args = some pv → args.length = 2 ∧ ∃ ρ', g_law_sunk F_quotedata F_law_is_there (args.map some ++ List.replicate 6 none) = some (.ret pv, ρ')) : FnB prog w 3 21 [0, 2, 3, 4, 5, 6, 7] F := by
  refine FnB.of_body (n := 2) (params := ["book", "order"]) (rest := ["ends", "e", "k", "sent", "rows", "mail"]) (own := [0, 2, 3, 4, 5, 6, 7]) (g := g_law_sunk F_quotedata F_law_is_there) (hb := rfl) (bodyOk_of (by decide +kernel)) (fun _ _ _ vals h => by match vals, h with | [_, _], _ => rfl) ?_ hF
  exact (EvSs.cons (EvS.assign 2 rfl (by decide) (EvX.listS (EvL.cons (EvX.cstr [10] (by decide +kernel)) (EvL.cons (EvX.cstr [13] (by decide +kernel)) (EvL.cons (EvX.cstr [13, 10] (by decide +kernel)) EvL.nil)))))
  (EvSs.cons (EvS.loop 3 rfl (by decide) (EvIt.var 1 rfl (by decide))
    (EvSs.one (EvS.loop 4 rfl (by decide) (EvIt.range (EvX.builtin len_ok (by decide +kernel) rfl (EvL.cons (EvX.var 0 rfl) EvL.nil)) rfl)
      (EvSs.cons (EvS.assign 5 rfl (by decide) (EvX.call h_quotedata rfl rfl (EvL.cons (EvX.method PySem.F.plainAttrs_str PySem.F.slot_str_join PySem.F.type_str_join join_ok (isStr_of joinF_str) (EvX.idx (EvX.var 2 rfl) (EvX.bin (EvX.var 3 rfl) EvX.cint)) (EvL.cons (EvX.method PySem.F.plainAttrs_str PySem.F.slot_str_split PySem.F.type_str_split split_ok (isStr_of splitF_str) (EvX.idx (EvX.var 0 rfl) (EvX.var 4 rfl)) (EvL.cons (EvX.cstr [13, 10] (by decide +kernel)) EvL.nil)) EvL.nil)) EvL.nil)))
      (EvSs.cons (EvS.assignComp 6 [] rfl (by decide) rfl shelves_ls (compOk_of ["row"] [] (by decide +kernel)) (EvIt.list (EvX.method PySem.F.plainAttrs_str PySem.F.slot_str_split PySem.F.type_str_split split_ok (isStr_of splitF_str) (EvX.var 5 rfl) (EvL.cons (EvX.cstr [13, 10] (by decide +kernel)) EvL.nil))) EvIfs.nil (EvX.ite (EvT.cmp (EvX.slice (EvX.var 0 rfl) EvPart.no (EvPart.of EvX.cint)) (EvX.cstr [46] (by decide +kernel))) (EvX.slice (EvX.var 0 rfl) (EvPart.of EvX.cint) EvPart.no) (EvX.var 0 rfl)))
      (EvSs.one (EvS.ite (EvT.cmp (EvX.slice (EvX.idx (EvX.var 6 rfl) (EvX.var 3 rfl)) EvPart.no (EvPart.of EvX.cint)) (EvX.cstr [46] (by decide +kernel))) (EvSs.cons (EvS.put 6 rfl (by decide) (EvX.var 3 rfl) (EvX.slice (EvX.idx (EvX.var 6 rfl) (EvX.var 3 rfl)) (EvPart.of EvX.cint) EvPart.no))
        (EvSs.cons (EvS.assign 7 rfl (by decide) (EvX.method PySem.F.plainAttrs_str PySem.F.slot_str_join PySem.F.type_str_join join_ok (isStr_of joinF_str) (EvX.cstr [13, 10] (by decide +kernel)) (EvL.cons (EvX.var 6 rfl) EvL.nil)))
        (EvSs.one (EvS.ite (EvT.not (EvT.plain (EvX.call h_law_is_there rfl rfl (EvL.cons (EvX.var 0 rfl) (EvL.cons (EvX.var 7 rfl) EvL.nil))))) (EvSs.one (EvS.put 0 rfl (by decide) (EvX.var 4 rfl) (EvX.var 7 rfl))) EvSs.nil)))) EvSs.nil)))) EvSs.nil)) EvSs.nil)
  (EvSs.one (EvS.retVar 0 rfl (by decide)))))


def g_law_shelf (F_strcoll : List PV → Option PV) : SF :=
  (pSeq (pAssign 1 (xListS lNil))
  (pSeq (pForElse (iList (xVar 0)) 2
    (pSeq (pAssign 3 (xInt 0))
    (pSeq (pWhile (tAnd (tCmp .Lt (xVar 3) (xCall len1 (lCons (xVar 1) lNil))) (tCmp .Lt (xCall F_strcoll (lCons (xIdx (xVar 1) (xVar 3)) (lCons (xVar 2) lNil))) (xInt 0)))
      (pAug 3 .Add (xInt 1)) 100)
    (pAssign 1 (xBin .Add (xBin .Add (xSlice (xVar 1) pNo (pOf (xVar 3))) (xListS (lCons (xVar 2) lNil))) (xSlice (xVar 1) (pOf (xVar 3)) pNo))))) pSkip)
  (pRet (xVar 1))))
theorem walk_law_shelf {prog : Program} {w : World} (F_strcoll : List PV → Option PV) (h_strcoll : FnOk prog w 1 12 F_strcoll) {F : List PV → Option PV}
    (hF : ∀ args pv, F args = some pv → args.length = 1 ∧ ∃ ρ', g_law_shelf F_strcoll (args.map some ++ List.replicate 3 none) = some (.ret pv, ρ')) : FnB prog w 2 22 [1, 2, 3] F := by
  refine FnB.of_body (n := 1) (params := ["book"]) (rest := ["shelf", "mail", "place"]) (own := [1, 2, 3]) (g := g_law_shelf F_strcoll) (hb := rfl) (bodyOk_of (by decide +kernel)) (fun _ _ _ vals h => by match vals, h with | [_], _ => rfl) ?_ hF
  exact (EvSs.cons (EvS.assign 1 rfl (by decide) (EvX.listS EvL.nil))
  (EvSs.cons (EvS.loop 2 rfl (by decide) (EvIt.var 0 rfl (by decide))
    (EvSs.cons (EvS.assign 3 rfl (by decide) EvX.cint)
    (EvSs.cons (EvS.while_ 100 (EvT.and2 (EvT.cmp (EvX.var 3 rfl) (EvX.builtin len_ok (by decide +kernel) rfl (EvL.cons (EvX.var 1 rfl) EvL.nil))) (EvT.cmp (EvX.call h_strcoll rfl rfl (EvL.cons (EvX.idx (EvX.var 1 rfl) (EvX.var 3 rfl)) (EvL.cons (EvX.var 2 rfl) EvL.nil))) EvX.cint))
      (EvSs.one (EvS.aug 3 rfl (by decide) EvX.cint)))
    (EvSs.one (EvS.assign 1 rfl (by decide) (EvX.bin (EvX.bin (EvX.slice (EvX.var 1 rfl) EvPart.no (EvPart.of (EvX.var 3 rfl))) (EvX.listS (EvL.cons (EvX.var 2 rfl) EvL.nil))) (EvX.slice (EvX.var 1 rfl) (EvPart.of (EvX.var 3 rfl)) EvPart.no)))))) EvSs.nil)
  (EvSs.one (EvS.retVar 1 rfl (by decide)))))


def g_law_heard  : SF :=
  (pSeq (pAssign 1 (xMeth splitF (xVar 0) (lCons (xStr [13, 10]) lNil)))
  (pRet (xCall sumF (lCons (xComp [1] liOf (iRange (xInt 5)) (tCmp .Eq (xSlice (xIdx (xVar 1) (xVar 0)) pNo (pOf (xInt 2))) (xStr [46, 46])) (xBin .Pow (xInt 2) (xVar 0))) lNil))))
theorem walk_law_heard {prog : Program} {w : World}   {F : List PV → Option PV}
    (hF : ∀ args pv, F args = some pv → args.length = 1 ∧ ∃ ρ', g_law_heard  (args.map some ++ List.replicate 1 none) = some (.ret pv, ρ')) : FnB prog w 1 23 [1] F := by
  refine FnB.of_body (n := 0) (params := ["sent"]) (rest := ["rows"]) (own := [1]) (g := g_law_heard ) (hb := rfl) (bodyOk_of (by decide +kernel)) (fun _ _ _ vals h => by match vals, h with | [_], _ => rfl) ?_ hF
  exact (EvSs.cons (EvS.assign 1 rfl (by decide) (EvX.method PySem.F.plainAttrs_str PySem.F.slot_str_split PySem.F.type_str_split split_ok (isStr_of splitF_str) (EvX.var 0 rfl) (EvL.cons (EvX.cstr [13, 10] (by decide +kernel)) EvL.nil)))
  (EvSs.one (EvS.ret (EvX.builtin sum_ok (by decide +kernel) rfl (EvL.cons (EvX.comp [1] shelves_li (compOk_of ["i", "rows"] [1] (by decide +kernel)) (EvIt.range EvX.cint rfl) (EvIfs.one (EvT.cmp (EvX.slice (EvX.idx (EvX.var 1 rfl) (EvX.var 0 rfl)) EvPart.no (EvPart.of EvX.cint)) (EvX.cstr [46, 46] (by decide +kernel)))) (EvX.bin EvX.cint (EvX.var 0 rfl))) EvL.nil)))))


def g_law_family  : SF :=
  (pSeq (pAssign 1 (xListI lNil))
  (pSeq (pForElse (iList (xVar 0)) 2
    (pIf (tCmp .NotIn (xBin .Mod (xVar 2) (xInt 32)) (xVar 1)) (pTurn 1 addPV (xBin .Mod (xVar 2) (xInt 32))) pSkip) pSkip)
  (pRet (xVar 1))))
theorem walk_law_family {prog : Program} {w : World}   {F : List PV → Option PV}
    (hF : ∀ args pv, F args = some pv → args.length = 1 ∧ ∃ ρ', g_law_family  (args.map some ++ List.replicate 2 none) = some (.ret pv, ρ')) : FnB prog w 1 24 [1, 2] F := by
  refine FnB.of_body (n := 0) (params := ["numbers"]) (rest := ["family", "number"]) (own := [1, 2]) (g := g_law_family ) (hb := rfl) (bodyOk_of (by decide +kernel)) (fun _ _ _ vals h => by match vals, h with | [_], _ => rfl) ?_ hF
  exact (EvSs.cons (EvS.assign 1 rfl (by decide) (EvX.listI EvL.nil))
  (EvSs.cons (EvS.loop 2 rfl (by decide) (EvIt.var 0 rfl (by decide))
    (EvSs.one (EvS.ite (EvT.cmp (EvX.bin (EvX.var 2 rfl) EvX.cint) (EvX.var 1 rfl)) (EvSs.one (EvS.append 1 rfl (by decide) (EvX.bin (EvX.var 2 rfl) EvX.cint))) EvSs.nil)) EvSs.nil)
  (EvSs.one (EvS.retVar 1 rfl (by decide)))))

end Mine
end PartWk3

/- part Wk4 -/
section PartWk4
open PySem PySem.W PyProof.Rows PySem.SeqAt
set_option maxRecDepth 100000
set_option maxHeartbeats 4000000
namespace Mine

def g_law_won (F_law_won : List PV → Option PV) : SF :=
  (pSeq (pIf (tOr (tCmp .Eq (xVar 0) (xListI lNil)) (tCmp .Eq (xVar 1) (xListI lNil))) (pRet (xBin .Mult (xListI (lCons (xInt 0) lNil)) (xCall len1 (lCons (xVar 0) lNil)))) pSkip)
  (pSeq (pAssign 2 (xBin .Pow (xInt 2) (xIdx (xVar 1) (xInt (-1)))))
  (pSeq (pAssign 3 (xCall F_law_won (lCons (xComp [2] liOf (iList (xVar 0)) (tCmp .Eq (xBin .Mod (xBin .FloorDiv (xVar 0) (xVar 1)) (xInt 2)) (xInt 0)) (xVar 0)) (lCons (xSlice (xVar 1) pNo (pOf (xInt (-1)))) lNil))))
  (pSeq (pAssign 4 (xCall F_law_won (lCons (xComp [2] liOf (iList (xVar 0)) (tCmp .Eq (xBin .Mod (xBin .FloorDiv (xVar 0) (xVar 1)) (xInt 2)) (xInt 1)) (xVar 0)) (lCons (xSlice (xVar 1) pNo (pOf (xInt (-1)))) lNil))))
  (pRet (xBin .Add (xBin .Add (xVar 3) (xComp [3] liOf (iList (xVar 4)) (tCmp .NotIn (xVar 0) (xVar 1)) (xVar 0))) (xComp [2, 3] liOf (iList (xVar 4)) (tCmp .In (xVar 0) (xVar 2)) (xBin .Add (xVar 0) (xVar 1)))))))))
theorem walk_law_won {prog : Program} {w : World} {n : Nat} (F_law_won : List PV → Option PV) (h_law_won : FnOk prog w n 25 F_law_won) {F : List PV → Option PV}
    (hF : ∀ args pv, F args = some pv → args.length = 2 ∧ ∃ ρ', g_law_won F_law_won (args.map some ++ List.replicate 3 none) = some (.ret pv, ρ')) : FnB prog w (n + 1) 25 [2, 3, 4] F := by
  refine FnB.of_body (n := n) (params := ["family", "order"]) (rest := ["bit", "off", "on"]) (own := [2, 3, 4]) (g := g_law_won F_law_won) (hb := rfl) (bodyOk_of (by decide +kernel)) (fun _ _ _ vals h => by match vals, h with | [_, _], _ => rfl) ?_ hF
  exact (EvSs.cons (EvS.ite (EvT.or2 (EvT.cmp (EvX.var 0 rfl) (EvX.listI EvL.nil)) (EvT.cmp (EvX.var 1 rfl) (EvX.listI EvL.nil))) (EvSs.one (EvS.ret (EvX.bin (EvX.listI (EvL.cons EvX.cint EvL.nil)) (EvX.builtin len_ok (by decide +kernel) rfl (EvL.cons (EvX.var 0 rfl) EvL.nil))))) EvSs.nil)
  (EvSs.cons (EvS.assign 2 rfl (by decide) (EvX.bin EvX.cint (EvX.idx (EvX.var 1 rfl) EvX.neg)))
  (EvSs.cons (EvS.assign 3 rfl (by decide) (EvX.call h_law_won rfl rfl (EvL.cons (EvX.comp [2] shelves_li (compOk_of ["one", "bit"] [1] (by decide +kernel)) (EvIt.list (EvX.var 0 rfl)) (EvIfs.one (EvT.cmp (EvX.bin (EvX.bin (EvX.var 0 rfl) (EvX.var 1 rfl)) EvX.cint) EvX.cint)) (EvX.var 0 rfl)) (EvL.cons (EvX.slice (EvX.var 1 rfl) EvPart.no (EvPart.of EvX.neg)) EvL.nil))))
  (EvSs.cons (EvS.assign 4 rfl (by decide) (EvX.call h_law_won rfl rfl (EvL.cons (EvX.comp [2] shelves_li (compOk_of ["one", "bit"] [1] (by decide +kernel)) (EvIt.list (EvX.var 0 rfl)) (EvIfs.one (EvT.cmp (EvX.bin (EvX.bin (EvX.var 0 rfl) (EvX.var 1 rfl)) EvX.cint) EvX.cint)) (EvX.var 0 rfl)) (EvL.cons (EvX.slice (EvX.var 1 rfl) EvPart.no (EvPart.of EvX.neg)) EvL.nil))))
  (EvSs.one (EvS.ret (EvX.bin (EvX.bin (EvX.var 3 rfl) (EvX.comp [3] shelves_li (compOk_of ["one", "off"] [1] (by decide +kernel)) (EvIt.list (EvX.var 4 rfl)) (EvIfs.one (EvT.cmp (EvX.var 0 rfl) (EvX.var 1 rfl))) (EvX.var 0 rfl))) (EvX.comp [2, 3] shelves_li (compOk_of ["one", "bit", "off"] [1, 2] (by decide +kernel)) (EvIt.list (EvX.var 4 rfl)) (EvIfs.one (EvT.cmp (EvX.var 0 rfl) (EvX.var 2 rfl))) (EvX.bin (EvX.var 0 rfl) (EvX.var 1 rfl))))))))))


def g_law_sent  : SF :=
  (pRet (xMeth joinF (xStr []) (lCons (xComp [0] lsOf (iRange (xInt 5)) tYes (xBin .Add (xBin .Add (xBin .Mult (xStr [46, 46]) (xBin .Mod (xBin .FloorDiv (xVar 1) (xBin .Pow (xInt 2) (xVar 0))) (xInt 2))) (xIdx (xStr [97, 98, 99, 100, 101]) (xVar 0))) (xStr [13, 10]))) lNil)))
theorem walk_law_sent {prog : Program} {w : World}   {F : List PV → Option PV}
    (hF : ∀ args pv, F args = some pv → args.length = 1 ∧ ∃ ρ', g_law_sent  (args.map some ++ List.replicate 0 none) = some (.ret pv, ρ')) : FnB prog w 1 26 [] F := by
  refine FnB.of_body (n := 0) (params := ["mask"]) (rest := []) (own := []) (g := g_law_sent ) (hb := rfl) (bodyOk_of (by decide +kernel)) (fun _ _ _ vals h => by match vals, h with | [_], _ => rfl) ?_ hF
  exact (EvSs.one (EvS.ret (EvX.method PySem.F.plainAttrs_str PySem.F.slot_str_join PySem.F.type_str_join join_ok (isStr_of joinF_str) (EvX.cstr [] (by decide +kernel)) (EvL.cons (EvX.comp [0] shelves_ls (compOk_of ["i", "mask"] [] (by decide +kernel)) (EvIt.range EvX.cint rfl) EvIfs.nil (EvX.bin (EvX.bin (EvX.bin (EvX.cstr [46, 46] (by decide +kernel)) (EvX.bin (EvX.bin (EvX.var 1 rfl) (EvX.bin EvX.cint (EvX.var 0 rfl))) EvX.cint)) (EvX.idx (EvX.cstr [97, 98, 99, 100, 101] (by decide +kernel)) (EvX.var 0 rfl))) (EvX.cstr [13, 10] (by decide +kernel)))) EvL.nil))))


def g_law_places  : SF :=
  (pRet (xComp [0] liOf (iRange (xInt 5)) (tCmp .Eq (xBin .Mod (xBin .FloorDiv (xVar 1) (xBin .Pow (xInt 2) (xVar 0))) (xInt 2)) (xInt 1)) (xVar 0)))
theorem walk_law_places {prog : Program} {w : World}   {F : List PV → Option PV}
    (hF : ∀ args pv, F args = some pv → args.length = 1 ∧ ∃ ρ', g_law_places  (args.map some ++ List.replicate 0 none) = some (.ret pv, ρ')) : FnB prog w 1 27 [] F := by
  refine FnB.of_body (n := 0) (params := ["mask"]) (rest := []) (own := []) (g := g_law_places ) (hb := rfl) (bodyOk_of (by decide +kernel)) (fun _ _ _ vals h => by match vals, h with | [_], _ => rfl) ?_ hF
  exact (EvSs.one (EvS.ret (EvX.comp [0] shelves_li (compOk_of ["i", "mask"] [] (by decide +kernel)) (EvIt.range EvX.cint rfl) (EvIfs.one (EvT.cmp (EvX.bin (EvX.bin (EvX.var 1 rfl) (EvX.bin EvX.cint (EvX.var 0 rfl))) EvX.cint) EvX.cint)) (EvX.var 0 rfl))))


def g_law_words (F_law_places : List PV → Option PV) : SF :=
  (pSeq (pAssign 1 (xListS (lCons (xStr [79, 80, 84, 73, 77, 73, 90, 69, 68]) (lCons (xStr [78, 69, 87, 76, 79, 67, 65, 76, 83]) (lCons (xStr [86, 65, 82, 65, 82, 71, 83]) (lCons (xStr [86, 65, 82, 75, 69, 89, 87, 79, 82, 68, 83]) (lCons (xStr [78, 69, 83, 84, 69, 68]) lNil)))))))
  (pSeq (pIf (tCmp .Eq (xVar 0) (xInt 0)) (pRet (xStr [48, 120, 48])) pSkip)
  (pRet (xMeth joinF (xStr [44, 32]) (lCons (xComp [1] lsOf (iList (xCall F_law_places (lCons (xVar 0) lNil))) tYes (xIdx (xVar 1) (xVar 0))) lNil)))))
theorem walk_law_words {prog : Program} {w : World} (F_law_places : List PV → Option PV) (h_law_places : FnOk prog w 1 27 F_law_places) {F : List PV → Option PV}
    (hF : ∀ args pv, F args = some pv → args.length = 1 ∧ ∃ ρ', g_law_words F_law_places (args.map some ++ List.replicate 1 none) = some (.ret pv, ρ')) : FnB prog w 2 28 [1] F := by
  refine FnB.of_body (n := 1) (params := ["mask"]) (rest := ["names"]) (own := [1]) (g := g_law_words F_law_places) (hb := rfl) (bodyOk_of (by decide +kernel)) (fun _ _ _ vals h => by match vals, h with | [_], _ => rfl) ?_ hF
  exact (EvSs.cons (EvS.assign 1 rfl (by decide) (EvX.listS (EvL.cons (EvX.cstr [79, 80, 84, 73, 77, 73, 90, 69, 68] (by decide +kernel)) (EvL.cons (EvX.cstr [78, 69, 87, 76, 79, 67, 65, 76, 83] (by decide +kernel)) (EvL.cons (EvX.cstr [86, 65, 82, 65, 82, 71, 83] (by decide +kernel)) (EvL.cons (EvX.cstr [86, 65, 82, 75, 69, 89, 87, 79, 82, 68, 83] (by decide +kernel)) (EvL.cons (EvX.cstr [78, 69, 83, 84, 69, 68] (by decide +kernel)) EvL.nil)))))))
  (EvSs.cons (EvS.ite (EvT.cmp (EvX.var 0 rfl) EvX.cint) (EvSs.one (EvS.ret (EvX.cstr [48, 120, 48] (by decide +kernel)))) EvSs.nil)
  (EvSs.one (EvS.ret (EvX.method PySem.F.plainAttrs_str PySem.F.slot_str_join PySem.F.type_str_join join_ok (isStr_of joinF_str) (EvX.cstr [44, 32] (by decide +kernel)) (EvL.cons (EvX.comp [1] shelves_ls (compOk_of ["i", "names"] [1] (by decide +kernel)) (EvIt.list (EvX.call h_law_places rfl rfl (EvL.cons (EvX.var 0 rfl) EvL.nil))) EvIfs.nil (EvX.idx (EvX.var 1 rfl) (EvX.var 0 rfl))) EvL.nil))))))


def g_law_traces (F_pretty_flags : List PV → Option PV) : SF :=
  (pSeq (pAssign 2 (xListS lNil))
  (pSeq (pForElse (iList (xVar 0)) 3
    (pSeq (pAssign 4 (xCall F_pretty_flags (lCons (xBin .BitOr (xBin .BitAnd (xVar 3) (xVar 1)) (xInt 32)) lNil)))
    (pIf (tCmp .NotIn (xVar 4) (xVar 2)) (pTurn 2 addPV (xVar 4)) pSkip)) pSkip)
  (pRet (xCall len1 (lCons (xVar 2) lNil)))))
theorem walk_law_traces {prog : Program} {w : World} (F_pretty_flags : List PV → Option PV) (h_pretty_flags : FnOk prog w 1 9 F_pretty_flags) {F : List PV → Option PV}
    (hF : ∀ args pv, F args = some pv → args.length = 2 ∧ ∃ ρ', g_law_traces F_pretty_flags (args.map some ++ List.replicate 3 none) = some (.ret pv, ρ')) : FnB prog w 2 29 [2, 3, 4] F := by
  refine FnB.of_body (n := 1) (params := ["family", "mask"]) (rest := ["seen", "one", "words"]) (own := [2, 3, 4]) (g := g_law_traces F_pretty_flags) (hb := rfl) (bodyOk_of (by decide +kernel)) (fun _ _ _ vals h => by match vals, h with | [_, _], _ => rfl) ?_ hF
  exact (EvSs.cons (EvS.assign 2 rfl (by decide) (EvX.listS EvL.nil))
  (EvSs.cons (EvS.loop 3 rfl (by decide) (EvIt.var 0 rfl (by decide))
    (EvSs.cons (EvS.assign 4 rfl (by decide) (EvX.call h_pretty_flags rfl rfl (EvL.cons (EvX.bin (EvX.bin (EvX.var 3 rfl) (EvX.var 1 rfl)) EvX.cint) EvL.nil)))
    (EvSs.one (EvS.ite (EvT.cmp (EvX.var 4 rfl) (EvX.var 2 rfl)) (EvSs.one (EvS.append 2 rfl (by decide) (EvX.var 4 rfl))) EvSs.nil))) EvSs.nil)
  (EvSs.one (EvS.ret (EvX.builtin len_ok (by decide +kernel) rfl (EvL.cons (EvX.var 2 rfl) EvL.nil))))))

end Mine
end PartWk4

/- part Fw19 -/
section PartFw19
open PySem PySem.W PyProof.Rows PySem.SeqAt
set_option maxRecDepth 100000
namespace Mine

theorem entry_next : entryFor table "next" = some Builtin.«next» := entryFor_of_fast (by kernel_rfl)
theorem entry_iter : entryFor table "iter" = some Builtin.«iter» := entryFor_of_fast (by kernel_rfl)
theorem args_next (a : Value) : argsOk "next" ⟨[a], []⟩ := by unfold argsOk; kernel_rfl
theorem args_iter (a : Value) : argsOk "iter" ⟨[a], []⟩ := by unfold argsOk; kernel_rfl

section
variable {prog : Program} {w : World} {A : Around} {E : Value → Shared → Prop} {s : Shared}

theorem next_item {it l : Addr} {i : Nat} {items : Array Value} {x : Value} {Q : Value → Shared → Prop} (hit : s.heap.IsListIter it l i) (hl : s.heap.IsList l items) (hx : items[i]? = some x)
    (hQ : ∀ h', h'.IsListIter it l (i + 1) → Heap.SameBut it s.heap h' → Q x { s with heap := h' }) : wpAny (model prog w) A (call (.builtin "next") [.ref it]) Q E s := by
  obtain ⟨o, ho, hc, hd⟩ := id hit
  obtain ⟨ol, hol, _, nl, hdl⟩ := hl
  refine Calls.call_function_entry (by decide +kernel) (by decide +kernel) entry_next (args_next _) ?_
  unfold Builtin.«next»
  refine wpAny_bind (m := someArgs "next" 1 2 _) (wpAny_of_eq (a := [Value.ref it]) (by first | rfl | kernel_rfl!) ?_)
  dsimp only
  refine wpAny_bind (wpAny_specialOf (name := Str.ofString "__next__") hit.typeIs slot_listiter_next.lookup ?_)
  refine wpAny_ite_split (fun hab => absurd hab (by decide)) (fun _ => ?_)
  refine wpAny_bind (wpAny_callSpecial?_slot (name := Str.ofString "__next__") hit.typeIs slot_listiter_next (wpAny_call_entry slot_listiter_next hit.typeIs entry_listiter_next ?_ (args_listiter_next _)))
  show wpAny _ _ (field (.ref it) 0 >>= _) _ _ s
  refine wpAny_bind (wpAny_field ho hd (x := .ref l) rfl ?_)
  show wpAny _ _ (if (Value.ref l == Value.none) = true then _ else _) _ _ s
  rw [if_neg (show ¬ ((Value.ref l == Value.none) = true) from Bool.false_ne_true)]
  show wpAny _ _ (field (.ref it) 1 >>= _) _ _ s
  refine wpAny_bind (wpAny_field ho hd (x := .int i 0) rfl ?_)
  show wpAny _ _ (seqItems? (.ref l) >>= _) _ _ s
  refine wpAny_bind (wpAny_seqItems hol hdl ?_)
  simp only [Int.toNat_natCast, hx]
  refine wpAny_bind (wpAny_setField ho hd (by simp) (wpAny_pure ⟨x, rfl, ?_⟩))
  refine wpAny_pure ⟨x, rfl, hQ _ ?_ (Heap.SameBut.update ..)⟩
  exact ⟨_, Heap.get?_update_self _ ho (Obj.isFreed_of_fields (Obj.data_mapFields hd _)), (Obj.cls_mapFields ..).trans hc, by
    rw [Obj.data_mapFields hd]; simp [rawInt]⟩

/-- the tape's end: StopIteration comes -/
structure EndExc (it : Addr) (h h' : Heap) (e : Addr) : Prop where
  ext : Heap.ExtBut it h h'
  new : h.get? e = none
  there : ∃ ob t, h'.get? e = some ob ∧ ob.cls = .type "StopIteration" ∧ ob.data = .fields #[t, .none, .none, .none, .bool false, .none]

theorem next_end {it l : Addr} {i : Nat} {items : Array Value} {Q : Value → Shared → Prop} (hh : A.handled = none) (hit : s.heap.IsListIter it l i) (hl : s.heap.IsList l items) (hx : items[i]? = none)
    (hQ : ∀ h' e, EndExc it s.heap h' e → E (.ref e) { s with heap := h' }) : wpAny (model prog w) A (call (.builtin "next") [.ref it]) Q E s := by
  obtain ⟨o, ho, hc, hd⟩ := id hit
  obtain ⟨ol, hol, _, nl, hdl⟩ := hl
  refine Calls.call_function_entry (by decide +kernel) (by decide +kernel) entry_next (args_next _) ?_
  unfold Builtin.«next»
  refine wpAny_bind (m := someArgs "next" 1 2 _) (wpAny_of_eq (a := [Value.ref it]) (by first | rfl | kernel_rfl!) ?_)
  dsimp only
  refine wpAny_bind (wpAny_specialOf (name := Str.ofString "__next__") hit.typeIs slot_listiter_next.lookup ?_)
  refine wpAny_ite_split (fun hab => absurd hab (by decide)) (fun _ => ?_)
  refine wpAny_bind (wpAny_callSpecial?_slot (name := Str.ofString "__next__") hit.typeIs slot_listiter_next (wpAny_call_entry slot_listiter_next hit.typeIs entry_listiter_next ?_ (args_listiter_next _)))
  show wpAny _ _ (field (.ref it) 0 >>= _) _ _ s
  refine wpAny_bind (wpAny_field ho hd (x := .ref l) rfl ?_)
  show wpAny _ _ (if (Value.ref l == Value.none) = true then _ else _) _ _ s
  rw [if_neg (show ¬ ((Value.ref l == Value.none) = true) from Bool.false_ne_true)]
  show wpAny _ _ (field (.ref it) 1 >>= _) _ _ s
  refine wpAny_bind (wpAny_field ho hd (x := .int i 0) rfl ?_)
  show wpAny _ _ (seqItems? (.ref l) >>= _) _ _ s
  refine wpAny_bind (wpAny_seqItems hol hdl ?_)
  simp only [Int.toNat_natCast, hx]
  refine wpAny_bind (wpAny_rule (wpAny_bind (wpAny_setField ho hd (by simp) ?_)))
  show wpAny _ _ (newExc (.type "StopIteration") [] >>= _) _ _ _
  refine wpAny_bind ?_
  simp only [newExc, newTuple]
  refine wpAny_bind (wpAny_newObj_type ?_ (by size_fits))
  refine wpAny_bind (m := firstArgMember _ _) (wpAny_of_eq (a := Value.none) (by first | rfl | (simp only [firstArgMember]; rfl)) ?_)
  refine wpAny_newObj_type ?_ (by size_fits)
  simp only [raiseNew]
  refine wpAny_bind (wpAny_handled ?_)
  rw [show A.in1.in1.handled = none from hh]
  refine wpAny_bind (wpAny_pure (wpAny_throw ?_))
  refine hQ _ _ ⟨(((Heap.SameBut.update ..).extBut.push _).push _), ?_, ⟨_, _, Heap.get?_push_size _ rfl, rfl, rfl⟩⟩
  refine fresh_size ?_
  rw [Heap.size_push, Heap.size_after_update]
  exact Nat.le_succ _
end
end Mine
end PartFw19

/- part Fw20 -/
section PartFw20
open PySem PySem.W PyProof.Rows PySem.SeqAt
set_option maxRecDepth 100000
namespace Mine

theorem EvT.use {prog : Program} {w : World} {C : Cx} {n : Nat} {e : Expr} {f : REnv → Option Bool} {A : Around} {E : Value → Shared → Prop} {env : Env} {b : Kept} {s0 s : Shared} {ρ : REnv} {k : Bool} {Q : Bool → Shared → Prop} (h : EvT prog w C n e f)
    (he : EnvIs C.sc env) (hA : AOk A n) (F : FrC C env b s0 s ρ) (hf : f ρ = some k) (hQ : ∀ s', Keeps s s' → Q k s') : wpAny (model prog w) A (isTrue e env (eval e env)) Q E s := h A E env b s0 s ρ k Q he hA F hf hQ

def ListIn (b : Kept) (l : Addr) (vs : List Value) : Prop := ∃ o n, b l = some o ∧ o.cls = .type "list" ∧ o.data = .seq vs.toArray n

section
variable {prog : Program} {w : World} {C : Cx} {n : Nat} {A : Around} {E : Value → Shared → Prop} {env : Env} {b : Kept} {s0 s : Shared} {ρ : REnv}

theorem ListIn.at {l : Addr} {vs : List Value} (h : ListIn b l vs) (F : FrC C env b s0 s ρ) : s.heap.IsList l vs.toArray :=
  let ⟨o, n, e, hc, hd⟩ := h; ⟨o, F.keep l o e, hc, n, hd⟩

theorem iter_fields {h : Heap} {I l : Addr} {k : Nat} (x : h.IsListIter I l k) : FieldsAt h [I] := fun a ha => by
  rw [List.mem_singleton.mp ha]; exact listIter_data x

/-- a block is walked beside an iterator -/
theorem keepIter {st : List Stmt} {g : SF} (h : EvSs prog w C n st g) {ρ' : REnv} {I l : Addr} {k : Nat} {Q : Flow → Shared → Prop} (he : EnvIs C.sc env) (hA : AOk A n) (F : FrC C env b s0 s ρ) (hb : b I = none) (hit : s.heap.IsListIter I l k)
    (hg : g ρ = some (.next, ρ')) (hQ : ∀ s', FrC C env b s0 s' ρ' → s'.heap.IsListIter I l k → Q .next s') : wpAny (model prog w) A (execs st env) Q E s := by
  have hwb : ∀ a ∈ [I], b a = none := fun a ha => by rw [List.mem_singleton.mp ha]; exact hb
  refine h A E env (moreKept b s.heap [I]) s0 s ρ ρ' .next _ he hA (FR.more F hwb (iter_fields hit)) hg fun f s' F' hfl => ?_
  cases hfl
  refine hQ s' (FR.less F' F.top hwb (iter_fields hit)) ?_
  obtain ⟨o, ho, r⟩ := hit
  exact ⟨o, F'.keep I o (by rw [moreKept_in (List.mem_singleton.mpr rfl)]; exact ho), r⟩
theorem keepIter1 {st : Stmt} {g : SF} (h : EvS prog w C n st g) {ρ' : REnv} {I l : Addr} {k : Nat} {Q : Flow → Shared → Prop} (he : EnvIs C.sc env) (hA : AOk A n) (F : FrC C env b s0 s ρ) (hb : b I = none) (hit : s.heap.IsListIter I l k)
    (hg : g ρ = some (.next, ρ')) (hQ : ∀ s', FrC C env b s0 s' ρ' → s'.heap.IsListIter I l k → Q .next s') : wpAny (model prog w) A (exec st env) Q E s := by
  have hwb : ∀ a ∈ [I], b a = none := fun a ha => by rw [List.mem_singleton.mp ha]; exact hb
  refine h A E env (moreKept b s.heap [I]) s0 s ρ ρ' .next _ he hA (FR.more F hwb (iter_fields hit)) hg fun f s' F' hfl => ?_
  cases hfl
  refine hQ s' (FR.less F' F.top hwb (iter_fields hit)) ?_
  obtain ⟨o, ho, r⟩ := hit
  exact ⟨o, F'.keep I o (by rw [moreKept_in (List.mem_singleton.mpr rfl)]; exact ho), r⟩

theorem nextAssign (i : Nat) {x y : Str} {p p1 p2 q q2 : Pos} {I l : Addr} {vs : List Value} {xs : List Int} {k : Nat} {Q : Flow → Shared → Prop} (hxi : C.vars[i]? = some x) (hi : i ∈ C.own) (hy : (y, I) ∈ C.ex) (hx : C.sc.names.lookup ("next" : Str) = some .globalImplicit)
    (he : EnvIs C.sc env) (hA : AOk A n) (F : FrC C env b s0 s ρ) (hb : b I = none) (hl : ListIn b l vs) (hv : IntsV vs xs) (hit : s.heap.IsListIter I l k)
    (hQ : ∀ v, xs[k]? = some v → ∀ s', FrC C env b s0 s' (ρ.set i (some (.int v))) → s'.heap.IsListIter I l (k + 1) → Q .next s')
    (hE : xs[k]? = none → ∀ h' e, EndExc I s.heap h' e → E (.ref e) { s with heap := h' })
    (hs : ∀ env, swapsWith (.Call (.Name "next" p1) [.Name y p2] [] q) (some (.Name x p)) q2.line env = pure false := by intro _; rfl)
    (hse : ∀ env, starEach [.Name y p2] env = (false, eval (.Name y p2) env) :: starEach [] env := by intro _; rfl) (hany : ∀ env, (backTo q (starEach [.Name y p2] env)).any (·.1) = false := by intro _; rfl)
    (hdy : (y == ("__debug__" : Str)) = false := by decide) :
    wpAny (model prog w) A (exec (.Assign [.Name x p] (.Call (.Name "next" p1) [.Name y p2] [] q) q2) env) Q E s := by
  have hwb : ∀ a ∈ [I], b a = none := fun a ha => by rw [List.mem_singleton.mp ha]; exact hb
  refine wpAny_Assign_Name (wpAny_Call_NameR (name_builtin (v := .builtin "next") he hx F.tp (by decide +kernel) ?_)) (hs env)
  refine Calls.callWith_builtin (hany env) (evalArgs_es (hse env) (spliced_more (wpAny_Name (load_holds he (F.ext y I hy).2 ?_) hdy) (hse env)))
  refine spliced_none ?_
  cases e : xs[k]? with
  | none =>
    refine next_end hA.1 hit (hl.at F) ?_ (hE e)
    have : vs.length ≤ k := by rw [hv.length]; exact List.getElem?_eq_none_iff.mp e
    simp [this]
  | some v =>
    obtain ⟨u, hu, t, rfl⟩ := Mine.Paired.get hv e
    refine next_item hit (hl.at F) (by simpa using hu) fun h' hit' hs' => ?_
    have F1 : FrC C env b s0 { s with heap := h' } ρ := FR.iter (tk := s.toks) F hwb (iter_fields hit) fun c o hc e => (hs'.2 c (fun q => hc (List.mem_singleton.mpr q))).trans e
    refine FR.store he (FR.more F1 hwb (iter_fields hit')) hxi hi (pv := .int v) ⟨t, rfl⟩ no_ref_int fun s₂ F₂ _ => ?_
    refine hQ v e s₂ (FR.less F₂ F.top hwb (iter_fields hit')) ?_
    obtain ⟨o, ho, r⟩ := hit'
    exact ⟨o, F₂.keep I o (by rw [moreKept_in (List.mem_singleton.mpr rfl)]; exact ho), r⟩
end

def vmore (v b : Int) : List Int → Option (Int × List Int)
  | [] => if Builtin.bitAnd b 64 = 0 then some (v, []) else none
  | y :: r => if Builtin.bitAnd b 64 = 0 then some (v, y :: r) else if v.natAbs < 2 ^ 64 then vmore (Builtin.bitOr (v * 2 ^ 6) (Builtin.bitAnd y 63)) y r else none
def varint : List Int → Option (Int × List Int)
  | [] => none
  | x :: r => vmore (Builtin.bitAnd x 63) x r

theorem vmore_len : ∀ (r : List Int) (v b a : Int) (q : List Int), vmore v b r = some (a, q) → q.length ≤ r.length
  | [], v, b, a, q, h => by
    unfold vmore at h
    split at h <;> cases h
    exact Nat.le_refl _
  | y :: r, v, b, a, q, h => by
    unfold vmore at h
    split at h
    · cases h; exact Nat.le_refl _
    · split at h
      · exact Nat.le_succ_of_le (vmore_len r _ _ _ _ h)
      · cases h

section
variable {prog : Program} {w : World} {n : Nat} {A : Around} {E : Value → Shared → Prop} {env : Env} {b : Kept} {s0 s : Shared} {nm : Str} {a : Arguments} {bd : List Stmt} {d : List Expr} {r : Option Expr} {tp : List TypeParam} {sc : Scope} {ts : Option Scope} {bi : Str} {ps : Pos}

theorem pv_walk (h : pw.main.body[10]? = some (.FunctionDef nm a bd d r tp sc ts bi ps)) {I l : Addr} {vs : List Value} {xs : List Int} {k : Nat} {Q : Flow → Shared → Prop} (he : EnvIs sc env) (hA : AOk A n)
    (F : FrC ⟨sc, ["b", "val"], [0, 1], [("iterator", I)]⟩ env b s0 s [none, none]) (hb : b I = none) (hl : ListIn b l vs) (hv : IntsV vs xs) (hit : s.heap.IsListIter I l k)
    (hQ : ∀ val rest, varint (xs.drop k) = some (val, rest) → ∀ s' t ρ', FrC ⟨sc, ["b", "val"], [0, 1], [("iterator", I)]⟩ env b s0 s' ρ' → s'.heap.IsListIter I l (xs.length - rest.length) → Q (.ret (.int val t)) s')
    (hE : xs.length ≤ k → ∀ h' e, EndExc I s.heap h' e → E (.ref e) { s with heap := h' })
    (hdef : xs.length ≤ k ∨ ∃ r, varint (xs.drop k) = some r) : wpAny (model prog w) A (execs bd env) Q E s := by
  cases h
  refine wpAny_execs_cons (nextAssign (C := ⟨_, ["b", "val"], [0, 1], [("iterator", I)]⟩) 0 rfl (.head _) List.mem_cons_self rfl he hA F hb hl hv hit (fun v hxk s₁ F₁ hit₁ => ?_) fun hn => hE (List.getElem?_eq_none_iff.mp hn))
  have hlt : k < xs.length := (List.getElem?_eq_some_iff.mp hxk).1
  have hdrop : xs.drop k = v :: xs.drop (k + 1) := by
    rw [List.drop_eq_getElem_cons hlt]
    rw [List.getElem?_eq_getElem hlt] at hxk
    cases hxk; rfl
  rcases hdef with h | ⟨⟨val, rest⟩, hval⟩
  · omega
  rw [hdrop] at hval hQ
  refine wpAny_execs_cons (keepIter1 (g := pAssign 1 (xBin .BitAnd (xVar 0) (xInt 63))) (EvS.assign 1 rfl (.tail _ (.head _)) (EvX.bin (EvX.var 0 rfl) EvX.cint)) he hA F₁ hb hit₁ rfl fun s₂ F₂ hit₂ => ?_)
  refine wpAny_execs_cons (wpAny_While (codeAny_whileLoop (fun m s' => ∃ bb vv rst k', m = rst.length ∧ xs.drop k' = rst ∧ k' ≤ xs.length ∧ vmore vv bb rst = some (val, rest) ∧ FrC ⟨_, ["b", "val"], [0, 1], [("iterator", I)]⟩ env b s0 s' [some (.int bb), some (.int vv)] ∧ s'.heap.IsListIter I l k') (fun m s' hI => ?_) _
    ⟨v, Builtin.bitAnd v 63, xs.drop (k + 1), k + 1, rfl, rfl, hlt, hval, F₂, hit₂⟩))
  obtain ⟨bb, vv, rst, k', rfl, hrst, hk', hvm, F₃, hit₃⟩ := hI
  refine EvT.use (n := n) (f := tPlain (xBin .BitAnd (xVar 0) (xInt 64))) (k := Builtin.bitAnd bb 64 != 0) ?_ he hA F₃ rfl fun s₄ k₄ => ?_
  · exact EvT.plain (EvX.bin (EvX.var 0 rfl) EvX.cint)
  have F₄ := F₃.keeps k₄
  have hit₄ : s₄.heap.IsListIter I l k' := let ⟨o, ho, q⟩ := hit₃; ⟨o, Keeps.get k₄ ho, q⟩
  by_cases hz : Builtin.bitAnd bb 64 = 0
  · rw [show (Builtin.bitAnd bb 64 != 0) = false by simp [hz]]
    simp only [Bool.false_eq_true, if_false]
    have hvr : vv = val ∧ rst = rest := by
      cases rst with
      | nil => unfold vmore at hvm; rw [if_pos hz] at hvm; cases hvm; exact ⟨rfl, rfl⟩
      | cons y q => unfold vmore at hvm; rw [if_pos hz] at hvm; cases hvm; exact ⟨rfl, rfl⟩
    obtain ⟨rfl, rfl⟩ := hvr
    refine wpAny_execs_nil ?_
    show wpAny _ _ (execs _ env) _ _ _
    obtain ⟨u, H, R, _⟩ := F₄.vals 1 "val" (.int vv) rfl rfl
    obtain ⟨t, rfl⟩ := R
    refine wpAny_execs_cons (wpAny_Return_some (wpAny_Name (load_holds he H ?_) (by decide)))
    refine hQ _ _ hval s₄ t _ F₄ ?_
    have : rst.length = xs.length - k' := by rw [← hrst, List.length_drop]
    rw [this, show xs.length - (xs.length - k') = k' by omega]
    exact hit₄
  · rw [show (Builtin.bitAnd bb 64 != 0) = true by simp [hz]]
    simp only [if_true]
    cases rst with
    | nil => unfold vmore at hvm; rw [if_neg hz] at hvm; cases hvm
    | cons y q =>
      unfold vmore at hvm
      rw [if_neg hz] at hvm
      by_cases hbig : vv.natAbs < 2 ^ 64
      · rw [if_pos hbig] at hvm
        have hy : xs[k']? = some y := by
          have := congrArg (·[0]?) hrst
          simpa [List.getElem?_drop] using this
        have hlt' : k' < xs.length := (List.getElem?_eq_some_iff.mp hy).1
        refine wpAny_execs_cons (keepIter1 (g := pAug 1 .LShift (xInt 6)) (EvS.aug 1 rfl (.tail _ (.head _)) EvX.cint) he hA F₄ hb hit₄ (ρ' := [some (.int bb), some (.int (vv * 2 ^ 6))]) ?_ fun s₅ F₅ hit₅ => ?_)
        · have e : pyAug .LShift (.int vv) (.int 6) = some (.int (vv * 2 ^ 6)) := by
            show (if 0 ≤ (6 : Int) ∧ (6 : Int) ≤ 1000 ∧ vv.natAbs < 2 ^ 64 then some (PV.int (vv * 2 ^ (6 : Int).toNat)) else none) = _
            rw [if_pos ⟨by decide, by decide, hbig⟩]; rfl
          show (pyAug .LShift (.int vv) (.int 6)).map _ = _
          rw [e]; rfl
        refine wpAny_execs_cons (nextAssign (C := ⟨_, ["b", "val"], [0, 1], [("iterator", I)]⟩) 0 rfl (.head _) List.mem_cons_self rfl he hA F₅ hb hl hv hit₅ (fun v' hxk' s₆ F₆ hit₆ => ?_) fun hn => by rw [hy] at hn; cases hn)
        rw [hy] at hxk'; cases hxk'
        refine wpAny_execs_cons (keepIter1 (g := pAug 1 .BitOr (xBin .BitAnd (xVar 0) (xInt 63))) (EvS.aug 1 rfl (.tail _ (.head _)) (EvX.bin (EvX.var 0 rfl) EvX.cint)) he hA F₆ hb hit₆ (ρ' := [some (.int y), some (.int (Builtin.bitOr (vv * 2 ^ 6) (Builtin.bitAnd y 63)))]) rfl fun s₇ F₇ hit₇ => ?_)
        refine wpAny_execs_nil ⟨q.length, Nat.lt_succ_self _, y, _, q, k' + 1, rfl, ?_, hlt', hvm, F₇, hit₇⟩
        have := List.drop_eq_getElem_cons hlt'
        rw [hrst] at this
        exact (List.cons.inj this).2.symm
      · rw [if_neg hbig] at hvm; cases hvm
end
end Mine
end PartFw20

/- part Fw21 -/
section PartFw21
open PySem PySem.W PyProof.Rows PySem.SeqAt
set_option maxRecDepth 100000
namespace Mine

section
variable {prog : Program} {w : World} {n : Nat} {A : Around} {s : Shared} {nm : Str} {a : Arguments} {bd : List Stmt} {d : List Expr} {r : Option Expr} {tp : List TypeParam} {sc : Scope} {ts : Option Scope} {bi : Str} {ps : Pos} {pm code doc : Value}

theorem same_shared {s s' : Shared} (h1 : s'.gens = s.gens) (h2 : s'.os = s.os) (h3 : s'.drawn = s.drawn) : s' = { s with heap := s'.heap, toks := s'.toks } := by
  cases s; cases s'; simp only at h1 h2 h3; subst h1 h2 h3; rfl

theorem pv_ok {outer : List Env} {base : Heap} {I l : Addr} {vs : List Value} {xs : List Int} {k : Nat} {R : Result → Shared → Prop} {f : Addr} {o : Obj}
    (h : pw.main.body[10]? = some (.FunctionDef nm a bd d r tp sc ts bi ps)) (hA : AOk A (n + 1)) (hfr : A.frames = some outer)
    (hT : ∃ hT, TP hT ∧ (∀ a o, hT.get? a = some o → s.heap.get? a = some o) ∧ hT.get? I = none) (hbase : base.StaysIn s.heap) (hbI : base.get? I = none) (hfun : s.heap.FunFrames base outer)
    (ho : s.heap.get? f = some o) (hd : o.data = .func (Calls.docDef nm a bd sc pm code doc)) (hcd : s.heap.CodeRec code nm)
    (hit : s.heap.IsListIter I l k) (hl : s.heap.IsList l vs.toArray) (hlI : l ≠ I) (hv : IntsV vs xs)
    (hdef : xs.length ≤ k ∨ ∃ r, varint (xs.drop k) = some r)
    (hQ : ∀ val rest, varint (xs.drop k) = some (val, rest) → ∀ s' t, ButL I s s' → s'.heap.IsListIter I l (xs.length - rest.length) → R (.ok (.ret (.int val t))) s')
    (hE : xs.length ≤ k → ∀ s' e a0, (∃ h' tk, s' = { s with heap := h', toks := tk }) → Heap.FlyingW base outer e (.type "StopIteration") a0 s'.heap → s.heap.UpToSlots s'.heap → R (.error (.ref e)) s') :
    codeAny (model prog w) A (.call (.ref f) ⟨[.ref I], []⟩) R s := by
  obtain ⟨hT, hT1, hT2, hT3⟩ := hT
  have hTs : TP s.heap := hT1.keeps hT2
  have k1 : sc.names.lookup ("iterator" : Str) = some .local := by cases h; rfl
  have k2 : sc.names.lookup ("b" : Str) = some .local := by cases h; rfl
  have k3 : sc.names.lookup ("val" : Str) = some .local := by cases h; rfl
  have k4 : sc.kind = .function := by cases h; rfl
  have k5 : sc.isCoroutine = false := by cases h; rfl
  have k6 : sc.isGenerator = false := by cases h; rfl
  have k7 : bindArgs (Calls.docDef nm a bd sc pm code doc) ⟨[.ref I], []⟩ = pure [(("iterator" : Str), Value.ref I)] := by cases h; rfl
  refine codeAny_call_cells (fd := Calls.docDef nm a bd sc pm code doc) (binds := [("iterator", .ref I)]) (Nat.lt_of_lt_of_le (by have := hA.2.1; omega : A.depth < 900) (by decide)) ho hd hTs.nolimit hcd rfl k7 rfl (fun x hx => ?_) (fun s₁ X => ?_) k5 k6 k4
  · rw [List.mem_singleton.mp hx]; exact .inl k1
  · generalize hb : (fun c => if c = I then none else s.heap.get? c : Kept) = b
    have hbI' : b I = none := by rw [← hb]; exact if_pos rfl
    have hbo : ∀ c, c ≠ I → b c = s.heap.get? c := fun c hc => by rw [← hb]; exact if_neg hc
    have hbs : ∀ c o, b c = some o → s.heap.get? c = some o := fun c o e => by
      by_cases hc : c = I
      · subst hc; rw [hbI'] at e; cases e
      · rw [hbo c hc] at e; exact e
    have hI : s.heap.get? I ≠ none := fun q => by obtain ⟨o, ho, _⟩ := hit; rw [ho] at q; cases q
    have hL : b s.heap.objs.size = none := by
      cases e : b s.heap.objs.size with
      | none => rfl
      | some o => have := hbs _ _ e; rw [fresh_size (Nat.le_refl _)] at this; cases this
    have hsh : s₁.gens = s.gens ∧ s₁.os = s.os ∧ s₁.drawn = s.drawn := by obtain ⟨h, tk, rfl⟩ := X.toInCall.same; exact ⟨rfl, rfl, rfl⟩
    have F : FrC ⟨sc, ["b", "val"], [0, 1], [("iterator", I)]⟩ (callEnvC (Calls.docDef nm a bd sc pm code doc) s.heap.objs.size f) b s s₁ [none, none] := by
      refine ⟨⟨hT, hT1, fun c o e => ?_⟩, fun c o e => X.toInCall.keep c o (hbs c o e), hsh.1, hsh.2.1, hsh.2.2, rfl, (by decide : (["b", "val"] : List Str).Nodup), fun i x hx => ?_, hL, fun x c e => ?_, fun x y c h1 h2 => name_of_addr X.apart (mem_of_lookup h1) (mem_of_lookup h2), ⟨_, X.toInCall.ns⟩, fun x c e => ⟨_, X.cell x c e⟩, fun i x pv hx hp => ?_, fun i j x y pv pw a hi hj hx hy hp hq H1 H2 => ?_, fun x a hm => ?_⟩
      · rw [hbo c fun q => by rw [q, hT3] at e; cases e]; exact hT2 c o e
      · match i, hx with
        | 0, hx => cases hx; exact .inl k2
        | 1, hx => cases hx; exact .inl k3
      · have := X.above x c (mem_of_lookup e)
        cases q : b c with
        | none => rfl
        | some o => have h2 := hbs _ _ q; rw [fresh_size (Nat.le_of_lt this)] at h2; cases h2
      · match i, hp with
        | 0, hp => cases hp
        | 1, hp => cases hp
      · match i, hp with
        | 0, hp => cases hp
        | 1, hp => cases hp
      · rw [List.mem_singleton] at hm
        cases hm
        refine ⟨(by decide : ("iterator" : Str) ∉ (["b", "val"] : List Str)), .inl ⟨k1, _, X.toInCall.ns, ?_⟩⟩
        exact bindL_get (x := "iterator") k1 [("iterator", .ref I)] _ (by simp) List.mem_cons_self
    have hA' : AOk (A.deeper (callEnvC (Calls.docDef nm a bd sc pm code doc) s.heap.objs.size f)) n := by
      obtain ⟨h1, h2, h3⟩ := hA
      refine ⟨h1, ?_, ?_⟩
      · show A.depth + 1 + n ≤ 900; omega
      · show A.units + 3 + 3 * n ≤ 9000; omega
    have hit₁ : s₁.heap.IsListIter I l k := let ⟨o, ho, q⟩ := hit; ⟨o, X.toInCall.keep _ _ ho, q⟩
    have hlb : ListIn b l vs := let ⟨o, ho, hc, n, hd⟩ := hl; ⟨o, n, by rw [hbo l hlI]; exact ho, hc, hd⟩
    refine pv_walk h ⟨rfl, k4, rfl, rfl⟩ hA' F hbI' hlb hv hit₁ (fun val rest hval s' t ρ' F' hit' => ?_) (fun hle h' e hx => ?_) hdef
    · refine hQ val rest hval s' t ⟨s'.heap, s'.toks, same_shared F'.gens F'.os F'.drawn, fun c hc o e => F'.keep c o (by rw [hbo c hc]; exact e)⟩ hit'
    · obtain ⟨ob, t, he, hcl, hdt⟩ := hx.there
      have hnI : ∀ (c : Addr) o, s.heap.get? c = some o → (∀ vs, o.data ≠ .fields vs) → c ≠ I := fun c o e hn q => by
        subst q
        obtain ⟨o', ho', _, hdI⟩ := hit
        rw [e] at ho'; cases ho'; exact hn _ hdI
      have hkb : base.StaysIn h' := fun c o e => hx.ext c o (fun q => by rw [q, hbI] at e; cases e) (X.toInCall.keep c o (hbase c o e))
      have hfun' : h'.FunFrames base (callEnvC (Calls.docDef nm a bd sc pm code doc) s.heap.objs.size f :: outer) := by
        refine Heap.FunFrames.of_keeps (h := s₁.heap) (fun c o e hn => ⟨o, hx.ext c o (fun q => ?_) e, rfl⟩) (Heap.FunFrames.cons (by show sc.kind ≠ .module; rw [k4]; decide) rfl X.toInCall.ns ?_ (hfun.of_keeps fun c o e _ => ⟨o, X.toInCall.keep c o e, rfl⟩))
        · subst q
          obtain ⟨o', ho', _, hdI⟩ := hit₁
          rw [e] at ho'; cases ho'; exact hn _ hdI
        · cases q : base.get? s.heap.objs.size with
          | none => rfl
          | some o => have := hbase _ _ q; rw [fresh_size (Nat.le_refl _)] at this; cases this
      have hen : base.get? e = none := by
        cases q : base.get? e with
        | none => rfl
        | some o => have := X.toInCall.keep _ _ (hbase _ _ q); rw [hx.new] at this; cases this
      refine wpAny_leaving_firstW (a0 := t) (Around.frames_deeper hfr) hfun' rfl he hkb hen hdt rfl rfl fun h'' hL => ?_
      obtain ⟨k1, ⟨_, _, k2⟩, k3, k4⟩ := hL
      rw [hcl] at k3
      refine hE hle _ e t ?_ ⟨k1, hen, k2, k3⟩ ?_
      · obtain ⟨hh, tk, rfl⟩ := X.toInCall.same
        exact ⟨h'', tk, rfl⟩
      · intro c o e' hn
        exact k4 c o (hx.ext c o (hnI c o e' hn) (X.toInCall.keep c o e')) hn
end
end Mine
end PartFw21

/- part Fw22 -/
section PartFw22
open PySem PySem.W PyProof.Rows PySem.SeqAt
set_option maxRecDepth 100000
namespace Mine

theorem stop_base : isSubtype (.type "StopIteration") (.type "BaseException") = pure true := by rw [isSubtype_type]; kernel_rfl
theorem stop_meta : isSubtype (.type ((Manifest.find? "StopIteration").elim "type" fun x => x.metatype)) (.type "tuple") = pure false := by rw [isSubtype_type]; kernel_rfl

theorem cell_slots {h h' : Heap} {c : Addr} {ov : Option Value} (hu : h.UpToSlots h') (x : h.IsCell c ov) : h'.IsCell c ov := by
  obtain ⟨o, ho, hd⟩ := x
  obtain ⟨sl, hs⟩ := hu c o ho fun vs q => by rw [hd] at q; cases q
  exact ⟨_, hs, hd⟩
theorem plain_slots {h h' : Heap} {a : Addr} {items : Array Value} (hu : h.UpToSlots h') (x : PlainL h a items) : PlainL h' a items := by
  obtain ⟨o, n, ho, hc, hdn, hd⟩ := x
  obtain ⟨sl, hs⟩ := hu a o ho fun vs q => by rw [hd] at q; cases q
  exact ⟨_, n, hs, hc, hdn, hd⟩
theorem VR.slots {h h' : Heap} {v : Value} {p : PV} (hu : h.UpToSlots h') (x : VR h v p) : VR h' v p := by
  cases p with
  | li xs => obtain ⟨a, vs, rfl, hl, hi⟩ := x; exact ⟨a, vs, rfl, plain_slots hu hl, hi⟩
  | ls xs => obtain ⟨a, vs, rfl, hl, hi⟩ := x; exact ⟨a, vs, rfl, plain_slots hu hl, hi⟩
  | _ => exact x
theorem Holds.slots {h h' : Heap} {env : Env} {x : Str} {v : Value} (hu : h.UpToSlots h') (H : Holds h env x v) : Holds h' env x v := by
  rcases H with ⟨k, m, hn, e⟩ | ⟨k, c, hc, hv⟩
  · exact .inl ⟨k, m, hu.ns hn, e⟩
  · exact .inr ⟨k, c, hc, cell_slots hu hv⟩

theorem FR.slots {C : Cx} {env : Env} {b : Kept} {s0 s : Shared} {ρ : REnv} {h' : Heap} {tk : Nat} (F : FrC C env b s0 s ρ) (hb : ∀ a o, b a = some o → h'.get? a = some o) (hu : s.heap.UpToSlots h') : FrC C env b s0 { s with heap := h', toks := tk } ρ := by
  refine ⟨F.top, hb, F.gens, F.os, F.drawn, F.len, F.nodup, F.slot, F.locB, F.cellB, F.cellsApart, let ⟨m, hm⟩ := F.ns; ⟨m, hu.ns hm⟩, fun x c e => let ⟨ov, ho⟩ := F.cells x c e; ⟨ov, cell_slots hu ho⟩, fun i x pv hx hp => ?_, fun i j x y pv pw a hio hjo hx hy hp hq H1 H2 => ?_, fun x a hm => ⟨(F.ext x a hm).1, (F.ext x a hm).2.slots hu⟩⟩
  · obtain ⟨v, H, R, o⟩ := F.vals i x pv hx hp
    exact ⟨v, H.slots hu, R.slots hu, o⟩
  · obtain ⟨v, H, R, o⟩ := F.vals i x pv hx hp
    obtain ⟨v', H', R', o'⟩ := F.vals j y pw hy hq
    have e1 := (H.slots hu).same H1
    have e2 := (H'.slots hu).same H2
    subst e1; subst e2
    exact F.apart i j x y pv pw a hio hjo hx hy hp hq H H'

section
variable {M : Model} {A : Around} {E : Value → Shared → Prop} {env : Env} {b : Kept} {s0 s : Shared} {ρ : REnv} {sc : Scope} {vars : List Str} {own : List Nat}

/-- another local name is bound to an object -/
theorem FR.storeEx {x : Str} {I : Addr} {Q : Unit → Shared → Prop} (he : EnvIs sc env) (F : FrC ⟨sc, vars, own, []⟩ env b s0 s ρ) (hx : x ∉ vars) (hk : sc.names.lookup x = some .local)
    (h : ∀ h' tk, FrC ⟨sc, vars, own, [(x, I)]⟩ env b s0 { s with heap := h', toks := tk } ρ → (∀ c, c ≠ env.locals → ∀ o, s.heap.get? c = some o → h'.get? c = some o) → Q () { s with heap := h', toks := tk }) : wpAny M A (storeName env x (.ref I)) Q E s := by
  have hkind : env.scope.kind = .function := by rw [he.scope]; exact he.kind
  obtain ⟨m, hn⟩ := F.ns
  refine wpAny_storeName_local ((he.kindOf x).trans hk) hn (fun h' hn' hs => h _ _ ?_ fun c hc o e => (hs.2 c hc).trans e) (by rw [hkind]; rfl)
  have other : ∀ {y u}, y ≠ x → Holds s.heap env y u → Holds h' env y u := fun {y u} hyx H => by
    rcases H with ⟨k, m', hm, e⟩ | ⟨k, c, hc, hv⟩
    · have := Ns.same hn hm
      subst this
      exact .inl ⟨k, _, hn', by simp only [hyx, if_false]; exact e⟩
    · exact .inr ⟨k, c, hc, hv.sameBut hs (cell_ne_ns hv hn)⟩
  have hV : ∀ {v : Value} {p : PV}, VR s.heap v p → VR h' v p := fun {v p} R => R.at fun a e o ho => by
    subst e
    obtain ⟨items, hl⟩ := R.ref
    exact (hs.2 a (list_ne_ns hl hn)).trans ho
  have hne : ∀ {i : Nat} {y : Str}, vars[i]? = some y → y ≠ x := fun h q => hx (q ▸ List.mem_of_getElem? h)
  refine ⟨F.top, fun a o e => (hs.2 a (fun q => by rw [q, F.locB] at e; cases e)).trans (F.keep a o e), F.gens, F.os, F.drawn, F.len, F.nodup, F.slot, F.locB, F.cellB, F.cellsApart, ⟨_, hn'⟩, fun y c e => let ⟨ov, ho⟩ := F.cells y c e; ⟨ov, ho.sameBut hs (cell_ne_ns ho hn)⟩, fun i y pv hy hp => ?_, fun i j y z pv pw a hio hjo hy hz hp hq H1 H2 => ?_, fun y a hm => ?_⟩
  · obtain ⟨v, H, R, o⟩ := F.vals i y pv hy hp
    exact ⟨v, other (hne hy) H, hV R, o⟩
  · obtain ⟨v, H, R, o⟩ := F.vals i y pv hy hp
    obtain ⟨v', H', R', o'⟩ := F.vals j z pw hz hq
    have e1 := (other (hne hy) H).same H1
    have e2 := (other (hne hz) H').same H2
    subst e1; subst e2
    exact F.apart i j y z pv pw a hio hjo hy hz hp hq H H'
  · rw [List.mem_singleton] at hm
    cases hm
    exact ⟨hx, .inl ⟨(he.kindOf x).trans hk, _, hn', by simp⟩⟩
end

section
variable {prog : Program} {w : World} {A : Around} {E : Value → Shared → Prop} {s : Shared}
theorem iter_call {l : Addr} {items : Array Value} {Q : Value → Shared → Prop} (hl : s.heap.IsList l items)
    (hQ : ∀ h', h'.IsListIter s.heap.objs.size l 0 → (∀ b o, s.heap.get? b = some o → h'.get? b = some o) → Q (.ref s.heap.objs.size) { s with heap := h' }) : wpAny (model prog w) A (call (.builtin "iter") [.ref l]) Q E s := by
  refine Calls.call_function_entry (by decide +kernel) (by decide +kernel) entry_iter (args_iter _) ?_
  unfold Builtin.«iter»
  refine wpAny_bind (m := someArgs "iter" 1 2 _) (wpAny_of_eq (a := [Value.ref l]) (by first | rfl | kernel_rfl!) ?_)
  show wpAny _ _ (pyIter (.ref l) >>= _) _ _ _
  refine wpAny_bind (wpAny_pyIter_list hl ?_)
  exact wpAny_pure ⟨_, rfl, hQ _ ⟨_, Heap.get?_push_size _ rfl, rfl, rfl⟩ fun b o e => Heap.get?_push_of_some _ e⟩
end

def readN : Nat → List Int → Option (List Int)
  | 0, _ => none
  | _ + 1, [] => some []
  | k + 1, x :: r => match varint (x :: r) with
    | some (v, rest) => (readN k rest).map (v :: ·)
    | none => none
end Mine
end PartFw22

/- part Fw23 -/
section PartFw23
open PySem PySem.W PyProof.Rows PySem.SeqAt
set_option maxRecDepth 100000
namespace Mine

section
variable {M : Model} {A : Around} {E : Value → Shared → Prop} {s : Shared}

theorem flight_same {base : Heap} {l : List Env} {e L : Addr} {cls a0 : Value} {Q : Unit → Shared → Prop} (hh : Heap.HeldW base l e cls a0 L s.heap)
    (h : ∀ h', Heap.HeldW base l e cls a0 L h' → s.heap.UpToSlots h' → Q () { s with heap := h' }) : wpAny M A (setFlight (.ref e) (some L)) Q E s := by
  obtain ⟨hkb, hen, hl, oe, vs, T, oT, ts, he, hcls, hd, h1, hnT, hTe, hT, hdT, h3⟩ := hh
  have hsz3 : 3 < ts.size := (Array.getElem?_eq_some_iff.mp h3).1
  have other : ∀ b, b ≠ T → (s.heap.update T (Obj.mapFields (·.setIfInBounds 3 ((some L : Option Addr).elim Value.none fun f => rawInt f)))).get? b = s.heap.get? b :=
    fun b hb => Heap.get?_update_other _ _ (Ne.symm hb)
  have noRecord : ∀ b o, s.heap.get? b = some o → (∀ vs, o.data ≠ .fields vs) → b ≠ T := fun b o hb hnf q => by
    rw [q, hT] at hb; injection hb with hb; subst hb; exact hnf ts hdT
  unfold setFlight
  refine wpAny_bind (wpAny_field he hd h1 ?_)
  rw [if_pos (show (Value.ref T != Value.none) = true from by simp)]
  refine wpAny_setField hT hdT hsz3 (h _ ⟨fun b o hbo => (other b fun q => by rw [q, hnT] at hbo; cases hbo).trans (hkb b o hbo), hen,
    hl.of_keeps fun b o hb hnf => ⟨o, (other b (noRecord b o hb hnf)).trans hb, rfl⟩, ?_⟩ fun b o hb hnf => ⟨o.slots, (other b (noRecord b o hb hnf)).trans hb⟩)
  exact ⟨oe, vs, T, _, _, (other e (Ne.symm hTe)).trans he, hcls, hd, h1, hnT, hTe, Heap.get?_update_self _ hT (Obj.isFreed_of_fields (Obj.data_mapFields hdT _)), Obj.data_mapFields hdT _, by simp [hsz3]⟩

theorem came_back {base : Heap} {env : Env} {l : List Env} {e L : Addr} {cls a0 : Value} (hf : env.frame = some L) (hh : Heap.HeldW base l e cls a0 L s.heap)
    (h : ∀ h', Heap.HeldW base l e cls a0 L h' → s.heap.UpToSlots h' → E (.ref e) { s with heap := h' }) : cameBackBy M A env E (.ref e) s := by
  obtain ⟨hkb, hen, hl, oe, vs, T, oT, ts, he, hcls, hd, h1, r⟩ := id hh
  show wpAny M A (field (.ref e) 1 >>= _) _ _ s
  refine wpAny_bind (wpAny_field he hd h1 ?_)
  rw [if_neg (show ¬ ((Value.ref T == Value.none) = true) from by simp), hf]
  show wpAny M A (setFlight (.ref e) (some L)) _ _ s
  exact flight_same hh h
end

section
variable {prog : Program} {w : World} {A : Around} {E : Value → Shared → Prop} {env : Env} {s : Shared} {sc : Scope}

/-- what is caught by its own clause, with a name of ours handed back -/
theorem catch_ret {base : Heap} {outer : List Env} {e L : Addr} {a0 : Value} {x : Str} {v : Value} {pv : PV} {px p1 p2 p3 : Pos} {rest : List ExceptHandler} {Q : Flow → Shared → Prop} (he : EnvIs sc env)
    (hf : env.frame = some L) (hT : ∃ hT, TP hT ∧ ∀ a o, hT.get? a = some o → base.get? a = some o) (hx : sc.names.lookup ("StopIteration" : Str) = some .globalImplicit) (hh : Heap.HeldW base (env :: outer) e (.type "StopIteration") a0 L s.heap)
    (H : Holds s.heap env x v) (R : VR s.heap v pv) (hdx : (x == ("__debug__" : Str)) = false)
    (hQ : ∀ h', base.StaysIn h' → s.heap.UpToSlots h' → Holds h' env x v → VR h' v pv → Q (.ret v) { s with heap := h' }) :
    wpAny (model prog w) A (noteFrame (.ref e) env) (fun _ s₂ => wpAny (model prog w) A (setFlight (.ref e) none) (fun _ s₃ =>
      wpAny (model prog w) A (handleBy (.ref e) env (.ExceptHandler (some (.Name "StopIteration" p1)) none [.Return (some (.Name x px)) p2] p3 :: rest)) Q (fun _ _ => False) s₃) (fun _ _ => False) s₂) (fun _ _ => False) s := by
  refine wpAny_noteFrame_againW hf hh.2.2.2 (wpAny_landsW hh fun h₁ hfl hu => ?_)
  obtain ⟨f1, f2, f3, f4⟩ := hfl
  have htp : TP h₁ := let ⟨hT, h1, h2⟩ := hT; h1.keeps fun a o q => f1 a o (h2 a o q)
  refine wpAny_handleBy_builtin (X := "StopIteration") (T := "StopIteration") (b := true) stop_base stop_meta isSubtype_stop (name_builtin (C := ⟨sc, [], [], []⟩) (v := .type "StopIteration") he hx htp (by decide +kernel) ?_)
  refine ⟨rfl, ?_, ?_⟩
  · obtain ⟨ob, hob, hc⟩ := f4.at.there
    exact ⟨ob, hob, hc⟩
  · rw [if_pos rfl]
    refine wpAny_setFlight_noneW (s := { s with heap := h₁ }) f1 f3 f4.at fun h₂ g1 g2 g3 g4 => ?_
    have hu₂ : s.heap.UpToSlots h₂ := hu.trans fun b o hb hn => ⟨o.slots, g4 b o hb hn⟩
    exact wpAny_execs_cons (wpAny_Return_some (wpAny_Name (load_holds he (H.slots hu₂) (hQ h₂ g1 hu₂ (H.slots hu₂) (R.slots hu₂))) hdx))
end
end Mine
end PartFw23

/- part Fw24 -/
section PartFw24
open PySem PySem.W PyProof.Rows PySem.SeqAt
set_option maxRecDepth 100000
namespace Mine

section
variable {prog : Program} {w : World} {n : Nat} {A : Around} {E : Value → Shared → Prop} {env : Env} {b : Kept} {s0 s : Shared} {nm : Str} {a : Arguments} {bd : List Stmt} {d : List Expr} {r : Option Expr} {tp : List TypeParam} {sc : Scope} {ts : Option Scope} {bi : Str} {ps : Pos}

/-- one turn: told.append(_parse_varint(tape)) -/
theorem turn_walk {outer : List Env} {base : Heap} {I l : Addr} {vs : List Value} {xs told : List Int} {k : Nat} {p1 p2 p3 q1 q2 q3 epos : Pos} {Q : Flow → Shared → Prop}
    (hx : sc.names.lookup ("_parse_varint" : Str) = some .globalImplicit)
    (he : EnvIs sc env) (hf : env.frame = some env.locals) (hfr : A.frames = some (env :: outer)) (hA : AOk A (n + 1))
    (hT : ∃ hT, TP hT ∧ ∀ a o, hT.get? a = some o → base.get? a = some o) (hbb : ∀ a o, base.get? a = some o → b a = some o) (hfunb : ∀ h' : Heap, (∀ a o, b a = some o → h'.get? a = some o) → h'.FunFrames base outer)
    (F : FrC ⟨sc, ["octets", "told"], [1], [("tape", I)]⟩ env b s0 s [some (.li xs), some (.li told)]) (hbI : b I = none) (hl : ListIn b l vs) (hv : IntsV vs xs) (hit : s.heap.IsListIter I l k)
    (hdef : xs.length ≤ k ∨ ∃ r, varint (xs.drop k) = some r) (hlen : told.length ≤ 100)
    (hQ : ∀ val rest, varint (xs.drop k) = some (val, rest) → ∀ s', FrC ⟨sc, ["octets", "told"], [1], [("tape", I)]⟩ env b s0 s' [some (.li xs), some (.li (told ++ [val]))] → s'.heap.IsListIter I l (xs.length - rest.length) → Q .next s')
    (hE : xs.length ≤ k → ∀ s₁ s' e a0, FrC ⟨sc, ["octets", "told"], [1], [("tape", I)]⟩ env b s0 s₁ [some (.li xs), some (.li told)] → (∃ h' tk, s' = { s₁ with heap := h', toks := tk }) → Heap.FlyingW base (env :: outer) e (.type "StopIteration") a0 s'.heap → s₁.heap.UpToSlots s'.heap → E (.ref e) s')
    (hline : (p2.endLine == q3.line) = true := by rfl)
    (hsw : ∀ env, swapsWith (.Call (.Attribute (.Name "told" p1) "append" p2) [.Call (.Name "_parse_varint" p3) [.Name "tape" q1] [] q2] [] q3) none epos.line env = pure false := by intro _; rfl)
    (hbase : ∀ env, attributeBase (.Name "told" p1) "append" env (eval (.Name "told" p1) env) = eval (.Name "told" p1) env := by intro _; rfl)
    (hfew : ∀ env, ((backTo q3 (starEach [.Call (.Name "_parse_varint" p3) [.Name "tape" q1] [] q2] env)).all (fun x => !x.1) && (backToKw q3 (keywordEach [] env)).all (fun x => x.1.isSome)
      && decide (([.Call (.Name "_parse_varint" p3) [.Name "tape" q1] [] q2] : List Expr).length + ([] : List Keyword).length + (if ([] : List Keyword).isEmpty then 0 else 1) < 30)) = true := by intro _; rfl)
    (hse : ∀ env, starEach [.Call (.Name "_parse_varint" p3) [.Name "tape" q1] [] q2] env = (false, eval (.Call (.Name "_parse_varint" p3) [.Name "tape" q1] [] q2) env) :: starEach [] env := by intro _; rfl)
    (hany : ∀ env, (backTo q3 (starEach [.Call (.Name "_parse_varint" p3) [.Name "tape" q1] [] q2] env)).any (·.1) = false := by intro _; rfl)
    (hse2 : ∀ env, starEach [.Name "tape" q1] env = (false, eval (.Name "tape" q1) env) :: starEach [] env := by intro _; rfl) :
    wpAny (model prog w) A (exec (.Expr (.Call (.Attribute (.Name "told" p1) "append" p2) [.Call (.Name "_parse_varint" p3) [.Name "tape" q1] [] q2] [] q3) epos) env) Q E s := by
  obtain ⟨v, H, R, o⟩ := F.vals 1 "told" (.li told) rfl rfl
  obtain ⟨D, us, rfl, hD, hDi⟩ := id R
  have hbD : b D = none := o.1 (.head _) D rfl
  refine wpAny_Expr_any (wpAny_Call_method (hbase env) (hfew env) hline PySem.F.plainAttrs_list PySem.F.slot_list_append PySem.F.type_list_append (wpAny_Name (load_holds he H ?_) (by decide))) (by unfold interactive; rw [he.scope, he.kind]; rfl) (hsw env)
  refine ⟨hD.isList.typeIs, fun a' q => by cases q; obtain ⟨ob, _, hob, _, hdn, _⟩ := hD; exact ⟨ob, hob, hdn⟩, Calls.callWith_builtin (hany env) (evalArgs_es (hse env) (spliced_more ?_ (hse env)))⟩
  obtain ⟨mg, mb, g1, g2, g3, _⟩ := F.tp.ns
  have hb10 : ∃ a bd d r tp sc ts bi ps, pw.main.body[10]? = some (.FunctionDef "_parse_varint" a bd d r tp sc ts bi ps) := ⟨_, _, _, _, _, _, _, _, _, rfl⟩
  obtain ⟨a', bd', d', r', tp', sc', ts', bi', ps', hb10⟩ := hb10
  obtain ⟨f, of, pm, code, doc, hmg, ho, hdat, hcd⟩ := g3 10 _ _ _ _ _ _ _ _ _ _ hb10
  refine wpAny_Call_NameR (name_global (C := ⟨sc, ["octets", "told"], [1], [("tape", I)]⟩) he hx g1 hmg ?_)
  refine Calls.callWith_function (o := of) (fd := Calls.docDef "_parse_varint" a' bd' sc' pm code doc) (evalArgs_es (hse2 env) (spliced_more (wpAny_Name (load_holds he (F.ext "tape" I List.mem_cons_self).2 ?_) (by decide)) (hse2 env)))
  refine spliced_none ⟨⟨ho, hdat⟩, wpAny_call ?_⟩
  have hbaseS : base.StaysIn s.heap := fun c o e => F.keep c o (hbb c o e)
  have hbaseI : base.get? I = none := by
    cases q : base.get? I with
    | none => rfl
    | some o => rw [hbb _ _ q] at hbI; cases hbI
  obtain ⟨m, hm⟩ := F.ns
  have hfun : s.heap.FunFrames base (env :: outer) := by
    refine Heap.FunFrames.cons (by rw [he.scope, he.kind]; decide) hf hm ?_ (hfunb _ F.keep)
    cases q : base.get? env.locals with
    | none => rfl
    | some o => have := hbb _ _ q; rw [F.locB] at this; cases this
  have hlI : l ≠ I := fun q => by obtain ⟨o, n, e, _⟩ := hl; rw [q, hbI] at e; cases e
  refine pv_ok (n := n) hb10 hA hfr ?_ hbaseS hbaseI hfun ho hdat hcd hit (hl.at F) hlI hv hdef (fun val rest hval s' t hB hit' => ?_) (fun hle s' e a0 hs' hfl hu => hE hle s s' e a0 F hs' hfl hu)
  · obtain ⟨hT, h1, h2⟩ := hT
    refine ⟨hT, h1, fun c o e => hbaseS c o (h2 c o e), ?_⟩
    cases q : hT.get? I with
    | none => rfl
    | some o => have := h2 _ _ q; rw [hbaseI] at this; cases this
  · obtain ⟨h', tk, rfl, hk⟩ := hB
    have hwb : ∀ a ∈ [I], b a = none := fun a ha => by rw [List.mem_singleton.mp ha]; exact hbI
    have F1 : FrC ⟨sc, ["octets", "told"], [1], [("tape", I)]⟩ env b s0 { s with heap := h', toks := tk } [some (.li xs), some (.li told)] := FR.iter F hwb (iter_fields hit) fun c o hc e => hk c (fun q => hc (List.mem_singleton.mpr q)) o e
    have hDI : D ≠ I := fun q => by
      obtain ⟨oI, hoI, _, hdI⟩ := hit
      obtain ⟨oD, nD, hoD, _, _, hdD⟩ := hD
      rw [q, hoI] at hoD; cases hoD; rw [hdI] at hdD; cases hdD
    have R1 : VR h' (.ref D) (.li told) := R.at fun c e o ho => by cases e; exact hk D hDI o ho
    obtain ⟨v1, H1, RR, _⟩ := F1.vals 1 "told" (.li told) rfl rfl
    refine spliced_none ?_
    refine appendOk (px := .int val) (pv := .li (told ++ [val])) R1 ⟨t, rfl⟩ (if_pos (Nat.le_trans hlen (by decide))) fun h₂ hv₂ hs₂ => ?_
    have Hold : Holds h' env "told" (.ref D) := by
      rcases H with ⟨kk, m', hm', e⟩ | ⟨kk, c, hc, hvv⟩
      · exact .inl ⟨kk, m', hm'.at' fun o e => hk _ (fun q => by
          obtain ⟨oI, hoI, _, hdI⟩ := hit
          obtain ⟨oL, es, ep, hoL, hdL, _⟩ := hm'
          rw [q, hoI] at hoL; cases hoL; rw [hdI] at hdL; cases hdL) o e, e⟩
      · refine .inr ⟨kk, c, hc, ?_⟩
        obtain ⟨oc, hoc, hdc⟩ := hvv
        exact ⟨oc, hk c (fun q => by
          obtain ⟨oI, hoI, _, hdI⟩ := hit
          rw [q, hoI] at hoc; cases hoc; rw [hdI] at hdc; cases hdc) oc hoc, hdc⟩
    refine hQ val rest hval _ (FR.mutate (tk := tk) F1 (i := 1) (pv := .li told) rfl (.head _) rfl Hold hs₂ hv₂) ?_
    obtain ⟨oI, hoI, q⟩ := hit'
    exact ⟨oI, (hs₂.2 I (Ne.symm hDI)).trans hoI, q⟩
end
end Mine
end PartFw24

/- part Fw25 -/
section PartFw25
open PySem PySem.W PyProof.Rows PySem.SeqAt
set_option maxRecDepth 100000
namespace Mine

theorem vmore_suffix : ∀ (r : List Int) (v b a : Int) (q : List Int), vmore v b r = some (a, q) → ∃ p, r = p ++ q
  | [], v, b, a, q, h => by
    unfold vmore at h
    split at h <;> cases h
    exact ⟨[], rfl⟩
  | y :: r, v, b, a, q, h => by
    unfold vmore at h
    split at h
    · cases h; exact ⟨[], rfl⟩
    · split at h
      · obtain ⟨p, hp⟩ := vmore_suffix r _ _ _ _ h
        exact ⟨y :: p, by rw [hp]; rfl⟩
      · cases h
theorem varint_rest {xs : List Int} {k : Nat} {v : Int} {rest : List Int} (h : varint (xs.drop k) = some (v, rest)) : rest = xs.drop (xs.length - rest.length) := by
  have hs : ∃ p, xs.drop k = p ++ rest := by
    cases hd : xs.drop k with
    | nil => rw [hd] at h; cases h
    | cons y q =>
      rw [hd] at h
      obtain ⟨p, hp⟩ := vmore_suffix q _ _ _ _ h
      exact ⟨y :: p, by rw [hp]; rfl⟩
  obtain ⟨p, hp⟩ := hs
  have hx : xs = (xs.take k ++ p) ++ rest := by rw [List.append_assoc, ← hp, List.take_append_drop]
  generalize xs.take k ++ p = q at hx
  subst hx
  rw [List.length_append, Nat.add_sub_cancel, List.drop_left]

section
variable {prog : Program} {w : World} {n : Nat} {A : Around} {E : Value → Shared → Prop} {env : Env} {b : Kept} {s0 s : Shared} {nm : Str} {a : Arguments} {bd : List Stmt} {d : List Expr} {r : Option Expr} {tp : List TypeParam} {sc : Scope} {ts : Option Scope} {bi : Str} {ps : Pos}

theorem rd_walk (h : pw.main.body[16]? = some (.FunctionDef nm a bd d r tp sc ts bi ps)) {outer : List Env} {base : Heap} {xs out : List Int} {Q : Flow → Shared → Prop}
    (he : EnvIs sc env) (hf : env.frame = some env.locals) (hfr : A.frames = some (env :: outer)) (hA : AOk A (n + 1))
    (hT : ∃ hT, TP hT ∧ ∀ a o, hT.get? a = some o → base.get? a = some o) (hbb : ∀ a o, base.get? a = some o → b a = some o) (hfunb : ∀ h' : Heap, (∀ a o, b a = some o → h'.get? a = some o) → h'.FunFrames base outer)
    (F : FrC ⟨sc, ["octets", "told"], [1], []⟩ env b s0 s [some (.li xs), none]) (hp : readN 9 xs = some out)
    (hQ : ∀ v s', (∃ h' tk, s' = { s0 with heap := h', toks := tk }) → base.StaysIn s'.heap → (∀ a o, b a = some o → (∀ vs, o.data ≠ .fields vs) → ∃ sl, s'.heap.get? a = some { o with slots := sl }) → VR s'.heap v (.li out) → (∀ a, v = .ref a → b a = none) → Q (.ret v) s') :
    wpAny (model prog w) A (execs bd env) Q E s := by
  have k1 : sc.names.lookup ("iter" : Str) = some .globalImplicit := by cases h; rfl
  have k2 : sc.names.lookup ("tape" : Str) = some .local := by cases h; rfl
  have k3 : sc.names.lookup ("_parse_varint" : Str) = some .globalImplicit := by cases h; rfl
  have k4 : sc.names.lookup ("len" : Str) = some .globalImplicit := by cases h; rfl
  have k5 : sc.names.lookup ("StopIteration" : Str) = some .globalImplicit := by cases h; rfl
  obtain ⟨v, H, R, o⟩ := F.vals 0 "octets" (.li xs) rfl rfl
  obtain ⟨l, vs, rfl, hlp, hv⟩ := id R
  have hlb : ListIn b l vs := by
    obtain ⟨o1, ho1⟩ := o.2 (by decide : (0 : Nat) ∉ ([1] : List Nat)) l rfl
    obtain ⟨o2, m, ho2, hc, _, hd⟩ := hlp
    have := F.keep l o1 ho1
    rw [ho2] at this; cases this
    exact ⟨_, m, ho1, hc, hd⟩
  cases h
  refine wpAny_execs_cons (wpAny_Assign_Name (wpAny_Call_NameR (name_builtin (C := ⟨_, ["octets", "told"], [1], []⟩) (v := .builtin "iter") he k1 F.tp (by decide +kernel) ?_)) rfl)
  refine Calls.callWith_builtin rfl (evalArgs_es rfl (spliced_more (wpAny_Name (load_holds he H ?_) (by decide)) rfl))
  refine spliced_none ?_
  refine iter_call hlp.isList fun h₁ hit₁ hk₁ => ?_
  have hbI : b s.heap.objs.size = none := fresh_kept F (fresh_size (Nat.le_refl _))
  generalize hI : s.heap.objs.size = I at hit₁ hbI ⊢
  have F1 := F.keeps (s' := { s with heap := h₁ }) ⟨h₁, s.toks, rfl, hk₁⟩
  refine FR.storeEx he F1 (by decide) k2 fun h₂ tk₂ F2 hk₂ => ?_
  have hit₂ : h₂.IsListIter I l 0 := by
    obtain ⟨oI, hoI, q, hdI⟩ := hit₁
    refine ⟨oI, hk₂ I (fun e => ?_) oI hoI, q, hdI⟩
    obtain ⟨m, o', es, ep, ho', hd', _⟩ := F1.ns
    rw [← e, hoI] at ho'; cases ho'; rw [hdI] at hd'; cases hd'
  refine wpAny_execs_cons (keepIter1 (n := n + 1) (g := pAssign 1 (xListI lNil)) (EvS.assign 1 rfl (.head _) (EvX.listI EvL.nil)) he hA F2 hbI hit₂ rfl fun s₃ F3 hit₃ => ?_)
  refine wpAny_execs_cons (wpAny_mono (E := fun _ _ => False) (wpAny_Try_except (wpAny_execs_cons (wpAny_While (codeAny_whileLoop (fun m s' => ∃ k told outr, told ++ outr = out ∧ told.length + m = 9 ∧ readN m (xs.drop k) = some outr ∧ k ≤ xs.length ∧
    FrC ⟨_, ["octets", "told"], [1], [("tape", I)]⟩ env b s0 s' [some (.li xs), some (.li told)] ∧ s'.heap.IsListIter I l k) (fun m s' hI' => ?_) 9 ⟨0, [], out, rfl, rfl, by rw [List.drop_zero]; exact hp, Nat.zero_le _, F3, hit₃⟩)))) (fun _ _ x => x) (fun _ _ x => x.elim))
  obtain ⟨k, told, outr, htold, hlen, hread, hkl, F4, hit₄⟩ := hI'
  cases m with
  | zero => cases hread
  | succ m =>
    refine EvT.use (n := n + 1) (f := tCmp .Lt (xCall len1 (lCons (xVar 1) lNil)) (xInt 9)) (k := true) ?_ he hA F4 ?_ fun s₅ k₅ => ?_
    · exact EvT.cmp (EvX.builtin len_ok (by decide +kernel) k4 (EvL.cons (EvX.var 1 rfl) EvL.nil)) EvX.cint
    · have hc : told.length ≤ cap := Nat.le_trans (by omega : told.length ≤ 9) (by decide)
      have e1 : len1 [PV.li told] = some (.int told.length) := if_pos hc
      show (len1 [PV.li told]).bind _ = _
      rw [e1]
      show some (decide ((told.length : Int) < 9)) = some true
      rw [decide_eq_true (by omega)]
    · rw [if_pos rfl]
      have F5 := F4.keeps k₅
      have hit₅ : s₅.heap.IsListIter I l k := let ⟨o, ho, q⟩ := hit₄; ⟨o, Keeps.get k₅ ho, q⟩
      have hdef : xs.length ≤ k ∨ ∃ r, varint (xs.drop k) = some r := by
        cases hd : xs.drop k with
        | nil => exact .inl (List.drop_eq_nil_iff.mp hd)
        | cons y q =>
          rw [hd] at hread
          unfold readN at hread
          cases hv : varint (y :: q) with
          | none => rw [hv] at hread; cases hread
          | some r => exact .inr ⟨r, rfl⟩
      refine wpAny_execs_cons (turn_walk k3 he hf hfr hA hT hbb hfunb F5 hbI hlb hv hit₅ hdef (by omega) (fun val rest hval s₆ F6 hit₆ => ?_) (fun hle s₁ s' e a0 F6 hs' hfl hu => ?_))
      · refine wpAny_execs_nil ⟨m, Nat.lt_succ_self _, xs.length - rest.length, told ++ [val], ?_⟩
        cases hd : xs.drop k with
        | nil => rw [hd] at hval; cases hval
        | cons y q =>
          rw [hd] at hread hval
          unfold readN at hread
          rw [hval] at hread
          obtain ⟨o2, ho2, rfl⟩ := Option.map_eq_some_iff.mp hread
          have hrest : rest = xs.drop (xs.length - rest.length) := varint_rest (hd ▸ hval)
          refine ⟨o2, by rw [List.append_assoc]; exact htold, by rw [List.length_append, List.length_singleton]; omega, ?_, Nat.sub_le _ _, F6, hit₆⟩
          rw [← hrest]; exact ho2
      · cases hd : xs.drop k with
        | cons y q => have := List.drop_eq_nil_iff.mpr hle; rw [hd] at this; cases this
        | nil =>
          rw [hd] at hread
          cases hread
          rw [List.append_nil] at htold
          subst htold
          have hfr' : A.frames = some (env :: outer) := hfr
          show notedBy _ _ _ _ _ _
          obtain ⟨h', tk, rfl⟩ := hs'
          refine wpAny_looks_onW hfr' hf hfl fun h₆ hheld hu₆ => ?_
          refine came_back (s := { s₁ with heap := h₆, toks := tk }) hf hheld fun h₇ hheld₇ hu₇ => ?_
          obtain ⟨vt, Ht, Rt, ot⟩ := F6.vals 1 "told" (.li told) rfl rfl
          have hu' : s₁.heap.UpToSlots h₇ := (hu.trans hu₆).trans hu₇
          refine catch_ret (s := { s₁ with heap := h₇, toks := tk }) he hf hT k5 hheld₇ (Ht.slots hu') (Rt.slots hu') (by decide) fun h₈ g1 g2 g3 g4 => ?_
          refine hQ vt _ ⟨h₈, tk, ?_⟩ g1 (fun c o e hn => (hu'.trans g2) c o (F6.keep c o e) hn) g4 (ot.1 (.head _))
          have := same_shared F6.gens F6.os F6.drawn
          rw [this]
end
end Mine
end PartFw25

/- part Fw26 -/
section PartFw26
open PySem PySem.W PyProof.Rows PySem.SeqAt
set_option maxRecDepth 100000
namespace Mine

section
variable {prog : Program} {w : World} {n : Nat} {A : Around} {s : Shared} {nm : Str} {a : Arguments} {bd : List Stmt} {d : List Expr} {r : Option Expr} {tp : List TypeParam} {sc : Scope} {ts : Option Scope} {bi : Str} {ps : Pos} {pm code doc : Value}

theorem EvS.use {C : Cx} {st : Stmt} {g : SF} {E : Value → Shared → Prop} {env : Env} {b : Kept} {s0 : Shared} {ρ ρ' : REnv} {fl : PFlow} {Q : Flow → Shared → Prop} (h : EvS prog w C n st g) (he : EnvIs C.sc env) (hA : AOk A n) (F : FrC C env b s0 s ρ) (hg : g ρ = some (fl, ρ'))
    (hQ : ∀ f s', FrC C env b s0 s' ρ' → FlowR b s'.heap f fl → Q f s') : wpAny (model prog w) A (exec st env) Q E s := h A E env b s0 s ρ ρ' fl Q he hA F hg hQ
theorem EvSs.use {C : Cx} {st : List Stmt} {g : SF} {E : Value → Shared → Prop} {env : Env} {b : Kept} {s0 : Shared} {ρ ρ' : REnv} {fl : PFlow} {Q : Flow → Shared → Prop} (h : EvSs prog w C n st g) (he : EnvIs C.sc env) (hA : AOk A n) (F : FrC C env b s0 s ρ) (hg : g ρ = some (fl, ρ'))
    (hQ : ∀ f s', FrC C env b s0 s' ρ' → FlowR b s'.heap f fl → Q f s') : wpAny (model prog w) A (execs st env) Q E s := h A E env b s0 s ρ ρ' fl Q he hA F hg hQ
theorem AOk.deeper {A : Around} {n : Nat} (hA : AOk A (n + 1)) (env : Env) : AOk (A.deeper env) n := by
  obtain ⟨h1, h2, h3⟩ := hA
  refine ⟨h1, ?_, ?_⟩
  · show A.depth + 1 + n ≤ 900; omega
  · show A.units + 3 + 3 * n ≤ 9000; omega

theorem rd_ok {outer : List Env} {base : Heap} {xs out : List Int} {v0 : Value} {R : Result → Shared → Prop} {f : Addr} {o : Obj}
    (h : pw.main.body[16]? = some (.FunctionDef nm a bd d r tp sc ts bi ps)) (hA : AOk A (n + 2)) (hfr : A.frames = some outer)
    (hT : ∃ hT, TP hT ∧ ∀ a o, hT.get? a = some o → base.get? a = some o) (hbase : base.StaysIn s.heap) (hfun : s.heap.FunFrames base outer)
    (ho : s.heap.get? f = some o) (hd : o.data = .func (Calls.docDef nm a bd sc pm code doc)) (hcd : s.heap.CodeRec code nm) (hv : VR s.heap v0 (.li xs)) (hp : readN 9 xs = some out)
    (hR : ∀ v s', (∃ h' tk, s' = { s with heap := h', toks := tk }) → base.StaysIn s'.heap → s.heap.UpToSlots s'.heap → VR s'.heap v (.li out) → (∀ a, v = .ref a → s.heap.get? a = none) → R (.ok (.ret v)) s') :
    codeAny (model prog w) A (.call (.ref f) ⟨[v0], []⟩) R s := by
  obtain ⟨hT, hT1, hT2⟩ := hT
  refine enter (b := fun c => s.heap.get? c) (args := [.li xs]) (params := ["octets"]) (rest := ["told"]) (own := [1]) (by have := hA.2.1; omega) ⟨hT, hT1, fun c o e => hbase c o (hT2 c o e)⟩ (fun _ _ e => e) ho hd hcd (.cons hv .nil) (fun j v hj => ?_) (fun j k c hj hk h1 h2 => ?_) rfl
    (by cases h; exact bodyOk_of (by decide +kernel)) (fun pm code doc vals hvals => by cases h; match vals, hvals with | [_], _ => rfl) fun env s₁ he hf hL hk F => ?_
  · match j, hj with
    | 0, hj =>
      cases hj
      refine ⟨fun q => absurd q (by decide), fun _ c e => ?_⟩
      subst e
      obtain ⟨items, o, ho, _⟩ := hv.ref
      exact ⟨o, ho⟩
  · rw [List.mem_singleton.mp hj, List.mem_singleton.mp hk]
  · refine rd_walk (n := n) h he hf (Around.frames_deeper hfr) (AOk.deeper hA env) ⟨hT, hT1, hT2⟩ hbase (fun h' hk' => hfun.of_keeps fun c o e _ => ⟨o, hk' c o e, rfl⟩) F hp fun v s' hs' hst hup hvr hfresh => ?_
    exact hR v s' hs' hst (fun c o e hn => hup c o e hn) hvr hfresh

/-- told = _law_read(..) -/
theorem read_stmt {C : Cx} {outer : List Env} {base : Heap} {env : Env} {b : Kept} {s0 : Shared} {ρ : REnv} {xs out : List Int} {e : Expr} {x : Str} {i : Nat} {fe : XF} {p p1 q2 q3 : Pos} {E : Value → Shared → Prop} {Q : Flow → Shared → Prop}
    (hx : C.vars[i]? = some x) (hi : i ∈ C.own) (hn : C.sc.names.lookup ("_law_read" : Str) = some .globalImplicit) (he : EnvIs C.sc env) (hf : env.frame = some env.locals) (hfr : A.frames = some (env :: outer)) (hA : AOk A (n + 2))
    (hT : ∃ hT, TP hT ∧ ∀ a o, hT.get? a = some o → base.get? a = some o) (hbb : ∀ a o, base.get? a = some o ↔ b a = some o) (hfunb : ∀ h' : Heap, (∀ a o, b a = some o → h'.get? a = some o) → h'.FunFrames base outer)
    (F : FrC C env b s0 s ρ) (hel : EvX prog w C (n + 2) true e fe) (hfe : fe ρ = some (.li xs)) (hp : readN 9 xs = some out)
    (hQ : ∀ s', FrC C env b s0 s' (ρ.set i (some (.li out))) → Q .next s')
    (hs : ∀ env, swapsWith (.Call (.Name "_law_read" p1) [e] [] q2) (some (.Name x p)) q3.line env = pure false := by intro _; rfl)
    (hse : ∀ env, starEach [e] env = (false, eval e env) :: starEach [] env := by intro _; rfl) :
    wpAny (model prog w) A (exec (.Assign [.Name x p] (.Call (.Name "_law_read" p1) [e] [] q2) q3) env) Q E s := by
  obtain ⟨mg, mb, g1, g2, g3, _⟩ := F.tp.ns
  have hb16 : ∃ a bd d r tp sc ts bi ps, pw.main.body[16]? = some (.FunctionDef "_law_read" a bd d r tp sc ts bi ps) := ⟨_, _, _, _, _, _, _, _, _, rfl⟩
  obtain ⟨a', bd', d', r', tp', sc', ts', bi', ps', hb16⟩ := hb16
  obtain ⟨f, of, pm, code, doc, hmg, ho, hdat, hcd⟩ := g3 16 _ _ _ _ _ _ _ _ _ _ hb16
  refine wpAny_Assign_Name (wpAny_Call_NameR (name_global he hn g1 hmg ?_)) (hs env)
  refine Calls.callWith_function (o := of) (fd := Calls.docDef "_law_read" a' bd' sc' pm code doc) (evalArgs_es (hse env) (spliced_more (hel A E env b s0 s ρ _ _ he hA F hfe fun v1 s₁ k₁ R1 _ => ?_) (hse env)))
  have F₁ := F.keeps k₁
  refine spliced_none ⟨⟨Keeps.get k₁ ho, hdat⟩, wpAny_call ?_⟩
  obtain ⟨m, hm⟩ := F₁.ns
  have hfun : s₁.heap.FunFrames base (env :: outer) := by
    refine Heap.FunFrames.cons (by rw [he.scope, he.kind]; decide) hf hm ?_ (hfunb _ F₁.keep)
    cases q : base.get? env.locals with
    | none => rfl
    | some o => have := (hbb _ _).mp q; rw [F.locB] at this; cases this
  refine rd_ok (n := n) hb16 hA hfr hT (fun c o e => F₁.keep c o ((hbb c o).mp e)) hfun (Keeps.get k₁ ho) hdat (hcd.keeps fun _ _ => Keeps.get k₁) R1 hp fun v s' hs' hst hup hvr hfresh => ?_
  obtain ⟨h', tk, rfl⟩ := hs'
  have F₂ : FrC C env b s0 { s₁ with heap := h', toks := tk } ρ := F₁.slots (fun c o e => hst c o ((hbb c o).mpr e)) hup
  refine FR.store he F₂ hx hi hvr (fun c e => ⟨fresh_kept F₁ (hfresh c e), fun j y pw' hy hp' H => ?_⟩) fun s₃ F₃ _ => hQ s₃ F₃
  obtain ⟨u, H0, R0, _⟩ := F₁.vals j y pw' hy hp'
  have e' := (H0.slots hup).same H
  subst e'
  obtain ⟨items, o, ho', _⟩ := R0.ref
  rw [hfresh c e] at ho'; cases ho'
end
end Mine
end PartFw26

/- part Wk5 -/
section PartWk5
open PySem PySem.W PyProof.Rows PySem.SeqAt
set_option maxRecDepth 100000
set_option maxHeartbeats 4000000
namespace Mine

def g_law0 (F_law_cells : List PV → Option PV) : SF := (pAssign 1 (xCall F_law_cells (lCons (xVar 0) lNil)))
def x_law1 (F_law_tape : List PV → Option PV) : XF := (xCall F_law_tape (lCons (xVar 1) lNil))
def g_law2 (F_law_order : List PV → Option PV) (F_law_book : List PV → Option PV) (F_law_sunk : List PV → Option PV) (F_law_shelf : List PV → Option PV) (F_law_family : List PV → Option PV) (F_quotedata : List PV → Option PV) (F_law_won : List PV → Option PV) (F_law_sent : List PV → Option PV) (F_law_heard : List PV → Option PV) (F_pretty_flags : List PV → Option PV) (F_law_words : List PV → Option PV) (F_law_traces : List PV → Option PV) (F_law_places : List PV → Option PV) : SF :=
  (pSeq (pIf (tCmp .NotEq (xVar 2) (xVar 1)) (pRet (xBool false)) pSkip)
  (pSeq (pAssign 3 (xComp [] liOf (iList (xSlice (xVar 2) pNo (pOf (xInt 6)))) tYes (xBin .Mod (xVar 0) (xInt 96))))
  (pSeq (pAssign 4 (xCall F_law_order (lCons (xBin .Mod (xIdx (xVar 2) (xInt 6)) (xInt 120)) lNil)))
  (pSeq (pAssign 5 (xCall F_law_shelf (lCons (xCallOwn F_law_sunk (xCall F_law_book (lCons (xVar 3) lNil)) 4) lNil)))
  (pSeq (pAssign 6 (xCall F_law_family (lCons (xVar 3) lNil)))
  (pSeq (pAssign 7 (xComp [] lsOf (iList (xVar 5)) tYes (xCall F_quotedata (lCons (xVar 0) lNil))))
  (pSeq (pIf (tCmp .NotEq (xVar 7) (xCall sortF (lCons (xComp [] lsOf (iList (xCall F_law_won (lCons (xVar 6) (lCons (xVar 4) lNil)))) tYes (xCall F_law_sent (lCons (xVar 0) lNil))) lNil))) (pRet (xBool false)) pSkip)
  (pSeq (pAssign 8 (xComp [] liOf (iList (xVar 7)) tYes (xCall F_law_heard (lCons (xVar 0) lNil))))
  (pSeq (pIf (tCmp .NotEq (xComp [] lsOf (iList (xVar 8)) tYes (xCall F_pretty_flags (lCons (xVar 0) lNil))) (xComp [] lsOf (iList (xVar 8)) tYes (xCall F_law_words (lCons (xVar 0) lNil)))) (pRet (xBool false)) pSkip)
  (pRet (xCmp .Eq (xComp [6] liOf (iList (xVar 8)) tYes (xCall F_law_traces (lCons (xVar 1) (lCons (xVar 0) lNil)))) (xComp [] liOf (iList (xVar 8)) tYes (xBin .Pow (xInt 2) (xCall len1 (lCons (xCall F_law_places (lCons (xVar 0) lNil)) lNil)))))))))))))))
theorem walk_law {prog : Program} {w : World} {A : Around} {s : Shared} {nm : Str} {a : Arguments} {bd : List Stmt} {d : List Expr} {r : Option Expr} {tp : List TypeParam} {sc : Scope} {ts : Option Scope} {bi : Str} {ps : Pos} {pm code doc : Value} (F_law_cells : List PV → Option PV) (F_law_tape : List PV → Option PV) (F_law_order : List PV → Option PV) (F_law_book : List PV → Option PV) (F_law_sunk : List PV → Option PV) (F_law_shelf : List PV → Option PV) (F_law_family : List PV → Option PV) (F_quotedata : List PV → Option PV) (F_law_won : List PV → Option PV) (F_law_sent : List PV → Option PV) (F_law_heard : List PV → Option PV) (F_pretty_flags : List PV → Option PV) (F_law_words : List PV → Option PV) (F_law_traces : List PV → Option PV) (F_law_places : List PV → Option PV) (h_law_cells : FnOk prog w 8 14 F_law_cells) (h_law_tape : FnOk prog w 8 15 F_law_tape) (h_law_order : FnOk prog w 8 17 F_law_order) (h_law_book : FnOk prog w 8 20 F_law_book) (h_law_sunk : FnB prog w 8 21 [0, 2, 3, 4, 5, 6, 7] F_law_sunk) (h_law_shelf : FnOk prog w 8 22 F_law_shelf) (h_law_family : FnOk prog w 8 24 F_law_family) (h_quotedata : FnOk prog w 8 5 F_quotedata) (h_law_won : FnOk prog w 8 25 F_law_won) (h_law_sent : FnOk prog w 8 26 F_law_sent) (h_law_heard : FnOk prog w 8 23 F_law_heard) (h_pretty_flags : FnOk prog w 8 9 F_pretty_flags) (h_law_words : FnOk prog w 8 28 F_law_words) (h_law_traces : FnOk prog w 8 29 F_law_traces) (h_law_places : FnOk prog w 8 27 F_law_places)
    {xs os out : List Int} {pv : PV} {ρ0 ρ1 : REnv} {v0 : Value} {R : Result → Shared → Prop} {f : Addr} {o : Obj}
    (h : pw.main.body[30]? = some (.FunctionDef nm a bd d r tp sc ts bi ps)) (hA : AOk A 9) (hfr : A.frames = some []) (hT : TP s.heap)
    (ho : s.heap.get? f = some o) (hd : o.data = .func (Calls.docDef nm a bd sc pm code doc)) (hcd : s.heap.CodeRec code nm) (hv : VR s.heap v0 (.li xs))
    (h0 : g_law0 F_law_cells (some (.li xs) :: List.replicate 8 none) = some (.next, ρ0)) (h1 : x_law1 F_law_tape ρ0 = some (.li os)) (hp : readN 9 os = some out)
    (h2 : g_law2 F_law_order F_law_book F_law_sunk F_law_shelf F_law_family F_quotedata F_law_won F_law_sent F_law_heard F_pretty_flags F_law_words F_law_traces F_law_places (ρ0.set 2 (some (.li out))) = some (.ret pv, ρ1))
    (hR : ∀ v s', s'.gens = s.gens → s'.os = s.os → s'.drawn = s.drawn → (∀ a o, s.heap.get? a = some o → s'.heap.get? a = some o) → VR s'.heap v pv → R (.ok (.ret v)) s') : codeAny (model prog w) A (.call (.ref f) ⟨[v0], []⟩) R s := by
  refine enter (b := fun c => s.heap.get? c) (args := [.li xs]) (params := ["script"]) (rest := ["cells", "told", "numbers", "order", "shelf", "family", "sent", "kept"]) (own := [1, 2, 3, 4, 5, 6, 7, 8]) (by have := hA.2.1; omega) ⟨s.heap, hT, fun _ _ e => e⟩ (fun _ _ e => e) ho hd hcd (.cons hv .nil) (fun j v hj => ?_) (fun j k c hj hk h1 h2 => ?_) rfl
    (by cases h; exact bodyOk_of (by decide +kernel)) (fun pm code doc vals hvals => by cases h; match vals, hvals with | [_], _ => rfl) fun env s₁ he hf hL hk F => ?_
  · match j, hj with
    | 0, hj =>
      cases hj
      refine ⟨fun q => absurd q (by decide), fun _ c e => ?_⟩
      subst e
      obtain ⟨items, o, ho, _⟩ := hv.ref
      exact ⟨o, ho⟩
  · have z : ∀ j : Nat, j ∈ [1, 2, 3, 4, 5, 6, 7, 8] → ([v0] : List Value)[j]? = some (.ref c) → False := fun j hj h => by
      match j, h with
      | 0, _ => exact absurd hj (by decide)
    exact (z j hj h1).elim
  cases h
  have hA' := AOk.deeper (n := 8) hA env
  refine wpAny_execs_cons (EvS.use (n := 8) (g := g_law0 F_law_cells) ?_ he hA' F h0 fun fl s₂ F₂ hfl => ?_)
  · exact (EvS.assign 1 rfl (by decide) (EvX.call h_law_cells rfl rfl (EvL.cons (EvX.var 0 rfl) EvL.nil)))
  cases hfl
  refine wpAny_execs_cons (read_stmt (n := 6) (i := 2) (base := s.heap) (fe := x_law1 F_law_tape) rfl (by decide +kernel) rfl he hf (Around.frames_deeper hfr) hA' ⟨s.heap, hT, fun _ _ e => e⟩ (fun _ _ => Iff.rfl) (fun _ _ => trivial) F₂ ?_ h1 hp fun s₃ F₃ => ?_)
  · exact (EvX.call h_law_tape rfl rfl (EvL.cons (EvX.var 1 rfl) EvL.nil))
  refine EvSs.use (n := 8) (g := g_law2 F_law_order F_law_book F_law_sunk F_law_shelf F_law_family F_quotedata F_law_won F_law_sent F_law_heard F_pretty_flags F_law_words F_law_traces F_law_places) ?_ he hA' F₃ h2 fun fl s₄ F₄ hfl => ?_
  · exact (EvSs.cons (EvS.ite (EvT.cmp (EvX.var 2 rfl) (EvX.var 1 rfl)) (EvSs.one (EvS.ret EvX.cbool)) EvSs.nil)
  (EvSs.cons (EvS.assignComp 3 [] rfl (by decide) rfl shelves_li (compOk_of ["one"] [] (by decide +kernel)) (EvIt.list (EvX.slice (EvX.var 2 rfl) EvPart.no (EvPart.of EvX.cint))) EvIfs.nil (EvX.bin (EvX.var 0 rfl) EvX.cint))
  (EvSs.cons (EvS.assign 4 rfl (by decide) (EvX.call h_law_order rfl rfl (EvL.cons (EvX.bin (EvX.idx (EvX.var 2 rfl) EvX.cint) EvX.cint) EvL.nil)))
  (EvSs.cons (EvS.assign 5 rfl (by decide) (EvX.call h_law_shelf rfl rfl (EvL.cons (EvX.callOwn h_law_sunk (by decide) (by decide) rfl rfl (EvX.call h_law_book rfl rfl (EvL.cons (EvX.var 3 rfl) EvL.nil)) 4 rfl) EvL.nil)))
  (EvSs.cons (EvS.assign 6 rfl (by decide) (EvX.call h_law_family rfl rfl (EvL.cons (EvX.var 3 rfl) EvL.nil)))
  (EvSs.cons (EvS.assignComp 7 [] rfl (by decide) rfl shelves_ls (compOk_of ["mail"] [] (by decide +kernel)) (EvIt.list (EvX.var 5 rfl)) EvIfs.nil (EvX.call h_quotedata rfl rfl (EvL.cons (EvX.var 0 rfl) EvL.nil)))
  (EvSs.cons (EvS.ite (EvT.cmp (EvX.var 7 rfl) (EvX.builtin sorted_ok (by decide +kernel) rfl (EvL.cons (EvX.comp [] shelves_ls (compOk_of ["mask"] [] (by decide +kernel)) (EvIt.list (EvX.call h_law_won rfl rfl (EvL.cons (EvX.var 6 rfl) (EvL.cons (EvX.var 4 rfl) EvL.nil)))) EvIfs.nil (EvX.call h_law_sent rfl rfl (EvL.cons (EvX.var 0 rfl) EvL.nil))) EvL.nil))) (EvSs.one (EvS.ret EvX.cbool)) EvSs.nil)
  (EvSs.cons (EvS.assignComp 8 [] rfl (by decide) rfl shelves_li (compOk_of ["mail"] [] (by decide +kernel)) (EvIt.list (EvX.var 7 rfl)) EvIfs.nil (EvX.call h_law_heard rfl rfl (EvL.cons (EvX.var 0 rfl) EvL.nil)))
  (EvSs.cons (EvS.ite (EvT.cmp (EvX.comp [] shelves_ls (compOk_of ["mask"] [] (by decide +kernel)) (EvIt.list (EvX.var 8 rfl)) EvIfs.nil (EvX.call h_pretty_flags rfl rfl (EvL.cons (EvX.var 0 rfl) EvL.nil))) (EvX.comp [] shelves_ls (compOk_of ["mask"] [] (by decide +kernel)) (EvIt.list (EvX.var 8 rfl)) EvIfs.nil (EvX.call h_law_words rfl rfl (EvL.cons (EvX.var 0 rfl) EvL.nil)))) (EvSs.one (EvS.ret EvX.cbool)) EvSs.nil)
  (EvSs.one (EvS.ret (EvX.cmp (EvX.comp [6] shelves_li (compOk_of ["mask", "family"] [1] (by decide +kernel)) (EvIt.list (EvX.var 8 rfl)) EvIfs.nil (EvX.call h_law_traces rfl rfl (EvL.cons (EvX.var 1 rfl) (EvL.cons (EvX.var 0 rfl) EvL.nil)))) (EvX.comp [] shelves_li (compOk_of ["mask"] [] (by decide +kernel)) (EvIt.list (EvX.var 8 rfl)) EvIfs.nil (EvX.bin EvX.cint (EvX.builtin len_ok (by decide +kernel) rfl (EvL.cons (EvX.call h_law_places rfl rfl (EvL.cons (EvX.var 0 rfl) EvL.nil)) EvL.nil))))))))))))))))
  obtain ⟨v, rfl, hvr, _⟩ := hfl
  exact hR v s₄ F₄.gens F₄.os F₄.drawn F₄.keep hvr

end Mine
end PartWk5

/- part Hd -/
section PartHd
open PySem PySem.W PyProof.Rows
set_option maxRecDepth 100000
set_option maxHeartbeats 8000000
namespace Mine
open_top hd for PySem.Challenge.rw_ty0001_01
end Mine
end PartHd

/- part Jn1 -/
section PartJn1
open PySem PySem.W PyProof.Rows
set_option maxRecDepth 100000
set_option maxHeartbeats 8000000
namespace Mine

theorem re1_at (P : Params) : nsIn (hd.heap_39 P) mainGlobals "_twin_re_1" = some (some (.ref 36)) := by kernel_rfl
theorem re2_at (P : Params) : nsIn (hd.heap_39 P) mainGlobals "_twin_re_2" = some (some (.ref 41)) := by kernel_rfl
theorem fl_at (P : Params) : nsIn (hd.heap_39 P) mainGlobals "COMPILER_FLAG_NAMES" = some (some (.ref 56)) := by kernel_rfl

theorem fn_at {K : Frag} {h : Heap} {mg : Str → Option Value} {n : Str} {a : Arguments} {bd : List Stmt} {sc : Scope} {f : Addr} {oc : Value} {od : Option Addr} {osl : Array (Option Value)} {pm cdv doc : Value} (X : K.In h) (G : h.Ns mainGlobals mg)
    (e : nsIn K mainGlobals n = some (some (.ref f))) (ho : K.lookup f = some ⟨oc, od, .func (Calls.docDef n a bd sc pm cdv doc), osl⟩) (hcd : codeIn K cdv n = true) : FnAtIs mg h n a bd sc :=
  ⟨f, _, pm, cdv, doc, mg_of X G e, X _ _ ho, rfl, codeRec_of X hcd⟩

def FnHere (mg : Str → Option Value) (h : Heap) : Stmt → Prop
  | .FunctionDef n a bd d r tp sc ts bi ps => FnAtIs mg h n a bd sc
  | _ => True
def AllFn (mg : Str → Option Value) (h : Heap) : List Stmt → Prop
  | [] => True
  | st :: rest => FnHere mg h st ∧ AllFn mg h rest
theorem AllFn.all {mg : Str → Option Value} {h : Heap} : ∀ {l : List Stmt}, AllFn mg h l → ∀ (i : Nat) st, l[i]? = some st → FnHere mg h st
  | st :: rest, H, 0, st', e => by cases e; exact H.1
  | st :: rest, H, i + 1, st', e => AllFn.all H.2 i st' (by simpa using e)
theorem AllFn.at {mg : Str → Option Value} {h : Heap} {l : List Stmt} (H : AllFn mg h l) (i : Nat) (n : Str) (a : Arguments) (bd : List Stmt) (d : List Expr) (r : Option Expr) (tp : List TypeParam) (sc : Scope) (ts : Option Scope) (bi : Str) (ps : Pos)
    (e : l[i]? = some (.FunctionDef n a bd d r tp sc ts bi ps)) : FnAtIs mg h n a bd sc := H.all i _ e

theorem all_fns {P : Params} {h : Heap} {mg : Str → Option Value} (X : (hd.heap_39 P).In h) (G : h.Ns mainGlobals mg) : AllFn mg h pw.main.body := by
  have t : ∀ {n : Str} {a : Arguments} {bd : List Stmt} {sc : Scope} {R : Prop}, FnAtIs mg h n a bd sc → R → FnAtIs mg h n a bd sc ∧ R := fun x y => ⟨x, y⟩
  have t' : ∀ {R : Prop}, R → True ∧ R := fun y => ⟨trivial, y⟩
  show AllFn mg h [_, _, _, _, _, _, _, _, _, _, _, _, _, _, _, _, _, _, _, _, _, _, _, _, _, _, _, _, _, _, _]
  repeat (first | exact True.intro | (refine t (fn_at X G rfl rfl (by kernel_rfl)) ?_) | (refine t' ?_))
end Mine
end PartJn1

/- part Jn2 -/
section PartJn2
open PySem PySem.W PyProof.Rows
set_option maxRecDepth 100000
set_option maxHeartbeats 8000000
namespace Mine

section
variable {P : Params} {h : Heap} {mg mb : Str → Option Value}

theorem pat1 (X : (hd.heap_39 P).In h) : PatAt h 36 code1 := by
  have e1 : ∃ o, (hd.heap_39 P).lookup 36 = some o := ⟨_, rfl⟩
  refine ⟨_, _, 35, _, _, _, X 36 _ rfl, rfl, rfl, rfl, rfl, rfl, rfl, X 35 _ rfl, rfl, ?_⟩
  decide +kernel
theorem pat2 (X : (hd.heap_39 P).In h) : PatAt h 41 code2 := by
  refine ⟨_, _, 40, _, _, _, X 41 _ rfl, rfl, rfl, rfl, rfl, rfl, rfl, X 40 _ rfl, rfl, ?_⟩
  decide +kernel

theorem crlf_at (X : (hd.heap_39 P).In h) (G : h.Ns mainGlobals mg) : ∃ t, mg "CRLF" = some (.str (mkS [13, 10]) t) := ⟨_, mg_of X G rfl⟩

theorem none_at (X : (hd.heap_39 P).In h) (G : h.Ns mainGlobals mg) : ∀ p ∈ builtinsUsed, mg p.1 = none := by
  intro p hp
  have : ∀ p ∈ builtinsUsed, nsIn (hd.heap_39 P) mainGlobals p.1 = some none := by
    unfold builtinsUsed
    intro p hp
    simp only [List.mem_cons, List.not_mem_nil, or_false] at hp
    rcases hp with rfl | rfl | rfl | rfl | rfl | rfl | rfl | rfl | rfl <;> kernel_rfl
  exact mg_none_of X G (this p hp)
theorem boot_at (B : ∀ x : Str, x ≠ "__name__" → mb x = bootBuiltins x) : ∀ p ∈ builtinsUsed, mb p.1 = some p.2 := by
  intro p hp
  unfold builtinsUsed at hp
  simp only [List.mem_cons, List.not_mem_nil, or_false] at hp
  rcases hp with rfl | rfl | rfl | rfl | rfl | rfl | rfl | rfl | rfl <;> (rw [B _ (by decide)]; kernel_rfl)
end
end Mine
end PartJn2

/- part Jn3 -/
section PartJn3
open PySem PySem.W PyProof.Rows
set_option maxRecDepth 100000
set_option maxHeartbeats 8000000
namespace Mine

section
variable {P : Params} {h : Heap} {mg mb : Str → Option Value}

def entOk (e : DictEntry) : Bool := match e.key with
  | .int k _ => e.hash == hashInt k
  | _ => false
theorem keys_of {es : Array DictEntry} (h : es.all entOk = true) (prog : Program) (w : World) : KeysOf (intKind prog w) es := by
  intro e he
  have := Array.all_eq_true_iff_forall_mem.mp h e he
  unfold entOk at this
  split at this
  · rename_i k t hk
    exact ⟨k, by rw [hk]; simp [intKind, Value.isInt], (by simpa using this : e.hash = hashInt k)⟩
  · cases this

theorem flags_of {o : Obj} {es : Array DictEntry} {ep : Nat} {d : Addr} (hs : (d == sysModules) = false) (ho : h.get? d = some o) (hx : o.ExactDict) (hd : o.data = .dict es ep) (hk : es.all entOk = true)
    (hw : ∀ p ∈ flagWords, ∃ t, findBy Value.isInt es p.1 = some (.str (mkS p.2) t)) : FlagsAt h d :=
  ⟨hs, fun k => findBy Value.isInt es k, fun prog w => ⟨o, es, ep, ho, hx, hd, keys_of hk prog w, fun _ => rfl⟩, hw⟩

theorem flags_at (X : (hd.heap_39 P).In h) : FlagsAt h 56 := by
  refine flags_of (by decide +kernel) (X 56 _ rfl) ⟨rfl, rfl, rfl⟩ rfl (by decide +kernel) fun p hp => ?_
  unfold flagWords at hp
  simp only [List.mem_cons, List.not_mem_nil, or_false] at hp
  rcases hp with rfl | rfl | rfl | rfl | rfl | rfl <;> exact ⟨_, rfl⟩

theorem tp_of {p : Program} {loose : List Str} {mean : ExcName → Option Value} (T : Top p loose mean mg mb h) (X : (hd.heap_39 P).In h) : TP h where
  ns := ⟨mg, mb, T.g, T.b, fun i n a bd d r tp sc ts bi ps e => (all_fns X T.g).at i n a bd d r tp sc ts bi ps e, fun q hq => ⟨none_at X T.g q hq, boot_at T.builtins q hq⟩, crlf_at X T.g,
    ⟨36, mg_of X T.g (re1_at P), pat1 X⟩, ⟨41, mg_of X T.g (re2_at P), pat2 X⟩, ⟨56, mg_of X T.g (fl_at P), flags_at X⟩⟩
  nolimit := T.nolimit
end
end Mine
end PartJn3

/- part Jn4 -/
section PartJn4
open PySem PySem.W PyProof.Rows
set_option maxRecDepth 100000
set_option maxHeartbeats 8000000
namespace Mine

/-- what is left to show of the law -/
def LawOk : Prop := ∀ (prog : Program) (w : World) (A : Around) (s : Shared) (xs : List Int) (v0 : Value) (f : Addr) (o : Obj) (nm : Str) (a : Arguments) (bd : List Stmt) (d : List Expr) (r : Option Expr) (tp : List TypeParam) (sc : Scope) (ts : Option Scope) (bi : Str) (ps : Pos) (pm code doc : Value) (R : Result → Shared → Prop),
    pw.main.body[30]? = some (.FunctionDef nm a bd d r tp sc ts bi ps) → AOk A 9 → A.frames = some [] → TP s.heap → s.heap.get? f = some o → o.data = .func (Calls.docDef nm a bd sc pm code doc) → s.heap.CodeRec code nm → VR s.heap v0 (.li xs) → xs.length ≤ 63 →
    (∀ s', s'.gens = s.gens → s'.os = s.os → s'.drawn = s.drawn → (∀ a o, s.heap.get? a = some o → s'.heap.get? a = some o) → R (.ok (.ret (.bool true))) s') → codeAny (model prog w) A (.call (.ref f) ⟨[v0], []⟩) R s

theorem well_plain {P : Params} {h : Heap} {a : Addr} {items : Array Value} {d : WData} (hL : h.IsList a items) (hw : Well P h (.ref a) d) : PlainL h a items := by
  obtain ⟨o, ho, hc, n, hd⟩ := hL
  cases hw with
  | list h1 _ => rw [ho] at h1; cases h1; exact ⟨_, n, ho, rfl, rfl, hd⟩
  | bytearray h1 => rw [ho] at h1; cases h1; cases hd
  | tuple h1 _ => rw [ho] at h1; cases h1; injection hc with e; exact absurd e (by decide)
  | dict h1 _ => rw [ho] at h1; cases h1; cases hd
  | set h1 _ _ _ => rw [ho] at h1; cases h1; cases hd
  | frozenset h1 _ _ _ => rw [ho] at h1; cases h1; cases hd
  | obj h1 _ _ _ => rw [ho] at h1; cases h1; cases hd
theorem ints_of : ∀ {vs : List Value} {xs : List Int}, IntsAre vs xs → IntsV vs xs
  | _, _, .nil => .nil
  | _, _, .cons i t r => .cons ⟨t, rfl⟩ (ints_of r)
theorem caller_ok : AOk callerA 9 := ⟨rfl, by decide +kernel, by decide +kernel⟩

theorem join (H : LawOk) : PySem.Challenge.rw_ty0001_01.Holds := hd (by
  k_fill
  intro w s₀ s₁ mg mb G y fa o pm cd doc dV kV ho hd hcd hD hmg hg args vals as hpre hlay hrd hwl hlo
  have X := kIn_of y
  have htp : TP s₁.heap := tp_of G.T X
  have hV : dV = .none ∧ kV = .none := by
    refine ⟨?_, ?_⟩
    · rcases hD.pos with ⟨_, e⟩ | ⟨e, _⟩
      · exact e
      · exact absurd rfl e
    · rcases hD.kw with ⟨_, e⟩ | ⟨e, _⟩
      · exact e
      · exact absurd rfl e
  obtain ⟨rfl, rfl⟩ := hV
  wrow_args hpre hlay hrd hwl hlo
  rename_i ns hs q1 q2 q3 q4 w4 w3 a vs w0 hL ra hw r0 hI hr hc1 hc2
  have hv : VR s₁.heap (.ref a) (.li ns) := ⟨a, vs, rfl, well_plain hL hw, ints_of hI⟩
  refine wpAny_call (H _ w callerA s₁ ns (.ref a) fa o _ _ _ _ _ _ _ _ _ _ pm cd doc _ rfl caller_ok rfl htp ho hd hcd hv (by omega) fun s' g1 g2 g3 hk => ?_)
  refine GoodW.toG ⟨.inl ⟨.bool true, .bool true, [], rfl, fun _ => rfl, .bool true, ?_, unshared_nil⟩, hk, g2, g1.trans hg⟩
  kernel_rfl)
end Mine
end PartJn4

/- part Pl1 -/
section PartPl1
open PySem PySem.W PyProof.Rows PySem.SeqAt
set_option maxRecDepth 100000
namespace Mine

/-- what a body's pure reading gives for its arguments -/
def runF (k r : Nat) (g : SF) : List PV → Option PV := fun args => if args.length = k then match g (args.map some ++ List.replicate r none) with
  | some (.ret pv, _) => some pv
  | _ => none else none
theorem runF_ok {k r : Nat} {g : SF} : ∀ args pv, runF k r g args = some pv → args.length = k ∧ ∃ ρ', g (args.map some ++ List.replicate r none) = some (.ret pv, ρ') := fun args pv h => by
  unfold runF at h
  split at h
  · rename_i hk
    refine ⟨hk, ?_⟩
    split at h
    · rename_i q ρ e; cases h; exact ⟨ρ, e⟩
    · cases h
  · cases h
def intF (F : List PV → Option PV) : List PV → Option PV
  | [.int n] => F [.int n]
  | _ => none
theorem intF_ok {F : List PV → Option PV} {P : List PV → PV → Prop} (h : ∀ args pv, F args = some pv → P args pv) : ∀ args pv, intF F args = some pv → P args pv := fun args pv e => by
  unfold intF at e
  split at e
  · exact h _ _ e
  · cases e

def F_strcoll := runF 2 0 g_strcoll
def F_quotedata := runF 1 0 g_quotedata
def F_fix_eols := runF 1 0 g_fix_eols
def F_law_is_there := runF 2 1 (g_law_is_there F_strcoll)
def F_pretty_flags := intF (runF 1 3 g_pretty_flags)
def F_law_cells := runF 1 2 g_law_cells
def F_law_tape := runF 1 3 g_law_tape
def F_law_order := intF (runF 1 3 g_law_order)
def F_law_mail := runF 2 1 g_law_mail
def F_law_book := runF 1 3 (g_law_book F_law_mail F_fix_eols F_law_is_there)
def F_law_sunk := runF 2 6 (g_law_sunk F_quotedata F_law_is_there)
def F_law_shelf := runF 1 3 (g_law_shelf F_strcoll)
def F_law_heard := runF 1 1 g_law_heard
def F_law_family := runF 1 2 g_law_family
def wonF : Nat → List PV → Option PV
  | 0 => fun _ => none
  | k + 1 => runF 2 3 (g_law_won (wonF k))
def F_law_won := wonF 7
def F_law_sent := runF 1 0 g_law_sent
def F_law_places := runF 1 0 g_law_places
def F_law_words := runF 1 1 (g_law_words F_law_places)
def F_law_traces := runF 2 3 (g_law_traces F_pretty_flags)

section
variable {prog : Program} {w : World}

/-- a contract with none of its arguments its own -/
theorem FnB.rest {n i k : Nat} {own : List Nat} {F : List PV → Option PV} (h : FnB prog w n i own F) (hk : ∀ args pv, F args = some pv → args.length = k) (ho : ∀ j ∈ own, k ≤ j) : FnOk prog w n i F :=
  h.flat fun args pv hF j p hj hp => by
    have h1 := hk args pv hF
    have h2 := ho j hj
    have := (List.getElem?_eq_some_iff.mp hp).1
    omega
theorem FnB.int {n i : Nat} {own : List Nat} {F : List PV → Option PV} (h : FnB prog w n i own (intF F)) : FnOk prog w n i (intF F) :=
  h.flat fun args pv hF j p hj hp => by
    unfold intF at hF
    split at hF
    · match j, hp with
      | 0, hp => cases hp; rfl
      | j + 1, hp => simp at hp
    · cases hF

theorem ok_strcoll : FnOk prog w 1 12 F_strcoll := FnB.rest (k := 2) (walk_strcoll runF_ok) (fun a p h => (runF_ok a p h).1) (by decide)
theorem ok_quotedata : FnOk prog w 1 5 F_quotedata := FnB.rest (k := 1) (walk_quotedata runF_ok) (fun a p h => (runF_ok a p h).1) (by decide)
theorem ok_fix_eols : FnOk prog w 1 6 F_fix_eols := FnB.rest (k := 1) (walk_fix_eols runF_ok) (fun a p h => (runF_ok a p h).1) (by decide)
theorem ok_is_there : FnOk prog w 2 19 F_law_is_there := FnB.rest (k := 2) (walk_law_is_there _ ok_strcoll runF_ok) (fun a p h => (runF_ok a p h).1) (by decide)
theorem ok_pretty_flags : FnOk prog w 1 9 F_pretty_flags := FnB.int (walk_pretty_flags (intF_ok runF_ok))
theorem ok_cells : FnOk prog w 1 14 F_law_cells := FnB.rest (k := 1) (walk_law_cells runF_ok) (fun a p h => (runF_ok a p h).1) (by decide)
theorem ok_tape : FnOk prog w 1 15 F_law_tape := FnB.rest (k := 1) (walk_law_tape runF_ok) (fun a p h => (runF_ok a p h).1) (by decide)
theorem ok_order : FnOk prog w 1 17 F_law_order := FnB.int (walk_law_order (intF_ok runF_ok))
theorem ok_mail : FnOk prog w 1 18 F_law_mail := FnB.rest (k := 2) (walk_law_mail runF_ok) (fun a p h => (runF_ok a p h).1) (by decide)
theorem ok_book : FnOk prog w 3 20 F_law_book := FnB.rest (k := 1) (walk_law_book _ _ _ (ok_mail.mono (by decide)) (ok_fix_eols.mono (by decide)) ok_is_there runF_ok) (fun a p h => (runF_ok a p h).1) (by decide)
theorem ok_shelf : FnOk prog w 2 22 F_law_shelf := FnB.rest (k := 1) (walk_law_shelf _ ok_strcoll runF_ok) (fun a p h => (runF_ok a p h).1) (by decide)
theorem ok_heard : FnOk prog w 1 23 F_law_heard := FnB.rest (k := 1) (walk_law_heard runF_ok) (fun a p h => (runF_ok a p h).1) (by decide)
theorem ok_family : FnOk prog w 1 24 F_law_family := FnB.rest (k := 1) (walk_law_family runF_ok) (fun a p h => (runF_ok a p h).1) (by decide)
theorem ok_wonF : ∀ k, FnOk prog w k 25 (wonF k)
  | 0 => fun A s vals args pv R f o nm a bd d r tp sc ts bi ps pm code doc _ _ _ _ _ _ _ h => nomatch h
  | k + 1 => FnB.rest (k := 2) (walk_law_won _ (ok_wonF k) runF_ok) (fun a p h => (runF_ok a p h).1) (by decide)
theorem ok_sent : FnOk prog w 1 26 F_law_sent := FnB.rest (k := 1) (walk_law_sent runF_ok) (fun a p h => (runF_ok a p h).1) (by decide)
theorem ok_places : FnOk prog w 1 27 F_law_places := FnB.rest (k := 1) (walk_law_places runF_ok) (fun a p h => (runF_ok a p h).1) (by decide)
theorem ok_words : FnOk prog w 2 28 F_law_words := FnB.rest (k := 1) (walk_law_words _ ok_places runF_ok) (fun a p h => (runF_ok a p h).1) (by decide)
theorem ok_traces : FnOk prog w 2 29 F_law_traces := FnB.rest (k := 2) (walk_law_traces _ ok_pretty_flags runF_ok) (fun a p h => (runF_ok a p h).1) (by decide)
theorem FnB.mono {n n' i : Nat} {own : List Nat} {F : List PV → Option PV} (h : FnB prog w n i own F) (hn : n ≤ n') : FnB prog w n' i own F :=
  fun A s b vals args pv R f o nm a bd d r tp sc ts bi ps pm code doc hb hA => h A s b vals args pv R f o nm a bd d r tp sc ts bi ps pm code doc hb (hA.mono hn)
theorem ok_sunk : FnB prog w 3 21 [0, 2, 3, 4, 5, 6, 7] F_law_sunk := walk_law_sunk _ _ (ok_quotedata.mono (by decide)) ok_is_there runF_ok
end

/-- the plain law -/
def PureLaw : Prop := ∀ xs : List Int, xs.length ≤ 63 → ∃ (ρ0 ρ1 : REnv) (os out : List Int), g_law0 F_law_cells (some (.li xs) :: List.replicate 8 none) = some (.next, ρ0) ∧ x_law1 F_law_tape ρ0 = some (.li os) ∧ readN 9 os = some out ∧
  g_law2 F_law_order F_law_book F_law_sunk F_law_shelf F_law_family F_quotedata F_law_won F_law_sent F_law_heard F_pretty_flags F_law_words F_law_traces F_law_places (ρ0.set 2 (some (.li out))) = some (.ret (.bool true), ρ1)

theorem law_of (H : PureLaw) : LawOk := fun prog w A s xs v0 f o nm a bd d r tp sc ts bi ps pm code doc R h hA hfr hT ho hd hcd hv hxs hR => by
  obtain ⟨ρ0, ρ1, os, out, h0, h1, hp, h2⟩ := H xs hxs
  exact walk_law _ _ _ _ _ _ _ _ _ _ _ _ _ _ _ (ok_cells.mono (by decide)) (ok_tape.mono (by decide)) (ok_order.mono (by decide)) (ok_book.mono (by decide)) (ok_sunk.mono (by decide)) (ok_shelf.mono (by decide)) (ok_family.mono (by decide)) (ok_quotedata.mono (by decide)) ((ok_wonF 7).mono (by decide))
    (ok_sent.mono (by decide)) (ok_heard.mono (by decide)) (ok_pretty_flags.mono (by decide)) (ok_words.mono (by decide)) (ok_traces.mono (by decide)) (ok_places.mono (by decide)) h hA hfr hT ho hd hcd hv h0 h1 hp h2
    fun v s' g1 g2 g3 g4 hvr => by cases hvr; exact hR s' g1 g2 g3 g4

theorem row_of (H : PureLaw) : PySem.Challenge.rw_ty0001_01.Holds := join (law_of H)
end Mine
end PartPl1

/- part Pl3 -/
section PartPl3
open PySem PySem.W PyProof.Rows PySem.SeqAt
set_option maxRecDepth 100000
namespace Mine

/-- a loop whose turns all go on -/
theorem pFor_inv {i : Nat} {body : SF} (I : Nat → REnv → Prop) : ∀ (items : List PV) (k : Nat) (ρ : REnv), I k ρ → (∀ j x ρ, items[j]? = some x → I (k + j) ρ → ∃ ρ', body (ρ.set i (some x)) = some (.next, ρ') ∧ I (k + j + 1) ρ') →
    ∃ ρ', pFor i body items ρ = some (.next, ρ') ∧ I (k + items.length) ρ'
  | [], k, ρ, h, _ => ⟨ρ, rfl, h⟩
  | x :: xs, k, ρ, h, H => by
    obtain ⟨ρ1, e1, h1⟩ := H 0 x ρ rfl h
    obtain ⟨ρ2, e2, h2⟩ := pFor_inv I xs (k + 1) ρ1 h1 fun j y ρ hy hI => by
      have := H (j + 1) y ρ (by simpa using hy) (by rw [show k + (j + 1) = k + 1 + j by omega]; exact hI)
      rw [show k + (j + 1) + 1 = k + 1 + j + 1 by omega] at this
      exact this
    refine ⟨ρ2, ?_, by rw [List.length_cons, show k + (xs.length + 1) = k + 1 + xs.length by omega]; exact h2⟩
    rw [pFor, e1]
    exact e2

theorem runF_of {k r : Nat} {g : SF} {args : List PV} {pv : PV} {ρ' : REnv} (hk : args.length = k) (h : g (args.map some ++ List.replicate r none) = some (.ret pv, ρ')) : runF k r g args = some pv := by
  unfold runF
  rw [if_pos hk, h]

theorem pSeq_next {f g : SF} {ρ ρ' : REnv} (h : f ρ = some (.next, ρ')) : pSeq f g ρ = g ρ' := by
  unfold pSeq; rw [h]
theorem pSeq_ret {f g : SF} {ρ ρ' : REnv} {p : PV} (h : f ρ = some (.ret p, ρ')) : pSeq f g ρ = some (.ret p, ρ') := by
  unfold pSeq; rw [h]
theorem pForElse_of {it : LF} {i : Nat} {body orelse : SF} {ρ : REnv} {items : List PV} (h : it ρ = some items) : pForElse it i body orelse ρ = loopEnd orelse (pFor i body items ρ) := by
  unfold pForElse; rw [h]; rfl

section
variable {ρ : REnv} {f g : XF} {a c : PV}
theorem xVar_of {i : Nat} {a : PV} (h : ρ[i]? = some (some a)) : xVar i ρ = some a := by unfold xVar; rw [h]; rfl
theorem xBin_of {op : Operator} (h : f ρ = some a) (h' : g ρ = some c) : xBin op f g ρ = pyBin op a c := by unfold xBin; rw [h, h']; rfl
theorem xCmp_of {op : CmpOp} (h : f ρ = some a) (h' : g ρ = some c) : xCmp op f g ρ = (pyCmp op a c).map .bool := by unfold xCmp; rw [h, h']; rfl
theorem tCmp_of {op : CmpOp} (h : f ρ = some a) (h' : g ρ = some c) : tCmp op f g ρ = pyCmp op a c := by unfold tCmp; rw [h, h']; rfl
theorem tPlain_of (h : f ρ = some a) : tPlain f ρ = pyTruth a := by unfold tPlain; rw [h]; rfl
theorem tNot_of {t : TF} {k : Bool} (h : t ρ = some k) : tNot t ρ = some (!k) := by unfold tNot; rw [h]; rfl
theorem tAnd_true {t u : TF} (h : t ρ = some true) : tAnd t u ρ = u ρ := by unfold tAnd; rw [h]; rfl
theorem tAnd_false {t u : TF} (h : t ρ = some false) : tAnd t u ρ = some false := by unfold tAnd; rw [h]; rfl
theorem tOr_true {t u : TF} (h : t ρ = some true) : tOr t u ρ = some true := by unfold tOr; rw [h]; rfl
theorem tOr_false {t u : TF} (h : t ρ = some false) : tOr t u ρ = u ρ := by unfold tOr; rw [h]; rfl
theorem xIdx_of (h : f ρ = some a) (h' : g ρ = some c) : xIdx f g ρ = pyIdx a c := by unfold xIdx; rw [h, h']; rfl
theorem xSlice_of {l u : REnv → Option (Option Int)} {x y : Option Int} (h : f ρ = some a) (h1 : l ρ = some x) (h2 : u ρ = some y) : xSlice f l u ρ = pySlice x y a := by unfold xSlice; rw [h, h1, h2]; rfl
theorem pOf_of {i : Int} (h : f ρ = some (.int i)) : pOf f ρ = some (some i) := by unfold pOf; rw [h]; rfl
theorem lCons_of {l : LF} {ps : List PV} (h : f ρ = some a) (h' : l ρ = some ps) : lCons f l ρ = some (a :: ps) := by unfold lCons; rw [h, h']; rfl
theorem xCall_of {F : List PV → Option PV} {l : LF} {ps : List PV} (h : l ρ = some ps) : xCall F l ρ = F ps := by unfold xCall; rw [h]; rfl
theorem xCall1 {F : List PV → Option PV} (h : f ρ = some a) : xCall F (lCons f lNil) ρ = F [a] := xCall_of (lCons_of h rfl)
theorem xCall2 {F : List PV → Option PV} (h : f ρ = some a) (h' : g ρ = some c) : xCall F (lCons f (lCons g lNil)) ρ = F [a, c] := xCall_of (lCons_of h (lCons_of h' rfl))
theorem xMeth1 {F : PV → List PV → Option PV} (h : f ρ = some a) (h' : g ρ = some c) : xMeth F f (lCons g lNil) ρ = F a [c] := by unfold xMeth; rw [h, lCons_of h' rfl]; rfl
theorem pAssign_of {i : Nat} (h : f ρ = some a) : pAssign i f ρ = some (.next, ρ.set i (some a)) := by unfold pAssign; rw [h]; rfl
theorem pAug_of {i : Nat} {op : Operator} {v : PV} (h0 : ρ[i]? = some (some c)) (h : f ρ = some a) (h' : pyAug op c a = some v) : pAug i op f ρ = some (.next, ρ.set i (some v)) := by unfold pAug; rw [h0, h]; show (pyAug op c a).map _ = _; rw [h']; rfl
theorem pIf_true {t : TF} {x y : SF} (h : t ρ = some true) : pIf t x y ρ = x ρ := by unfold pIf; rw [h]; rfl
theorem pIf_false {t : TF} {x y : SF} (h : t ρ = some false) : pIf t x y ρ = y ρ := by unfold pIf; rw [h]; rfl
theorem pRet_of (h : f ρ = some a) : pRet f ρ = some (.ret a, ρ) := by unfold pRet; rw [h]; rfl
theorem pTurn_of {i : Nat} {G : PV → PV → Option PV} {v : PV} (h0 : ρ[i]? = some (some c)) (h : f ρ = some a) (h' : G c a = some v) : pTurn i G f ρ = some (.next, ρ.set i (some v)) := by unfold pTurn; rw [h0, h]; show (G c a).map _ = _; rw [h']; rfl
theorem pPut_of {i : Nat} {v l k : PV} (h : g ρ = some a) (h0 : ρ[i]? = some (some l)) (h1 : f ρ = some k) (h' : putPV l k a = some v) : pPut i f g ρ = some (.next, ρ.set i (some v)) := by unfold pPut; rw [h, h0, h1]; show (putPV l k a).map _ = _; rw [h']; rfl
theorem len1_ls {S : List (List Nat)} (h : S.length ≤ 1000) : len1 [PV.ls S] = some (.int S.length) := if_pos (Nat.le_trans h (by decide))
theorem len1_li {S : List Int} (h : S.length ≤ 1000) : len1 [PV.li S] = some (.int S.length) := if_pos (Nat.le_trans h (by decide))
theorem idx_ls {S : List (List Nat)} {p : Nat} {y : List Nat} (hp : p < 100000) (h : S[p]? = some y) : pyIdx (.ls S) (.int p) = some (.str y) := by
  unfold pyIdx
  dsimp only
  rw [if_pos ⟨Int.natCast_nonneg p, by omega⟩, Int.toNat_natCast, h]; rfl
theorem idx_li {S : List Int} {p : Nat} {y : Int} (hp : p < 100000) (h : S[p]? = some y) : pyIdx (.li S) (.int p) = some (.int y) := by
  unfold pyIdx
  dsimp only
  rw [if_pos ⟨Int.natCast_nonneg p, by omega⟩, Int.toNat_natCast, h]; rfl
theorem add_ls {S T : List (List Nat)} (h : S.length + T.length ≤ 1000) : pyBin .Add (.ls S) (.ls T) = some (.ls (S ++ T)) := if_pos (Nat.le_trans h (by decide))
theorem add_li {S T : List Int} (h : S.length + T.length ≤ 1000) : pyBin .Add (.li S) (.li T) = some (.li (S ++ T)) := if_pos (Nat.le_trans h (by decide))
theorem slice_ls {S : List (List Nat)} {l u : Option Int} (h : S.length ≤ 1000) : pySlice l u (.ls S) = some (.ls (pick l u S)) := if_pos (Nat.le_trans h (by decide))
theorem slice_li {S : List Int} {l u : Option Int} (h : S.length ≤ 1000) : pySlice l u (.li S) = some (.li (pick l u S)) := if_pos (Nat.le_trans h (by decide))
end

theorem strcoll_eq (a b : List Nat) : F_strcoll [.str a, .str b] = some (.int (b2i (decide (b < a)) - b2i (decide (a < b)))) := rfl

theorem str_total (a b : List Nat) : a = b ∨ a < b ∨ b < a := by
  by_cases h : a < b
  · exact .inr (.inl h)
  · by_cases h' : b < a
    · exact .inr (.inr h')
    · exact .inl (leS_antisymm (a := a) (b := b) h' h)
theorem strcoll_zero (a b : List Nat) : ((b2i (decide (b < a)) - b2i (decide (a < b)) : Int) == 0) = decide (a = b) := by
  rcases str_total a b with h | h | h
  · subst h
    simp
  · have h2 : ¬ b < a := List.lt_asymm h
    have h3 : a ≠ b := fun e => by subst e; exact List.lt_irrefl _ h
    simp [h, h2, h3, b2i]
  · have h2 : ¬ a < b := List.lt_asymm h
    have h3 : a ≠ b := fun e => by subst e; exact List.lt_irrefl _ h
    simp [h, h2, h3, b2i]
theorem strcoll_neg (a b : List Nat) : (decide ((b2i (decide (b < a)) - b2i (decide (a < b)) : Int) < 0)) = decide (a < b) := by
  rcases str_total a b with h | h | h
  · subst h
    simp
  · have h2 : ¬ b < a := List.lt_asymm h
    simp [h, h2, b2i]
  · have h2 : ¬ a < b := List.lt_asymm h
    simp [h, h2, b2i]

theorem is_there_for (t : List Nat) (q : Option PV) (z : Option PV) : ∀ (B : List (List Nat)),
    ∃ z', pFor 2 (pIf (tCmp .Eq (xCall F_strcoll (lCons (xVar 2) (lCons (xVar 1) lNil))) (xInt 0)) (pRet (xBool true)) pSkip) (B.map .str) [q, some (.str t), z] = some (if t ∈ B then .ret (.bool true) else .next, [q, some (.str t), z'])
  | [] => ⟨z, rfl⟩
  | y :: B => by
    have e : tCmp .Eq (xCall F_strcoll (lCons (xVar 2) (lCons (xVar 1) lNil))) (xInt 0) [q, some (.str t), some (.str y)] = some (decide (y = t)) := by
      show some ((b2i (decide (t < y)) - b2i (decide (y < t)) : Int) == 0) = _
      rw [strcoll_zero]
    have hs : [q, some (.str t), z].set 2 (some (.str y)) = [q, some (.str t), some (.str y)] := rfl
    rw [List.map_cons, pFor, hs]
    have eb : pIf (tCmp .Eq (xCall F_strcoll (lCons (xVar 2) (lCons (xVar 1) lNil))) (xInt 0)) (pRet (xBool true)) pSkip [q, some (.str t), some (.str y)] = if y = t then some (.ret (.bool true), [q, some (.str t), some (.str y)]) else some (.next, [q, some (.str t), some (.str y)]) := by
      unfold pIf
      rw [e]
      by_cases h : y = t
      · simp [h, pRet, xBool]
      · simp [h, pSkip]
    rw [eb]
    by_cases h : y = t
    · subst h
      exact ⟨some (.str y), by simp⟩
    · obtain ⟨z', hz⟩ := is_there_for t q (some (.str y)) B
      refine ⟨z', ?_⟩
      have hm : (t ∈ y :: B) = (t ∈ B) := by simp [Ne.symm h]
      simp only [hm, h, if_false]
      exact hz

theorem is_there_eq (B : List (List Nat)) (t : List Nat) (hB : B.length ≤ 1000) : F_law_is_there [.ls B, .str t] = some (.bool (decide (t ∈ B))) := by
  obtain ⟨z', hz⟩ := is_there_for t (some (.ls B)) none B
  have hit : iList (xVar 0) [some (PV.ls B), some (.str t), none] = some (B.map .str) := if_pos (Nat.le_trans hB (by decide))
  by_cases h : t ∈ B
  · rw [if_pos h] at hz
    rw [decide_eq_true h]
    refine runF_of (k := 2) (r := 1) rfl (ρ' := [some (.ls B), some (.str t), z']) ?_
    refine pSeq_ret ?_
    show pForElse _ _ _ _ [some (PV.ls B), some (.str t), none] = _
    rw [pForElse_of hit, hz]; rfl
  · rw [if_neg h] at hz
    rw [decide_eq_false h]
    refine runF_of (k := 2) (r := 1) rfl (ρ' := [some (.ls B), some (.str t), z']) ?_
    refine (pSeq_next (ρ' := [some (.ls B), some (.str t), z']) ?_).trans rfl
    show pForElse _ _ _ _ [some (PV.ls B), some (.str t), none] = _
    rw [pForElse_of hit, hz]; rfl
end Mine
end PartPl3

/- part Pl2 -/
section PartPl2
open PySem PySem.W PyProof.Rows PySem.SeqAt
set_option maxRecDepth 100000
namespace Mine

def endsT : List (List Nat) := [[10], [13], [13, 10]]
def dotted (dot : List Nat) (m i : Nat) : List Nat := (if m.testBit i then dot else []) ++ [97 + i]
def txt (m : Nat) : List Nat := (List.range 5).flatMap fun i => (if m.testBit i then [46] else []) ++ [97 + i, 13, 10]
def txt2 (m : Nat) : List Nat := (List.range 5).flatMap fun i => (if m.testBit i then [46, 46] else []) ++ [97 + i, 13, 10]
/-- the mail with one end for all its rows, and with the ends in turn -/
def txtE (m k : Nat) : List Nat := (List.range 5).flatMap fun i => dotted [46] m i ++ endsT.getD k []
def txtM (m k : Nat) : List Nat := (List.range 5).flatMap fun i => dotted [46] m i ++ endsT.getD ((k + i) % 3) []
def rowsOf (dot : List Nat) (m : Nat) : List (List Nat) := (List.range 5).map (dotted dot m) ++ [[]]

theorem all_at {n : Nat} {f : Nat → Bool} (h : (List.range n).all f = true) {m : Nat} (hm : m < n) : f m = true := List.all_eq_true.mp h m (List.mem_range.mpr hm)

theorem mail_made : ((List.range 96).all fun n => F_law_mail [.int (n % 32 : Nat), .int (n / 32 : Nat)] == some (.str (txtM (n % 32) (n / 32)))) = true := by decide +kernel
theorem mail_fixed : ((List.range 96).all fun n => subF seekB [.str [13, 10], .str (txtM (n % 32) (n / 32))] == some (.str (txt (n % 32)))) = true := by decide +kernel
theorem ends_fixed : ((List.range 96).all fun n => subF seekB [.str [13, 10], .str (txtE (n % 32) (n / 32))] == some (.str (txt (n % 32)))) = true := by decide +kernel
theorem dots_doubled : ((List.range 32).all fun m => subF seekA [.str [46, 46], .str (txt m)] == some (.str (txt2 m))) = true := by decide +kernel
theorem sent_made : ((List.range 32).all fun m => F_law_sent [.int m] == some (.str (txt2 m))) = true := by decide +kernel
theorem heard_made : ((List.range 32).all fun m => F_law_heard [.str (txt2 m)] == some (.int m)) = true := by decide +kernel
theorem txtE_two : ((List.range 32).all fun m => txtE m 2 == txt m) = true := by decide +kernel

theorem fix_of {x : List Nat} {p : PV} (h : subF seekB [.str [13, 10], .str x] = some p) : F_fix_eols [.str x] = some p :=
  runF_of (k := 1) (r := 0) (ρ' := [some (.str x)]) rfl (pRet_of ((xCall2 rfl (xVar_of rfl)).trans h))
theorem quote_of {x y : List Nat} {p : PV} (h : subF seekB [.str [13, 10], .str x] = some (.str y)) (h' : subF seekA [.str [46, 46], .str y] = some p) : F_quotedata [.str x] = some p :=
  runF_of (k := 1) (r := 0) (ρ' := [some (.str x)]) rfl (pRet_of ((xCall2 rfl ((xCall2 rfl (xVar_of rfl)).trans h)).trans h'))

/-- a mail with any one end is sent as the same text -/
theorem quote_ends {m k : Nat} (hm : m < 32) (hk : k < 3) : F_quotedata [.str (txtE m k)] = some (.str (txt2 m)) := by
  have h := beq_iff_eq.mp (all_at ends_fixed (m := k * 32 + m) (by omega))
  rw [show (k * 32 + m) % 32 = m by omega, show (k * 32 + m) / 32 = k by omega] at h
  exact quote_of h (beq_iff_eq.mp (all_at dots_doubled hm))
theorem quote_txt {m : Nat} (hm : m < 32) : F_quotedata [.str (txt m)] = some (.str (txt2 m)) := by
  have h := quote_ends hm (k := 2) (by decide)
  rw [beq_iff_eq.mp (all_at txtE_two hm)] at h
  exact h
theorem mail_at {n : Nat} (h : n < 96) : ∃ p, F_law_mail [.int ((n % 32 : Nat) : Int), .int ((n / 32 : Nat) : Int)] = some p ∧ F_fix_eols [p] = some (.str (txt (n % 32))) :=
  ⟨_, beq_iff_eq.mp (all_at mail_made h), fix_of (beq_iff_eq.mp (all_at mail_fixed h))⟩
end Mine
end PartPl2

/- part Pl4 -/
section PartPl4
open PySem PySem.W PyProof.Rows PySem.SeqAt
set_option maxRecDepth 100000
namespace Mine

theorem pick_take {α : Type} (xs : List α) (p : Nat) (h : p ≤ xs.length) : pick none (some (p : Int)) xs = xs.take p := by
  rw [pick_eq]
  have e1 : clipN none 0 xs.length = 0 := rfl
  have e2 : clipN (some (p : Int)) xs.length xs.length = p := by simp only [clipN]; omega
  rw [e1, e2, List.drop_zero]; rfl
theorem pick_drop {α : Type} (xs : List α) (p : Nat) (h : p ≤ xs.length) : pick (some (p : Int)) none xs = xs.drop p := by
  rw [pick_eq]
  have e1 : clipN none xs.length xs.length = xs.length := rfl
  have e2 : clipN (some (p : Int)) 0 xs.length = p := by simp only [clipN]; omega
  rw [e1, e2]
  exact List.take_of_length_le (by rw [List.length_drop]; exact Nat.le_refl _)

def shT : TF := tAnd (tCmp .Lt (xVar 3) (xCall len1 (lCons (xVar 1) lNil))) (tCmp .Lt (xCall F_strcoll (lCons (xIdx (xVar 1) (xVar 3)) (lCons (xVar 2) lNil))) (xInt 0))

theorem shT_end (b0 : Option PV) (S : List (List Nat)) (t : List Nat) (p : Nat) (hS : S.length ≤ 1000) (h : S.length ≤ p) : shT [b0, some (.ls S), some (.str t), some (.int p)] = some false := by
  refine tAnd_false ((tCmp_of (xVar_of rfl) ((xCall1 (xVar_of rfl)).trans (len1_ls hS))).trans ?_)
  show some (decide ((p : Int) < S.length)) = _
  rw [decide_eq_false (by omega)]
theorem shT_at (b0 : Option PV) (S : List (List Nat)) (t y : List Nat) (p : Nat) (hS : S.length ≤ 1000) (h : S[p]? = some y) : shT [b0, some (.ls S), some (.str t), some (.int p)] = some (decide (y < t)) := by
  have hp : p < S.length := (List.getElem?_eq_some_iff.mp h).1
  refine (tAnd_true ((tCmp_of (xVar_of rfl) ((xCall1 (xVar_of rfl)).trans (len1_ls hS))).trans ?_)).trans ?_
  · show some (decide ((p : Int) < S.length)) = _
    rw [decide_eq_true (by omega)]
  · refine (tCmp_of ((xCall2 ((xIdx_of (xVar_of rfl) (xVar_of rfl)).trans (idx_ls (by omega) h)) (xVar_of rfl)).trans (strcoll_eq y t)) rfl).trans ?_
    show some (decide ((b2i (decide (t < y)) - b2i (decide (y < t)) : Int) < 0)) = _
    rw [strcoll_neg]

theorem shelf_while (b0 : Option PV) (S : List (List Nat)) (t : List Nat) (hS : S.length ≤ 1000) : ∀ (rest : List (List Nat)) (p fuel : Nat), S.drop p = rest → p ≤ S.length → rest.length < fuel →
    pWhile shT (pAug 3 .Add (xInt 1)) fuel [b0, some (.ls S), some (.str t), some (.int p)] = some (.next, [b0, some (.ls S), some (.str t), some (.int (p + (rest.takeWhile fun y => decide (y < t)).length : Nat))])
  | rest, p, 0, _, _, h => absurd h (Nat.not_lt_zero _)
  | [], p, fuel + 1, hd, hp, _ => by
    have : S.length ≤ p := List.drop_eq_nil_iff.mp hd
    rw [pWhile, shT_end b0 S t p hS this]; rfl
  | y :: r, p, fuel + 1, hd, hp, hf => by
    have hy : S[p]? = some y := by
      have := congrArg (·[0]?) hd
      simpa [List.getElem?_drop] using this
    have hlt : p < S.length := (List.getElem?_eq_some_iff.mp hy).1
    have hd' : S.drop (p + 1) = r := by
      have := congrArg (·.drop 1) hd
      simpa [List.drop_drop] using this
    rw [pWhile, shT_at b0 S t y p hS hy]
    by_cases h : y < t
    · rw [decide_eq_true h]
      have ih := shelf_while b0 S t hS r (p + 1) fuel hd' hlt (by simpa using hf)
      have e : pAug 3 .Add (xInt 1) [b0, some (.ls S), some (.str t), some (.int p)] = some (.next, [b0, some (.ls S), some (.str t), some (.int ((p + 1 : Nat) : Int))]) := rfl
      show (match pAug 3 .Add (xInt 1) [b0, some (.ls S), some (.str t), some (.int p)] with | some (.next, ρ') => pWhile _ _ fuel ρ' | some (.brk, ρ') => some (.next, ρ') | r => r) = _
      rw [e]
      show pWhile _ _ fuel _ = _
      rw [ih, List.takeWhile_cons_of_pos (by simpa using h), List.length_cons, show p + ((r.takeWhile fun y => decide (y < t)).length + 1) = p + 1 + (r.takeWhile fun y => decide (y < t)).length by omega]
    · rw [decide_eq_false h, List.takeWhile_cons_of_neg (by simpa using h)]; rfl

theorem insS_take (t : List Nat) : ∀ S : List (List Nat), insS t S = S.take (S.takeWhile fun y => decide (y < t)).length ++ t :: S.drop (S.takeWhile fun y => decide (y < t)).length
  | [] => rfl
  | y :: r => by
    unfold insS
    by_cases h : y < t
    · rw [if_pos h, List.takeWhile_cons_of_pos (by simpa using h), List.length_cons, List.take_succ_cons, List.drop_succ_cons, List.cons_append, insS_take t r]
    · rw [if_neg h, List.takeWhile_cons_of_neg (by simpa using h)]; rfl

theorem shelf_for (b0 : Option PV) : ∀ (B : List (List Nat)) (S : List (List Nat)) (z3 z4 : Option PV), S.length + B.length ≤ 90 →
    ∃ z3' z4', pFor 2 (pSeq (pAssign 3 (xInt 0)) (pSeq (pWhile shT (pAug 3 .Add (xInt 1)) 100) (pAssign 1 (xBin .Add (xBin .Add (xSlice (xVar 1) pNo (pOf (xVar 3))) (xListS (lCons (xVar 2) lNil))) (xSlice (xVar 1) (pOf (xVar 3)) pNo))))) (B.map .str) [b0, some (.ls S), z3, z4]
      = some (.next, [b0, some (.ls (B.foldl (fun S t => insS t S) S)), z3', z4'])
  | [], S, z3, z4, _ => ⟨z3, z4, rfl⟩
  | t :: B, S, z3, z4, h => by
    have hS : S.length ≤ 1000 := by omega
    have hw := shelf_while b0 S t hS S 0 100 (List.drop_zero) (Nat.zero_le _) (by simp only [List.length_cons] at h; omega)
    rw [Nat.zero_add] at hw
    generalize hc : (S.takeWhile fun y => decide (y < t)).length = c at hw
    have hcl : c ≤ S.length := by rw [← hc]; exact (List.takeWhile_prefix _).length_le
    have hcap : S.length ≤ cap := Nat.le_trans hS (by decide)
    have hins : insS t S = S.take c ++ [t] ++ S.drop c := by rw [insS_take, hc, List.append_assoc]; rfl
    have ea : pAssign 1 (xBin .Add (xBin .Add (xSlice (xVar 1) pNo (pOf (xVar 3))) (xListS (lCons (xVar 2) lNil))) (xSlice (xVar 1) (pOf (xVar 3)) pNo)) [b0, some (.ls S), some (.str t), some (.int c)] = some (.next, [b0, some (.ls (insS t S)), some (.str t), some (.int c)]) := by
      have s1 : xSlice (xVar 1) pNo (pOf (xVar 3)) [b0, some (.ls S), some (.str t), some (.int c)] = some (.ls (S.take c)) := by
        rw [xSlice_of (xVar_of rfl) rfl (pOf_of (xVar_of rfl)), slice_ls hS, pick_take S c hcl]
      have s2 : xSlice (xVar 1) (pOf (xVar 3)) pNo [b0, some (.ls S), some (.str t), some (.int c)] = some (.ls (S.drop c)) := by
        rw [xSlice_of (xVar_of rfl) (pOf_of (xVar_of rfl)) rfl, slice_ls hS, pick_drop S c hcl]
      rw [pAssign_of ((xBin_of ((xBin_of s1 (c := .ls [t]) rfl).trans (add_ls ?_)) s2).trans (add_ls ?_)), hins]
      · rfl
      · simp only [List.length_take, List.length_cons, List.length_nil]; omega
      · simp only [List.length_append, List.length_take, List.length_drop, List.length_cons, List.length_nil]; omega
    obtain ⟨z3', z4', ih⟩ := shelf_for b0 B (insS t S) (some (.str t)) (some (.int c)) (by rw [(insS_perm t S).length_eq, List.length_cons]; simp only [List.length_cons] at h; omega)
    refine ⟨z3', z4', ?_⟩
    have hs : [b0, some (.ls S), z3, z4].set 2 (some (.str t)) = [b0, some (.ls S), some (.str t), z4] := rfl
    rw [List.map_cons, pFor, hs]
    have eb : pSeq (pAssign 3 (xInt 0)) (pSeq (pWhile shT (pAug 3 .Add (xInt 1)) 100) (pAssign 1 (xBin .Add (xBin .Add (xSlice (xVar 1) pNo (pOf (xVar 3))) (xListS (lCons (xVar 2) lNil))) (xSlice (xVar 1) (pOf (xVar 3)) pNo)))) [b0, some (.ls S), some (.str t), z4] = some (.next, [b0, some (.ls (insS t S)), some (.str t), some (.int c)]) := by
      rw [pSeq_next (ρ' := [b0, some (.ls S), some (.str t), some (.int ((0 : Nat) : Int))]) rfl, pSeq_next hw, ea]
    rw [eb]
    exact ih

theorem fold_ins : ∀ (B S : List (List Nat)), S.Pairwise leS → (B.foldl (fun S t => insS t S) S).Pairwise leS ∧ (B.foldl (fun S t => insS t S) S).Perm (B ++ S)
  | [], S, h => ⟨h, .refl _⟩
  | t :: B, S, h => by
    obtain ⟨h1, h2⟩ := fold_ins B (insS t S) (insS_sorted t S h)
    refine ⟨h1, h2.trans ?_⟩
    refine (List.Perm.append_left B (insS_perm t S)).trans ?_
    exact List.perm_middle

theorem shelf_eq (B : List (List Nat)) (hB : B.length ≤ 90) : F_law_shelf [.ls B] = some (.ls (sortS B)) := by
  obtain ⟨z3, z4, hz⟩ := shelf_for (some (.ls B)) B [] none none (by simpa using hB)
  have hsort : B.foldl (fun S t => insS t S) [] = sortS B := by
    obtain ⟨h1, h2⟩ := fold_ins B [] .nil
    rw [List.append_nil] at h2
    exact sorted_unique (h2.trans (sortS_perm B).symm) h1 (sortS_sorted B)
  rw [hsort] at hz
  refine runF_of (k := 1) (r := 3) rfl (ρ' := [some (.ls B), some (.ls (sortS B)), z3, z4]) ?_
  have hit : iList (xVar 0) [some (PV.ls B), some (.ls []), none, none] = some (B.map .str) := if_pos (Nat.le_trans hB (by decide))
  refine (pSeq_next (ρ' := [some (.ls B), some (.ls []), none, none]) rfl).trans ?_
  refine (pSeq_next (ρ' := [some (.ls B), some (.ls (sortS B)), z3, z4]) ?_).trans rfl
  rw [pForElse_of hit]
  exact (congrArg (loopEnd pSkip) hz).trans rfl
end Mine
end PartPl4

/- part Pl5 -/
section PartPl5
open PySem PySem.W PyProof.Rows PySem.SeqAt
set_option maxRecDepth 100000
namespace Mine

def ofN (l : List Nat) : List Int := l.map fun (n : Nat) => (n : Int)
theorem ofN_length (l : List Nat) : (ofN l).length = l.length := List.length_map ..
theorem ofN_inj {a b : List Nat} (h : ofN a = ofN b) : a = b := by
  unfold ofN at h
  exact List.map_inj_right (fun x y e => by exact_mod_cast e) |>.mp h
theorem mem_ofN {l : List Nat} {x : Nat} : ((x : Int) ∈ ofN l) ↔ x ∈ l := by
  unfold ofN
  rw [List.mem_map]
  constructor
  · rintro ⟨y, hy, e⟩
    have : y = x := by exact_mod_cast e
    exact this ▸ hy
  · intro h; exact ⟨x, h, rfl⟩
theorem contains_ofN (l : List Nat) (x : Nat) : (ofN l).contains (x : Int) = decide (x ∈ l) := by
  rw [Bool.eq_iff_iff, List.contains_iff_mem, mem_ofN, decide_eq_true_eq]
theorem fmod_nat (a b : Nat) : ((a : Int).fmod (b : Int)) = ((a % b : Nat) : Int) := by rw [Int.fmod_eq_emod_of_nonneg _ (Int.natCast_nonneg b)]; rfl
theorem fdiv_nat (a b : Nat) : ((a : Int).fdiv (b : Int)) = ((a / b : Nat) : Int) := by rw [Int.fdiv_eq_ediv_of_nonneg _ (Int.natCast_nonneg b)]; rfl
theorem mod_pv (a b : Nat) (hb : b ≠ 0) : pyBin .Mod (.int a) (.int b) = some (.int ((a % b : Nat) : Int)) := by
  unfold pyBin
  dsimp only
  rw [if_neg (by omega), fmod_nat]
theorem div_pv (a b : Nat) (hb : b ≠ 0) (h : b < 1000000) : pyBin .FloorDiv (.int a) (.int b) = some (.int ((a / b : Nat) : Int)) := by
  unfold pyBin
  dsimp only
  rw [if_neg (by omega), fdiv_nat]

def addNew (S : List Nat) (x : Nat) : List Nat := if x ∈ S then S else S ++ [x]
def fam (ns : List Nat) : List Nat := (ns.map (· % 32)).foldl addNew []

theorem addNew_length (S : List Nat) (x : Nat) : (addNew S x).length ≤ S.length + 1 := by
  unfold addNew; split <;> simp
theorem addNew_nodup {S : List Nat} (h : S.Nodup) (x : Nat) : (addNew S x).Nodup := by
  unfold addNew
  split
  · exact h
  · rename_i hx
    exact List.nodup_append.mpr ⟨h, by simp, fun a ha b hb e => by rw [List.mem_singleton] at hb; subst hb; subst e; exact hx ha⟩
theorem addNew_mem {S : List Nat} {x y : Nat} : y ∈ addNew S x ↔ y ∈ S ∨ y = x := by
  unfold addNew
  split
  · rename_i hx
    exact ⟨.inl, fun h => h.elim id fun e => e ▸ hx⟩
  · simp
theorem foldl_addNew : ∀ (l S : List Nat), S.Nodup → (∀ x ∈ S, x < 32) → (∀ x ∈ l, x < 32) → (l.foldl addNew S).Nodup ∧ (∀ x ∈ l.foldl addNew S, x < 32) ∧ (l.foldl addNew S).length ≤ S.length + l.length
  | [], S, h, h1, _ => ⟨h, h1, Nat.le_refl _⟩
  | x :: l, S, h, h1, h2 => by
    obtain ⟨a, b, c⟩ := foldl_addNew l (addNew S x) (addNew_nodup h x) (fun y hy => (addNew_mem.mp hy).elim (h1 y) fun e => by subst e; exact h2 _ List.mem_cons_self) fun y hy => h2 y (List.mem_cons_of_mem _ hy)
    refine ⟨a, b, Nat.le_trans c ?_⟩
    have := addNew_length S x
    rw [List.length_cons]; omega
theorem fam_ok (ns : List Nat) : (fam ns).Nodup ∧ (∀ x ∈ fam ns, x < 32) ∧ (fam ns).length ≤ ns.length := by
  obtain ⟨a, b, c⟩ := foldl_addNew (ns.map (· % 32)) [] .nil (fun _ h => nomatch h) fun x hx => by
    obtain ⟨y, _, rfl⟩ := List.mem_map.mp hx; exact Nat.mod_lt _ (by decide)
  refine ⟨a, b, ?_⟩
  unfold fam; simpa using c

theorem family_for (b0 : Option PV) : ∀ (ns S : List Nat) (z : Option PV), S.length + ns.length ≤ 1000 →
    ∃ z', pFor 2 (pIf (tCmp .NotIn (xBin .Mod (xVar 2) (xInt 32)) (xVar 1)) (pTurn 1 addPV (xBin .Mod (xVar 2) (xInt 32))) pSkip) ((ofN ns).map .int) [b0, some (.li (ofN S)), z] = some (.next, [b0, some (.li (ofN ((ns.map (· % 32)).foldl addNew S))), z'])
  | [], S, z, _ => ⟨z, rfl⟩
  | n :: ns, S, z, h => by
    have hs : [b0, some (.li (ofN S)), z].set 2 (some (.int (n : Int))) = [b0, some (.li (ofN S)), some (.int n)] := rfl
    have e1 : xBin .Mod (xVar 2) (xInt 32) [b0, some (.li (ofN S)), some (.int n)] = some (.int ((n % 32 : Nat) : Int)) := (xBin_of (xVar_of rfl) rfl).trans (mod_pv n 32 (by decide))
    have e2 : tCmp .NotIn (xBin .Mod (xVar 2) (xInt 32)) (xVar 1) [b0, some (.li (ofN S)), some (.int n)] = some (!decide (n % 32 ∈ S)) := by
      rw [tCmp_of e1 (xVar_of rfl)]
      show some (!(ofN S).contains ((n % 32 : Nat) : Int)) = _
      rw [contains_ofN]
    have eb : pIf (tCmp .NotIn (xBin .Mod (xVar 2) (xInt 32)) (xVar 1)) (pTurn 1 addPV (xBin .Mod (xVar 2) (xInt 32))) pSkip [b0, some (.li (ofN S)), some (.int n)] = some (.next, [b0, some (.li (ofN (addNew S (n % 32)))), some (.int n)]) := by
      by_cases hm : n % 32 ∈ S
      · rw [pIf_false (by rw [e2, decide_eq_true hm]; rfl)]
        unfold addNew; rw [if_pos hm]; rfl
      · have hadd : addPV (.li (ofN S)) (.int ((n % 32 : Nat) : Int)) = some (.li (ofN (S ++ [n % 32]))) := by
          refine (if_pos (Nat.le_trans ?_ (by decide : 1000 ≤ cap))).trans ?_
          · rw [ofN_length]; omega
          · unfold ofN; rw [List.map_append]; rfl
        rw [pIf_true (by rw [e2, decide_eq_false hm]; rfl), pTurn_of rfl e1 hadd]
        unfold addNew; rw [if_neg hm]; rfl
    obtain ⟨z', ih⟩ := family_for b0 ns (addNew S (n % 32)) (some (.int n)) (by have := addNew_length S (n % 32); rw [List.length_cons] at h; omega)
    refine ⟨z', ?_⟩
    show pFor 2 _ (PV.int (n : Int) :: (ofN ns).map .int) _ = _
    rw [pFor, hs, eb]
    exact ih
theorem family_eq (ns : List Nat) (h : ns.length ≤ 900) : F_law_family [.li (ofN ns)] = some (.li (ofN (fam ns))) := by
  obtain ⟨z, hz⟩ := family_for (some (.li (ofN ns))) ns [] none (by simpa using Nat.le_trans h (by decide : 900 ≤ 1000))
  refine runF_of (k := 1) (r := 2) rfl (ρ' := [some (.li (ofN ns)), some (.li (ofN (fam ns))), z]) ?_
  have hit : iList (xVar 0) [some (PV.li (ofN ns)), some (.li (ofN [])), none] = some ((ofN ns).map .int) := if_pos (by rw [ofN_length]; exact Nat.le_trans h (by decide))
  refine (pSeq_next (ρ' := [some (.li (ofN ns)), some (.li (ofN [])), none]) rfl).trans ?_
  refine (pSeq_next (ρ' := [some (.li (ofN ns)), some (.li (ofN (fam ns))), z]) ?_).trans rfl
  rw [pForElse_of hit]
  exact (congrArg (loopEnd pSkip) hz).trans rfl

theorem txt_inj_all : ((List.range 32).all fun a => (List.range 32).all fun b => a == b || txt a != txt b) = true := by decide +kernel
theorem txt_inj {a b : Nat} (ha : a < 32) (hb : b < 32) (h : txt a = txt b) : a = b := by
  have := List.all_eq_true.mp (List.all_eq_true.mp txt_inj_all a (List.mem_range.mpr ha)) b (List.mem_range.mpr hb)
  rw [h] at this
  simpa using this
theorem mem_txt {S : List Nat} (hS : ∀ x ∈ S, x < 32) {m : Nat} (hm : m < 32) : txt m ∈ S.map txt ↔ m ∈ S := by
  rw [List.mem_map]
  exact ⟨fun ⟨y, hy, e⟩ => txt_inj (hS y hy) hm e ▸ hy, fun h => ⟨m, h, rfl⟩⟩

theorem book_for (b0 : Option PV) : ∀ (ns S : List Nat) (z z2 : Option PV), S.length + ns.length ≤ 900 → (∀ n ∈ ns, n < 96) → (∀ x ∈ S, x < 32) →
    ∃ z' z2', pFor 2 (pSeq (pAssign 3 (xCall F_fix_eols (lCons (xCall F_law_mail (lCons (xBin .Mod (xVar 2) (xInt 32)) (lCons (xBin .FloorDiv (xVar 2) (xInt 32)) lNil))) lNil)))
      (pIf (tNot (tPlain (xCall F_law_is_there (lCons (xVar 1) (lCons (xVar 3) lNil))))) (pTurn 1 addPV (xVar 3)) pSkip)) ((ofN ns).map .int) [b0, some (.ls (S.map txt)), z, z2] = some (.next, [b0, some (.ls (((ns.map (· % 32)).foldl addNew S).map txt)), z', z2'])
  | [], S, z, z2, _, _, _ => ⟨z, z2, rfl⟩
  | n :: ns, S, z, z2, h, hn, hS => by
    have hm32 : n % 32 < 32 := Nat.mod_lt _ (by decide)
    have hs : [b0, some (.ls (S.map txt)), z, z2].set 2 (some (.int (n : Int))) = [b0, some (.ls (S.map txt)), some (.int n), z2] := rfl
    obtain ⟨p, hp1, hp2⟩ := mail_at (hn n List.mem_cons_self)
    have e1 : pAssign 3 (xCall F_fix_eols (lCons (xCall F_law_mail (lCons (xBin .Mod (xVar 2) (xInt 32)) (lCons (xBin .FloorDiv (xVar 2) (xInt 32)) lNil))) lNil)) [b0, some (.ls (S.map txt)), some (.int n), z2] = some (.next, [b0, some (.ls (S.map txt)), some (.int n), some (.str (txt (n % 32)))]) := by
      refine (pAssign_of ((xCall1 ((xCall2 ((xBin_of (xVar_of rfl) rfl).trans (mod_pv n 32 (by decide))) ((xBin_of (xVar_of rfl) rfl).trans (div_pv n 32 (by decide) (by decide)))).trans hp1)).trans hp2)).trans rfl
    have e2 : tNot (tPlain (xCall F_law_is_there (lCons (xVar 1) (lCons (xVar 3) lNil)))) [b0, some (.ls (S.map txt)), some (.int n), some (.str (txt (n % 32)))] = some (!decide (n % 32 ∈ S)) := by
      refine tNot_of ((tPlain_of ((xCall2 (xVar_of rfl) (xVar_of rfl)).trans (is_there_eq _ _ ?_))).trans ?_)
      · rw [List.length_map]; omega
      · show some (decide (txt (n % 32) ∈ S.map txt)) = _
        rw [decide_eq_decide.mpr (mem_txt hS hm32)]
    have eb : pIf (tNot (tPlain (xCall F_law_is_there (lCons (xVar 1) (lCons (xVar 3) lNil))))) (pTurn 1 addPV (xVar 3)) pSkip [b0, some (.ls (S.map txt)), some (.int n), some (.str (txt (n % 32)))] = some (.next, [b0, some (.ls ((addNew S (n % 32)).map txt)), some (.int n), some (.str (txt (n % 32)))]) := by
      by_cases hm : n % 32 ∈ S
      · rw [pIf_false (by rw [e2, decide_eq_true hm]; rfl)]
        unfold addNew; rw [if_pos hm]; rfl
      · have hadd : addPV (.ls (S.map txt)) (.str (txt (n % 32))) = some (.ls ((S ++ [n % 32]).map txt)) := by
          refine (if_pos (Nat.le_trans ?_ (by decide : 1000 ≤ cap))).trans ?_
          · rw [List.length_map]; omega
          · rw [List.map_append]; rfl
        rw [pIf_true (by rw [e2, decide_eq_false hm]; rfl), pTurn_of rfl (xVar_of rfl) hadd]
        unfold addNew; rw [if_neg hm]; rfl
    obtain ⟨z', z2', ih⟩ := book_for b0 ns (addNew S (n % 32)) (some (.int n)) (some (.str (txt (n % 32)))) (by have := addNew_length S (n % 32); rw [List.length_cons] at h; omega)
      (fun x hx => hn x (List.mem_cons_of_mem _ hx)) fun x hx => (addNew_mem.mp hx).elim (hS x) fun e => by subst e; exact hm32
    refine ⟨z', z2', ?_⟩
    show pFor 2 _ (PV.int (n : Int) :: (ofN ns).map .int) _ = _
    rw [pFor, hs, pSeq_next e1, eb]
    exact ih
theorem book_eq (ns : List Nat) (h : ns.length ≤ 900) (hn : ∀ n ∈ ns, n < 96) : F_law_book [.li (ofN ns)] = some (.ls ((fam ns).map txt)) := by
  obtain ⟨z, z2, hz⟩ := book_for (some (.li (ofN ns))) ns [] none none (by simpa using h) hn (fun _ h => nomatch h)
  refine runF_of (k := 1) (r := 3) rfl (ρ' := [some (.li (ofN ns)), some (.ls ((fam ns).map txt)), z, z2]) ?_
  have hit : iList (xVar 0) [some (PV.li (ofN ns)), some (.ls []), none, none] = some ((ofN ns).map .int) := if_pos (by rw [ofN_length]; exact Nat.le_trans h (by decide))
  refine (pSeq_next (ρ' := [some (.li (ofN ns)), some (.ls []), none, none]) rfl).trans ?_
  refine (pSeq_next (ρ' := [some (.li (ofN ns)), some (.ls ((fam ns).map txt)), z, z2]) ?_).trans rfl
  rw [pForElse_of hit]
  exact (congrArg (loopEnd pSkip) hz).trans rfl
end Mine
end PartPl5

/- part Pl6a -/
section PartPl6a
open PySem PySem.W PyProof.Rows PySem.SeqAt
set_option maxRecDepth 100000
namespace Mine

def rowX : XF := xIte (tCmp .Eq (xSlice (xVar 0) pNo (pOf (xInt 1))) (xStr [46])) (xSlice (xVar 0) (pOf (xInt 1)) pNo) (xVar 0)
theorem rows_split : ((List.range 32).all fun m => splitF (.str (txt m)) [.str [13, 10]] == some (.ls (rowsOf [46] m))) = true := by decide +kernel
theorem rows_joined : ((List.range 96).all fun n => joinF (.str (endsT.getD (n / 32) [])) [.ls (rowsOf [46] (n % 32))] == some (.str (txtE (n % 32) (n / 32)))) = true := by decide +kernel
theorem rows_split2 : ((List.range 32).all fun m => splitF (.str (txt2 m)) [.str [13, 10]] == some (.ls (rowsOf [46, 46] m))) = true := by decide +kernel
theorem rows_taken : ((List.range 32).all fun m => (pComp tYes rowX (fun p => [some p]) ((rowsOf [46, 46] m).map .str)).bind lsOf == some (.ls (rowsOf [46] m))) = true := by decide +kernel
def rowOk (m e : Nat) : Bool := match (rowsOf [46] m)[e]? with
  | some row => decide (row.length ≤ 1000) && ((pick none (some 1) row == [46]) == m.testBit e) && (!m.testBit e || (rowsOf [46] m).set e (pick (some 1) none row) == rowsOf [46] (m - 2 ^ e))
  | none => false
theorem rows_sunk : ((List.range 32).all fun m => (List.range 5).all fun e => rowOk m e) = true := by decide +kernel

theorem items_ok {S : List (List Nat)} (h : S.length ≤ 1000) : pyItems (.ls S) = some (S.map .str) := if_pos (Nat.le_trans h (by decide))
theorem rowsOf_len (dot : List Nat) (m : Nat) : (rowsOf dot m).length = 6 := rfl
theorem joined_at {m k : Nat} (hm : m < 32) (hk : k < 3) : joinF (.str (endsT.getD k [])) [.ls (rowsOf [46] m)] = some (.str (txtE m k)) := by
  have h := beq_iff_eq.mp (all_at rows_joined (m := k * 32 + m) (by omega))
  rw [show (k * 32 + m) % 32 = m by omega, show (k * 32 + m) / 32 = k by omega] at h
  exact h
theorem joined_txt {m : Nat} (hm : m < 32) : joinF (.str [13, 10]) [.ls (rowsOf [46] m)] = some (.str (txt m)) := by
  have h := joined_at hm (k := 2) (by decide)
  rw [beq_iff_eq.mp (all_at txtE_two hm)] at h
  exact h

structure SinkFacts (m e : Nat) : Prop where
  facts : ∃ sp j sent items rows row, splitF (.str (txt m)) [.str [13, 10]] = some sp ∧ joinF (.str (endsT.getD (e % 3) [])) [sp] = some j ∧ F_quotedata [j] = some sent ∧ (splitF sent [.str [13, 10]]).bind pyItems = some items ∧
    (pComp tYes rowX (fun p => [some p]) items).bind lsOf = some (.ls rows) ∧ rows[e]? = some row ∧ rows.length ≤ 1000 ∧ row.length ≤ 1000 ∧ (pick none (some 1) row == [46]) = m.testBit e ∧
    (m.testBit e = true → joinF (.str [13, 10]) [.ls (rows.set e (pick (some 1) none row))] = some (.str (txt (m - 2 ^ e))))
theorem sink_facts {m e : Nat} (hm : m < 32) (he : e < 5) : SinkFacts m e := by
  have h := all_at (all_at rows_sunk hm) he
  unfold rowOk at h
  split at h
  case h_2 => cases h
  rename_i row h6
  simp only [Bool.and_eq_true, decide_eq_true_eq, beq_iff_eq, Bool.or_eq_true, Bool.not_eq_true'] at h
  obtain ⟨⟨b, c⟩, d⟩ := h
  have h3 : e % 3 < 3 := Nat.mod_lt _ (by decide)
  refine ⟨.ls (rowsOf [46] m), .str (txtE m (e % 3)), .str (txt2 m), (rowsOf [46, 46] m).map .str, rowsOf [46] m, row, beq_iff_eq.mp (all_at rows_split hm), joined_at hm h3, quote_ends hm h3, ?_, beq_iff_eq.mp (all_at rows_taken hm), h6, by rw [rowsOf_len]; decide, b, c, fun ht => ?_⟩
  · rw [beq_iff_eq.mp (all_at rows_split2 hm)]
    exact items_ok (S := rowsOf [46, 46] m) (by rw [rowsOf_len]; decide)
  · rw [d.resolve_left (by rw [ht]; decide)]
    exact joined_txt (Nat.lt_of_le_of_lt (Nat.sub_le _ _) hm)
end Mine
end PartPl6a

/- part Pl6 -/
section PartPl6
open PySem PySem.W PyProof.Rows PySem.SeqAt
set_option maxRecDepth 100000
namespace Mine

def sinkOne (e : Nat) (M : List Nat) (k : Nat) : List Nat := match M[k]? with
  | some m => if m.testBit e = true ∧ m - 2 ^ e ∉ M then M.set k (m - 2 ^ e) else M
  | none => M
def sinkAll (M : List Nat) (e : Nat) : List Nat := (List.range M.length).foldl (sinkOne e) M
def sunk (M : List Nat) (order : List Nat) : List Nat := order.foldl sinkAll M

theorem sinkOne_length (e : Nat) (M : List Nat) (k : Nat) : (sinkOne e M k).length = M.length := by
  unfold sinkOne
  split
  · split
    · rw [List.length_set]
    · rfl
  · rfl
theorem sinkOne_lt {e : Nat} {M : List Nat} (h : ∀ x ∈ M, x < 32) (k : Nat) : ∀ x ∈ sinkOne e M k, x < 32 := by
  unfold sinkOne
  split
  · rename_i m hm
    split
    · intro x hx
      rcases List.mem_or_eq_of_mem_set hx with h1 | h1
      · exact h x h1
      · subst h1
        exact Nat.lt_of_le_of_lt (Nat.sub_le _ _) (h m (List.mem_of_getElem? hm))
    · exact h
  · exact h
theorem foldl_sinkOne (e : Nat) : ∀ (ks M : List Nat), (∀ x ∈ M, x < 32) → (ks.foldl (sinkOne e) M).length = M.length ∧ ∀ x ∈ ks.foldl (sinkOne e) M, x < 32
  | [], M, h => ⟨rfl, h⟩
  | k :: ks, M, h => by
    obtain ⟨a, b⟩ := foldl_sinkOne e ks (sinkOne e M k) (sinkOne_lt h k)
    exact ⟨a.trans (sinkOne_length e M k), b⟩

def sinkBody : SF := (pSeq (pAssign 5 (xCall F_quotedata (lCons (xMeth joinF (xIdx (xVar 2) (xBin .Mod (xVar 3) (xInt 3))) (lCons (xMeth splitF (xIdx (xVar 0) (xVar 4)) (lCons (xStr [13, 10]) lNil)) lNil)) lNil)))
      (pSeq (pAssign 6 (xComp [] lsOf (iList (xMeth splitF (xVar 5) (lCons (xStr [13, 10]) lNil))) tYes rowX))
      (pIf (tCmp .Eq (xSlice (xIdx (xVar 6) (xVar 3)) pNo (pOf (xInt 1))) (xStr [46])) (pSeq (pPut 6 (xVar 3) (xSlice (xIdx (xVar 6) (xVar 3)) (pOf (xInt 1)) pNo))
        (pSeq (pAssign 7 (xMeth joinF (xStr [13, 10]) (lCons (xVar 6) lNil)))
        (pIf (tNot (tPlain (xCall F_law_is_there (lCons (xVar 0) (lCons (xVar 7) lNil))))) (pPut 0 (xVar 4) (xVar 7)) pSkip))) pSkip)))

def sinkEnv (M : List Nat) (o : Option PV) (e : Nat) (k z5 z6 z7 : Option PV) : REnv := [some (.ls (M.map txt)), o, some (.ls endsT), some (.int e), k, z5, z6, z7]

theorem slice_str {s : List Nat} {l u : Option Int} (h : s.length ≤ 1000) : pySlice l u (.str s) = some (.str (pick l u s)) := if_pos (Nat.le_trans h (by decide))

theorem sink_body {M : List Nat} (hM : ∀ x ∈ M, x < 32) (hlen : M.length ≤ 900) {e k : Nat} (he : e < 5) (hk : k < M.length) (o z5 z6 z7 : Option PV) :
    ∃ z5' z6' z7', sinkBody (sinkEnv M o e (some (.int k)) z5 z6 z7) = some (.next, sinkEnv (sinkOne e M k) o e (some (.int k)) z5' z6' z7') := by
  have hmk : M[k]? = some M[k] := List.getElem?_eq_getElem hk
  generalize M[k] = m at hmk
  have hm : m < 32 := hM m (List.mem_of_getElem? hmk)
  obtain ⟨sp, j, sent, items, rows, row, h1, h2, h3, h4, h5, h6, h7, h8, h9, h10⟩ := (sink_facts hm he).facts
  have hbk : (M.map txt)[k]? = some (txt m) := by rw [List.getElem?_map, hmk]; rfl
  have hend : endsT[e % 3]? = some (endsT.getD (e % 3) []) := by
    have : e % 3 < 3 := Nat.mod_lt _ (by decide)
    rw [List.getD_eq_getElem?_getD, List.getElem?_eq_getElem (show e % 3 < endsT.length from this)]; rfl
  have e5 : pAssign 5 (xCall F_quotedata (lCons (xMeth joinF (xIdx (xVar 2) (xBin .Mod (xVar 3) (xInt 3))) (lCons (xMeth splitF (xIdx (xVar 0) (xVar 4)) (lCons (xStr [13, 10]) lNil)) lNil)) lNil)) (sinkEnv M o e (some (.int k)) z5 z6 z7) = some (.next, sinkEnv M o e (some (.int k)) (some sent) z6 z7) := by
    refine (pAssign_of ((xCall1 ((xMeth1 ((xIdx_of (xVar_of rfl) ((xBin_of (xVar_of rfl) rfl).trans (mod_pv e 3 (by decide)))).trans (idx_ls (by omega) hend)) ((xMeth1 ((xIdx_of (xVar_of rfl) (xVar_of rfl)).trans (idx_ls (by omega) hbk)) rfl).trans h1)).trans h2)).trans h3)).trans rfl
  have e6 : pAssign 6 (xComp [] lsOf (iList (xMeth splitF (xVar 5) (lCons (xStr [13, 10]) lNil))) tYes rowX) (sinkEnv M o e (some (.int k)) (some sent) z6 z7) = some (.next, sinkEnv M o e (some (.int k)) (some sent) (some (.ls rows)) z7) := by
    refine (pAssign_of (a := .ls rows) ?_).trans rfl
    have hi : iList (xMeth splitF (xVar 5) (lCons (xStr [13, 10]) lNil)) (sinkEnv M o e (some (.int k)) (some sent) z6 z7) = some items := by
      show (xMeth splitF (xVar 5) (lCons (xStr [13, 10]) lNil) (sinkEnv M o e (some (.int k)) (some sent) z6 z7)).bind pyItems = _
      rw [xMeth1 (a := sent) (c := .str [13, 10]) (xVar_of rfl) rfl]; exact h4
    unfold xComp
    rw [hi]
    exact h5
  have er : xIdx (xVar 6) (xVar 3) (sinkEnv M o e (some (.int k)) (some sent) (some (.ls rows)) z7) = some (.str row) := (xIdx_of (xVar_of rfl) (xVar_of rfl)).trans (idx_ls (by omega) h6)
  have et : tCmp .Eq (xSlice (xIdx (xVar 6) (xVar 3)) pNo (pOf (xInt 1))) (xStr [46]) (sinkEnv M o e (some (.int k)) (some sent) (some (.ls rows)) z7) = some (m.testBit e) := by
    rw [tCmp_of ((xSlice_of er rfl (pOf_of rfl)).trans (slice_str h8)) (c := .str [46]) rfl]
    show some (pick none (some 1) row == [46]) = _
    rw [h9]
  unfold sinkBody
  rw [pSeq_next e5, pSeq_next e6]
  by_cases hb : m.testBit e = true
  · have hel : e < rows.length := (List.getElem?_eq_some_iff.mp h6).1
    have e7 : pPut 6 (xVar 3) (xSlice (xIdx (xVar 6) (xVar 3)) (pOf (xInt 1)) pNo) (sinkEnv M o e (some (.int k)) (some sent) (some (.ls rows)) z7) = some (.next, sinkEnv M o e (some (.int k)) (some sent) (some (.ls (rows.set e (pick (some 1) none row)))) z7) := by
      refine (pPut_of (l := .ls rows) (k := .int e) ((xSlice_of er (pOf_of rfl) rfl).trans (slice_str h8)) rfl (xVar_of rfl) (v := .ls (rows.set e (pick (some 1) none row))) ?_).trans rfl
      refine (if_pos ⟨by omega, by omega, Nat.le_trans h7 (by decide)⟩).trans ?_
      rw [Int.toNat_natCast]
    have e8 : pAssign 7 (xMeth joinF (xStr [13, 10]) (lCons (xVar 6) lNil)) (sinkEnv M o e (some (.int k)) (some sent) (some (.ls (rows.set e (pick (some 1) none row)))) z7) = some (.next, sinkEnv M o e (some (.int k)) (some sent) (some (.ls (rows.set e (pick (some 1) none row)))) (some (.str (txt (m - 2 ^ e))))) :=
      (pAssign_of ((xMeth1 rfl (xVar_of rfl)).trans (h10 hb))).trans rfl
    have hsub : m - 2 ^ e < 32 := Nat.lt_of_le_of_lt (Nat.sub_le _ _) hm
    have e9 : tNot (tPlain (xCall F_law_is_there (lCons (xVar 0) (lCons (xVar 7) lNil)))) (sinkEnv M o e (some (.int k)) (some sent) (some (.ls (rows.set e (pick (some 1) none row)))) (some (.str (txt (m - 2 ^ e))))) = some (!decide (m - 2 ^ e ∈ M)) := by
      refine tNot_of ((tPlain_of ((xCall2 (xVar_of rfl) (xVar_of rfl)).trans (is_there_eq _ _ ?_))).trans ?_)
      · rw [List.length_map]; omega
      · show some (decide (txt (m - 2 ^ e) ∈ M.map txt)) = _
        rw [decide_eq_decide.mpr (mem_txt hM hsub)]
    rw [pIf_true (by rw [et, hb]), pSeq_next e7, pSeq_next e8]
    by_cases hin : m - 2 ^ e ∈ M
    · refine ⟨some sent, some (.ls (rows.set e (pick (some 1) none row))), some (.str (txt (m - 2 ^ e))), ?_⟩
      rw [pIf_false (by rw [e9, decide_eq_true hin]; rfl)]
      have : sinkOne e M k = M := by unfold sinkOne; rw [hmk]; exact if_neg fun h => h.2 hin
      rw [this]; rfl
    · refine ⟨some sent, some (.ls (rows.set e (pick (some 1) none row))), some (.str (txt (m - 2 ^ e))), ?_⟩
      rw [pIf_true (by rw [e9, decide_eq_false hin]; rfl)]
      have hso : sinkOne e M k = M.set k (m - 2 ^ e) := by unfold sinkOne; rw [hmk]; exact if_pos ⟨hb, hin⟩
      refine (pPut_of (l := .ls (M.map txt)) (k := .int k) (xVar_of rfl) rfl (xVar_of rfl) (v := .ls ((sinkOne e M k).map txt)) ?_).trans rfl
      refine (if_pos ⟨by omega, by rw [List.length_map]; omega, by rw [List.length_map]; exact Nat.le_trans hlen (by decide)⟩).trans ?_
      rw [Int.toNat_natCast, hso, List.map_set]
  · refine ⟨some sent, some (.ls rows), z7, ?_⟩
    have hb' : m.testBit e = false := by simpa using hb
    rw [pIf_false (by rw [et, hb'])]
    have : sinkOne e M k = M := by unfold sinkOne; rw [hmk]; exact if_neg fun h => hb h.1
    rw [this]; rfl
end Mine
end PartPl6

/- part Pl7 -/
section PartPl7
open PySem PySem.W PyProof.Rows PySem.SeqAt
set_option maxRecDepth 100000
namespace Mine

theorem sink_ks {e : Nat} (he : e < 5) (o : Option PV) (n : Nat) : ∀ (ks M : List Nat) (k0 z5 z6 z7 : Option PV), (∀ x ∈ M, x < 32) → M.length = n → n ≤ 900 → (∀ k ∈ ks, k < n) →
    ∃ k0' z5' z6' z7', pFor 4 sinkBody (ks.map fun (k : Nat) => PV.int k) (sinkEnv M o e k0 z5 z6 z7) = some (.next, sinkEnv (ks.foldl (sinkOne e) M) o e k0' z5' z6' z7')
  | [], M, k0, z5, z6, z7, _, _, _, _ => ⟨k0, z5, z6, z7, rfl⟩
  | k :: ks, M, k0, z5, z6, z7, hM, hn, hle, hk => by
    have hs : (sinkEnv M o e k0 z5 z6 z7).set 4 (some (.int (k : Int))) = sinkEnv M o e (some (.int k)) z5 z6 z7 := rfl
    obtain ⟨a, b, c, hb⟩ := sink_body hM (by omega) he (by rw [hn]; exact hk k List.mem_cons_self) o z5 z6 z7
    obtain ⟨k0', z5', z6', z7', ih⟩ := sink_ks he o n ks (sinkOne e M k) (some (.int k)) a b c (sinkOne_lt hM k) ((sinkOne_length e M k).trans hn) hle fun x hx => hk x (List.mem_cons_of_mem _ hx)
    refine ⟨k0', z5', z6', z7', ?_⟩
    rw [List.map_cons, pFor, hs, hb]
    exact ih

def sunkEnv (M : List Nat) (o e k z5 z6 z7 : Option PV) : REnv := [some (.ls (M.map txt)), o, some (.ls endsT), e, k, z5, z6, z7]
def sinkFor : SF := pForElse (iRange (xCall len1 (lCons (xVar 0) lNil))) 4 sinkBody pSkip

theorem sink_for {e : Nat} (he : e < 5) {M : List Nat} (hM : ∀ x ∈ M, x < 32) (hle : M.length ≤ 900) (o k z5 z6 z7 : Option PV) :
    ∃ k' z5' z6' z7', sinkFor (sunkEnv M o (some (.int e)) k z5 z6 z7) = some (.next, sunkEnv (sinkAll M e) o (some (.int e)) k' z5' z6' z7') := by
  obtain ⟨k', a, b, c, h⟩ := sink_ks he o M.length (List.range M.length) M k z5 z6 z7 hM rfl hle fun k hk => List.mem_range.mp hk
  refine ⟨k', a, b, c, ?_⟩
  have hit : iRange (xCall len1 (lCons (xVar 0) lNil)) (sunkEnv M o (some (.int e)) k z5 z6 z7) = some ((List.range M.length).map fun (k : Nat) => PV.int k) := by
    unfold iRange
    rw [xCall1 (a := .ls (M.map txt)) (xVar_of rfl), len1_ls (by rw [List.length_map]; omega), List.length_map]
    show (if (M.length : Int) ≤ 100000 ∧ (-100000 : Int) ≤ M.length then some ((List.range (M.length : Int).toNat).map fun (i : Nat) => PV.int i) else none) = _
    rw [if_pos ⟨by omega, by omega⟩, Int.toNat_natCast]
  unfold sinkFor
  rw [pForElse_of hit]
  exact (congrArg (loopEnd pSkip) h).trans rfl

theorem sinkAll_ok {M : List Nat} (hM : ∀ x ∈ M, x < 32) (e : Nat) : (sinkAll M e).length = M.length ∧ ∀ x ∈ sinkAll M e, x < 32 := foldl_sinkOne e _ M hM

theorem sunk_es (o : Option PV) : ∀ (es M : List Nat) (e0 k z5 z6 z7 : Option PV), (∀ x ∈ M, x < 32) → M.length ≤ 900 → (∀ e ∈ es, e < 5) →
    ∃ e0' k' z5' z6' z7', pFor 3 sinkFor ((ofN es).map .int) (sunkEnv M o e0 k z5 z6 z7) = some (.next, sunkEnv (sunk M es) o e0' k' z5' z6' z7')
  | [], M, e0, k, z5, z6, z7, _, _, _ => ⟨e0, k, z5, z6, z7, rfl⟩
  | e :: es, M, e0, k, z5, z6, z7, hM, hle, he => by
    have hs : (sunkEnv M o e0 k z5 z6 z7).set 3 (some (.int (e : Int))) = sunkEnv M o (some (.int e)) k z5 z6 z7 := rfl
    obtain ⟨k1, a, b, c, h1⟩ := sink_for (he e List.mem_cons_self) hM hle o k z5 z6 z7
    obtain ⟨h2, h3⟩ := sinkAll_ok hM e
    obtain ⟨e0', k', z5', z6', z7', ih⟩ := sunk_es o es (sinkAll M e) (some (.int e)) k1 a b c h3 (by omega) fun x hx => he x (List.mem_cons_of_mem _ hx)
    refine ⟨e0', k', z5', z6', z7', ?_⟩
    show pFor 3 _ (PV.int (e : Int) :: (ofN es).map .int) _ = _
    rw [pFor, hs, h1]
    exact ih

theorem sunk_eq {M order : List Nat} (hM : ∀ x ∈ M, x < 32) (hle : M.length ≤ 900) (ho : ∀ e ∈ order, e < 5) (hol : order.length ≤ 900) : F_law_sunk [.ls (M.map txt), .li (ofN order)] = some (.ls ((sunk M order).map txt)) := by
  obtain ⟨a, b, c, d, e, h⟩ := sunk_es (some (.li (ofN order))) order M none none none none none hM hle ho
  refine runF_of (k := 2) (r := 6) rfl (ρ' := sunkEnv (sunk M order) (some (.li (ofN order))) a b c d e) ?_
  have hit : iList (xVar 1) (sunkEnv M (some (.li (ofN order))) none none none none none) = some ((ofN order).map .int) := if_pos (by rw [ofN_length]; exact Nat.le_trans hol (by decide))
  refine (pSeq_next (ρ' := sunkEnv M (some (.li (ofN order))) none none none none none) rfl).trans ?_
  refine (pSeq_next (ρ' := sunkEnv (sunk M order) (some (.li (ofN order))) a b c d e) ?_).trans rfl
  refine (pForElse_of hit).trans ?_
  exact (congrArg (loopEnd pSkip) h).trans rfl
end Mine
end PartPl7

/- part Pl8 -/
section PartPl8
open PySem PySem.W PyProof.Rows PySem.SeqAt
set_option maxRecDepth 100000
namespace Mine

theorem bitAnd_nat (a b : Nat) : Builtin.bitAnd (a : Int) (b : Int) = ((a &&& b : Nat) : Int) := by
  unfold Builtin.bitAnd
  rw [decide_eq_true (Int.natCast_nonneg a), decide_eq_true (Int.natCast_nonneg b)]
  simp
theorem and_low (a t : Nat) (h : t < 64) : (a * 2 ^ 6) &&& t = 0 := by
  refine Nat.eq_of_testBit_eq fun i => ?_
  rw [Nat.testBit_and, Nat.zero_testBit]
  by_cases hi : i < 6
  · rw [Nat.testBit_mul_two_pow]
    simp; omega
  · have : t.testBit i = false := Nat.testBit_lt_two_pow (Nat.lt_of_lt_of_le h (by
      have : 2 ^ 6 ≤ 2 ^ i := Nat.pow_le_pow_right (by decide) (by omega)
      exact this))
    rw [this, Bool.and_false]
theorem or_low (a t : Nat) (h : t < 64) : Builtin.bitOr ((a : Int) * 2 ^ 6) (t : Int) = ((a * 64 + t : Nat) : Int) := by
  have e : ((a : Int) * 2 ^ 6) = ((a * 2 ^ 6 : Nat) : Int) := by push_cast; rfl
  rw [e, bitOr_and, bitAnd_nat, and_low a t h]
  push_cast
  omega

def dg (c : Nat) : Nat := c % 64 + c % 2 * 128
def hi (c : Nat) : Nat := 64 + c % 64 + c % 2 * 128
theorem digit_all : ((List.range 64).all fun t => ((t + t % 2 * 128) &&& 63 == t) && ((t + t % 2 * 128) &&& 64 == 0) && ((64 + t + t % 2 * 128) &&& 63 == t) && ((64 + t + t % 2 * 128) &&& 64 == 64)) = true := by decide +kernel
theorem digit_at (c : Nat) : (dg c &&& 63 = c % 64) ∧ (dg c &&& 64 = 0) ∧ (hi c &&& 63 = c % 64) ∧ (hi c &&& 64 = 64) := by
  have := List.all_eq_true.mp digit_all (c % 64) (List.mem_range.mpr (Nat.mod_lt _ (by decide)))
  have e : c % 64 % 2 = c % 2 := Nat.mod_mod_of_dvd c (by decide)
  rw [e] at this
  simp only [Bool.and_eq_true, beq_iff_eq] at this
  exact ⟨this.1.1.1, this.1.1.2, this.1.2, this.2⟩

def hiL : Nat → Nat → List Nat
  | 0, _ => []
  | n + 1, c => if c > 63 then hiL n (c / 64) ++ [hi (c / 64)] else []

theorem vmore_hi (v : Nat) (hv : v < 2 ^ 60) (q : Nat) (y : Int) (r : List Int) : vmore (v : Int) ((hi q : Nat) : Int) (y :: r) = vmore (Builtin.bitOr ((v : Int) * 2 ^ 6) (Builtin.bitAnd y 63)) y r := by
  show (if Builtin.bitAnd ((hi q : Nat) : Int) ((64 : Nat) : Int) = 0 then _ else if ((v : Int)).natAbs < 2 ^ 64 then _ else _) = _
  rw [bitAnd_nat, (digit_at q).2.2.2, if_neg (by decide), if_pos (by
    have : (2:Nat) ^ 60 ≤ 2 ^ 64 := by decide
    rw [Int.natAbs_natCast]; omega)]
theorem vmore_dg (v : Int) (q : Nat) (r : List Int) : vmore v ((dg q : Nat) : Int) r = some (v, r) := by
  have e : Builtin.bitAnd ((dg q : Nat) : Int) 64 = 0 := by
    show Builtin.bitAnd ((dg q : Nat) : Int) ((64 : Nat) : Int) = 0
    rw [bitAnd_nat, (digit_at q).2.1]; rfl
  cases r with
  | nil => exact if_pos e
  | cons y r => exact if_pos e
theorem and63_hi (q : Nat) : Builtin.bitAnd ((hi q : Nat) : Int) 63 = ((q % 64 : Nat) : Int) := by
  show Builtin.bitAnd ((hi q : Nat) : Int) ((63 : Nat) : Int) = _
  rw [bitAnd_nat, (digit_at q).2.2.1]
theorem and63_dg (q : Nat) : Builtin.bitAnd ((dg q : Nat) : Int) 63 = ((q % 64 : Nat) : Int) := by
  show Builtin.bitAnd ((dg q : Nat) : Int) ((63 : Nat) : Int) = _
  rw [bitAnd_nat, (digit_at q).1]

theorem read_hi : ∀ (n c : Nat), 63 < c → c < 64 ^ (n + 1) → c < 2 ^ 60 → ∀ (y : Int) (r : List Int), varint (ofN (hiL n c) ++ y :: r) = vmore (Builtin.bitOr (((c / 64 : Nat) : Int) * 2 ^ 6) (Builtin.bitAnd y 63)) y r
  | 0, c, h, h1, _, y, r => by rw [Nat.zero_add, Nat.pow_one] at h1; omega
  | n + 1, c, h, h1, h2, y, r => by
    have hlt : c / 64 < 64 ^ (n + 1) := by
      rw [Nat.div_lt_iff_lt_mul (by decide)]
      rw [Nat.pow_succ] at h1; exact h1
    have hb : c / 64 < 2 ^ 60 := Nat.lt_of_le_of_lt (Nat.div_le_self _ _) h2
    rw [hiL, if_pos h]
    have e0 : ofN (hiL n (c / 64) ++ [hi (c / 64)]) ++ y :: r = ofN (hiL n (c / 64)) ++ ((hi (c / 64) : Nat) : Int) :: y :: r := by
      unfold ofN; rw [List.map_append, List.append_assoc]; rfl
    rw [e0]
    by_cases hc : c / 64 > 63
    · rw [read_hi n (c / 64) hc hlt hb, and63_hi, or_low _ _ (Nat.mod_lt _ (by decide)), show c / 64 / 64 * 64 + c / 64 % 64 = c / 64 by omega]
      exact vmore_hi _ hb _ y r
    · have e1 : hiL n (c / 64) = [] := by
        cases n with
        | zero => rfl
        | succ n => rw [hiL, if_neg hc]
      rw [e1]
      show vmore (Builtin.bitAnd ((hi (c / 64) : Nat) : Int) 63) _ _ = _
      rw [and63_hi, show c / 64 % 64 = c / 64 by omega]
      exact vmore_hi _ hb _ y r

theorem read_one (n c : Nat) (h : c < 64 ^ (n + 1)) (h2 : c < 2 ^ 60) (r : List Int) : varint (ofN (hiL n c ++ [dg c]) ++ r) = some ((c : Int), r) := by
  have e0 : ofN (hiL n c ++ [dg c]) ++ r = ofN (hiL n c) ++ ((dg c : Nat) : Int) :: r := by
    unfold ofN; rw [List.map_append, List.append_assoc]; rfl
  rw [e0]
  by_cases hc : 63 < c
  · rw [read_hi n c hc h h2, and63_dg, or_low _ _ (Nat.mod_lt _ (by decide)), vmore_dg, show c / 64 * 64 + c % 64 = c by omega]
  · have e1 : hiL n c = [] := by
      cases n with
      | zero => rfl
      | succ n => rw [hiL, if_neg hc]
    rw [e1]
    show vmore (Builtin.bitAnd ((dg c : Nat) : Int) 63) _ _ = _
    rw [and63_dg, vmore_dg, show c % 64 = c by omega]

def tapeOf (cs : List Nat) : List Nat := cs.flatMap fun c => hiL 39 c ++ [dg c]
theorem read_all : ∀ (cs : List Nat) (k : Nat), (∀ c ∈ cs, c < 2 ^ 60) → cs.length < k → readN k (ofN (tapeOf cs)) = some (ofN cs)
  | [], 0, _, h => absurd h (Nat.not_lt_zero _)
  | [], k + 1, _, _ => rfl
  | c :: cs, 0, _, h => absurd h (Nat.not_lt_zero _)
  | c :: cs, k + 1, hc, hk => by
    have h1 := hc c List.mem_cons_self
    have hr := read_one 39 c (Nat.lt_of_lt_of_le h1 (by decide)) h1 (ofN (tapeOf cs))
    have e : ofN (tapeOf (c :: cs)) = ofN (hiL 39 c ++ [dg c]) ++ ofN (tapeOf cs) := by
      unfold tapeOf ofN; rw [List.flatMap_cons, List.map_append]
    rw [e]
    generalize hz : ofN (hiL 39 c ++ [dg c]) ++ ofN (tapeOf cs) = z at hr
    cases z with
    | nil => cases hr
    | cons y q =>
      rw [readN, hr]
      show (readN k (ofN (tapeOf cs))).map _ = _
      rw [read_all cs k (fun x hx => hc x (List.mem_cons_of_mem _ hx)) (by simpa using hk)]; rfl
end Mine
end PartPl8

/- part Pl9 -/
section PartPl9
open PySem PySem.W PyProof.Rows PySem.SeqAt
set_option maxRecDepth 100000
namespace Mine

theorem hiL_len : ∀ n c, (hiL n c).length ≤ n
  | 0, _ => Nat.le_refl _
  | n + 1, c => by
    rw [hiL]
    split
    · rw [List.length_append, List.length_singleton]; have := hiL_len n (c / 64); omega
    · exact Nat.zero_le _

theorem ofN_append (a b : List Nat) : ofN (a ++ b) = ofN a ++ ofN b := List.map_append
theorem ofN_set (a : List Nat) (i x : Nat) : ofN (a.set i x) = (ofN a).set i (x : Int) := List.map_set
theorem pAugPut_of {ρ : REnv} {i : Nat} {op : Operator} {fi fv : XF} {l k old v new l' : PV} (h0 : ρ[i]? = some (some l)) (h1 : fi ρ = some k) (h2 : pyIdx l k = some old) (h3 : fv ρ = some v) (h4 : pyAug op old v = some new) (h5 : putPV l k new = some l') : pAugPut i op fi fv ρ = some (.next, ρ.set i (some l')) := by
  unfold pAugPut
  rw [h0, h1]
  simp only [Option.join, Option.bind_some, h2, h3, h4, h5, Option.map_some, id]

def tapeT : TF := tCmp .Gt (xVar 2) (xInt 63)
def tapeB : SF := pSeq (pAug 2 .FloorDiv (xInt 64))
      (pAssign 3 (xBin .Add (xListI (lCons (xBin .Add (xBin .Add (xInt 64) (xBin .Mod (xVar 2) (xInt 64))) (xBin .Mult (xBin .Mod (xVar 2) (xInt 2)) (xInt 128))) lNil)) (xVar 3)))

theorem mul128 (a : Nat) (h : a < 2) : pyBin .Mult (.int (a : Int)) (.int 128) = some (.int ((a * 128 : Nat) : Int)) := by
  show (if (a : Int).natAbs < 2 ^ 32 then some (PV.int ((a : Int) * 128)) else none) = _
  rw [if_pos (by rw [Int.natAbs_natCast]; have : (2:Nat) < 2 ^ 32 := by decide
                 omega)]
  rfl
theorem listI1 {ρ : REnv} {f : XF} {x : Int} (h : f ρ = some (.int x)) : xListI (lCons f lNil) ρ = some (.li [x]) := by
  unfold xListI
  rw [lCons_of h rfl]; rfl

theorem tape_while (b0 b1 : Option PV) : ∀ (n c : Nat) (fs : List Nat), c < 64 ^ (n + 1) → fs.length + n ≤ 900 → ∃ z, pWhile tapeT tapeB (n + 1) [b0, b1, some (.int (c : Int)), some (.li (ofN fs))] = some (.next, [b0, b1, z, some (.li (ofN (hiL n c ++ fs)))])
  | n, c, fs, h, hl => by
    have et : tapeT [b0, b1, some (.int (c : Int)), some (.li (ofN fs))] = some (decide (63 < c)) := by
      show some (decide ((63 : Int) < (c : Int))) = _
      rw [decide_eq_decide.mpr (show (63 : Int) < (c : Int) ↔ 63 < c by omega)]
    by_cases hc : 63 < c
    · cases n with
      | zero => rw [Nat.zero_add, Nat.pow_one] at h; omega
      | succ n =>
        have hlt : c / 64 < 64 ^ (n + 1) := by
          rw [Nat.div_lt_iff_lt_mul (by decide)]
          rw [Nat.pow_succ] at h; exact h
        have eb : tapeB [b0, b1, some (.int (c : Int)), some (.li (ofN fs))] = some (.next, [b0, b1, some (.int ((c / 64 : Nat) : Int)), some (.li (ofN (hi (c / 64) :: fs)))]) := by
          have e1 : pAug 2 .FloorDiv (xInt 64) [b0, b1, some (.int (c : Int)), some (.li (ofN fs))] = some (.next, [b0, b1, some (.int ((c / 64 : Nat) : Int)), some (.li (ofN fs))]) := by
            refine (pAug_of (c := .int c) (a := .int 64) rfl rfl (v := .int ((c / 64 : Nat) : Int)) ?_).trans rfl
            show (if (64 : Int) = 0 ∨ 1073741824 ≤ (64 : Int).natAbs then none else some (PV.int ((c : Int).fdiv ((64 : Nat) : Int)))) = _
            rw [if_neg (by decide), fdiv_nat]
          have e2 : xBin .Add (xBin .Add (xInt 64) (xBin .Mod (xVar 2) (xInt 64))) (xBin .Mult (xBin .Mod (xVar 2) (xInt 2)) (xInt 128)) [b0, b1, some (.int ((c / 64 : Nat) : Int)), some (.li (ofN fs))] = some (.int ((hi (c / 64) : Nat) : Int)) := by
            refine (xBin_of ((xBin_of (a := .int 64) rfl ((xBin_of (xVar_of rfl) rfl).trans (mod_pv (c / 64) 64 (by decide)))).trans rfl) ((xBin_of ((xBin_of (xVar_of rfl) rfl).trans (mod_pv (c / 64) 2 (by decide))) rfl).trans (mul128 _ (Nat.mod_lt _ (by decide))))).trans ?_
            show some (PV.int (64 + ((c / 64 % 64 : Nat) : Int) + ((c / 64 % 2 * 128 : Nat) : Int))) = _
            unfold hi; push_cast; rfl
          unfold tapeB
          rw [pSeq_next e1]
          refine (pAssign_of ((xBin_of (listI1 e2) (xVar_of rfl)).trans (add_li ?_))).trans rfl
          show 1 + (ofN fs).length ≤ 1000
          rw [ofN_length]; omega
        obtain ⟨z, ih⟩ := tape_while b0 b1 n (c / 64) (hi (c / 64) :: fs) hlt (by rw [List.length_cons]; omega)
        refine ⟨z, ?_⟩
        rw [pWhile, et, decide_eq_true hc]
        show (match tapeB [b0, b1, some (.int (c : Int)), some (.li (ofN fs))] with | some (.next, ρ') => pWhile tapeT tapeB (n + 1) ρ' | some (.brk, ρ') => some (.next, ρ') | r => r) = _
        rw [eb]
        show pWhile tapeT tapeB (n + 1) _ = _
        rw [ih, hiL, if_pos hc, List.append_assoc]; rfl
    · refine ⟨some (.int c), ?_⟩
      have e1 : hiL n c = [] := by
        cases n with
        | zero => rfl
        | succ n => rw [hiL, if_neg hc]
      rw [pWhile, et, decide_eq_false hc, e1]; rfl

def tapeFor : SF := pSeq (pAssign 3 (xListI (lCons (xBin .Add (xBin .Mod (xVar 2) (xInt 64)) (xBin .Mult (xBin .Mod (xVar 2) (xInt 2)) (xInt 128))) lNil)))
    (pSeq (pWhile tapeT tapeB 40) (pTurn 1 extPV (xVar 3)))

theorem tape_for (b0 : Option PV) : ∀ (cs os : List Nat) (z z3 : Option PV), (∀ c ∈ cs, c < 2 ^ 60) → os.length + 40 * cs.length ≤ 900 →
    ∃ z' z3', pFor 2 tapeFor ((ofN cs).map .int) [b0, some (.li (ofN os)), z, z3] = some (.next, [b0, some (.li (ofN (os ++ tapeOf cs))), z', z3'])
  | [], os, z, z3, _, _ => ⟨z, z3, by unfold tapeOf; rw [List.flatMap_nil, List.append_nil]; rfl⟩
  | c :: cs, os, z, z3, hc, hl => by
    have h1 := hc c List.mem_cons_self
    rw [List.length_cons] at hl
    have hs : [b0, some (.li (ofN os)), z, z3].set 2 (some (.int (c : Int))) = [b0, some (.li (ofN os)), some (.int c), z3] := rfl
    have e1 : pAssign 3 (xListI (lCons (xBin .Add (xBin .Mod (xVar 2) (xInt 64)) (xBin .Mult (xBin .Mod (xVar 2) (xInt 2)) (xInt 128))) lNil)) [b0, some (.li (ofN os)), some (.int (c : Int)), z3] = some (.next, [b0, some (.li (ofN os)), some (.int (c : Int)), some (.li (ofN [dg c]))]) := by
      refine (pAssign_of (listI1 (x := ((dg c : Nat) : Int)) ?_)).trans rfl
      refine (xBin_of ((xBin_of (xVar_of rfl) rfl).trans (mod_pv c 64 (by decide))) ((xBin_of ((xBin_of (xVar_of rfl) rfl).trans (mod_pv c 2 (by decide))) rfl).trans (mul128 _ (Nat.mod_lt _ (by decide))))).trans ?_
      show some (PV.int (((c % 64 : Nat) : Int) + ((c % 2 * 128 : Nat) : Int))) = _
      unfold dg; push_cast; rfl
    obtain ⟨zc, e2⟩ := tape_while b0 (some (.li (ofN os))) 39 c [dg c] (Nat.lt_of_lt_of_le h1 (by decide)) (by rw [List.length_singleton]; omega)
    have hfl : (hiL 39 c ++ [dg c]).length ≤ 40 := by rw [List.length_append, List.length_singleton]; have := hiL_len 39 c; omega
    have e3 : pTurn 1 extPV (xVar 3) [b0, some (.li (ofN os)), zc, some (.li (ofN (hiL 39 c ++ [dg c])))] = some (.next, [b0, some (.li (ofN (os ++ (hiL 39 c ++ [dg c])))), zc, some (.li (ofN (hiL 39 c ++ [dg c])))]) := by
      refine (pTurn_of (c := .li (ofN os)) rfl (xVar_of rfl) (v := .li (ofN (os ++ (hiL 39 c ++ [dg c])))) ?_).trans rfl
      refine (if_pos (Nat.le_trans ?_ (by decide : 1000 ≤ cap))).trans ?_
      · rw [ofN_length, ofN_length]; omega
      · exact congrArg (fun t => some (PV.li t)) (ofN_append _ _).symm
    obtain ⟨z', z3', ih⟩ := tape_for b0 cs (os ++ (hiL 39 c ++ [dg c])) zc (some (.li (ofN (hiL 39 c ++ [dg c])))) (fun x hx => hc x (List.mem_cons_of_mem _ hx)) (by rw [List.length_append]; omega)
    refine ⟨z', z3', ?_⟩
    show pFor 2 _ (PV.int (c : Int) :: (ofN cs).map .int) _ = _
    have eb : tapeFor [b0, some (.li (ofN os)), some (.int (c : Int)), z3] = some (.next, [b0, some (.li (ofN (os ++ (hiL 39 c ++ [dg c])))), zc, some (.li (ofN (hiL 39 c ++ [dg c])))]) := by
      unfold tapeFor
      rw [pSeq_next e1, pSeq_next e2]; exact e3
    rw [pFor, hs, eb]
    refine ih.trans ?_
    unfold tapeOf
    rw [List.flatMap_cons, List.append_assoc]

theorem tape_eq (cs : List Nat) (hc : ∀ c ∈ cs, c < 2 ^ 60) (hl : cs.length ≤ 20) : F_law_tape [.li (ofN cs)] = some (.li (ofN (tapeOf cs))) := by
  obtain ⟨z, z3, h⟩ := tape_for (some (.li (ofN cs))) cs [] none none hc (by rw [List.length_nil]; omega)
  refine runF_of (k := 1) (r := 3) rfl (ρ' := [some (.li (ofN cs)), some (.li (ofN (tapeOf cs))), z, z3]) ?_
  have hit : iList (xVar 0) [some (PV.li (ofN cs)), some (.li (ofN [])), none, none] = some ((ofN cs).map .int) := if_pos (by rw [ofN_length]; exact Nat.le_trans hl (by decide))
  refine (pSeq_next (ρ' := [some (.li (ofN cs)), some (.li (ofN [])), none, none]) rfl).trans ?_
  refine (pSeq_next (ρ' := [some (.li (ofN cs)), some (.li (ofN (tapeOf cs))), z, z3]) ?_).trans rfl
  refine (pForElse_of hit).trans ?_
  exact (congrArg (loopEnd pSkip) h).trans rfl

def cellI (xs : List Int) (k : Nat) (ρ : REnv) : Prop := ∃ cs z, ρ = [some (.li xs), some (.li (ofN cs)), z] ∧ cs.length = 7 ∧ ∀ c ∈ cs, c ≤ 95 + k * 1000000

theorem cells_eq (xs : List Int) (hx : xs.length ≤ 63) : ∃ cs : List Nat, F_law_cells [.li xs] = some (.li (ofN cs)) ∧ cs.length = 7 ∧ ∀ c ∈ cs, c < 2 ^ 60 := by
  have hN : xs.length = (if xs.length < 63 then xs.length else 63) := by split <;> omega
  have hit : iRange (xCall minF (lCons (xInt 63) (lCons (xCall len1 (lCons (xVar 0) lNil)) lNil))) [some (PV.li xs), some (.li (ofN [3, 45, 95, 22, 40, 81, 57])), none] = some ((List.range xs.length).map fun (k : Nat) => PV.int k) := by
    unfold iRange
    rw [xCall2 (a := .int 63) (c := .int xs.length) rfl ((xCall1 (a := .li xs) (xVar_of rfl)).trans (len1_li (by omega)))]
    have e : minF [.int 63, .int xs.length] = some (.int xs.length) := by
      show some (PV.int (if (xs.length : Int) < 63 then (xs.length : Int) else 63)) = _
      congr 2
      split <;> omega
    rw [e]
    show (if (xs.length : Int) ≤ 100000 ∧ (-100000 : Int) ≤ xs.length then some ((List.range (xs.length : Int).toNat).map fun (i : Nat) => PV.int i) else none) = _
    rw [if_pos ⟨by omega, by omega⟩, Int.toNat_natCast]
  obtain ⟨ρ', h1, cs, z, rfl, h2, h3⟩ := pFor_inv (i := 2) (body := pAugPut 1 .Add (xBin .Mod (xVar 2) (xInt 7)) (xBin .Mod (xIdx (xVar 0) (xVar 2)) (xBin .Pow (xInt 10) (xInt 6)))) (cellI xs) ((List.range xs.length).map fun (k : Nat) => PV.int k) 0 [some (PV.li xs), some (.li (ofN [3, 45, 95, 22, 40, 81, 57])), none] ⟨[3, 45, 95, 22, 40, 81, 57], none, rfl, rfl, by decide⟩ fun j x ρ hj hI => by
    obtain ⟨cs, z, rfl, hl, hb⟩ := hI
    rw [Nat.zero_add] at hb
    show ∃ ρ', _ ∧ cellI xs (0 + j + 1) ρ'
    rw [Nat.zero_add]
    rw [List.getElem?_map] at hj
    obtain ⟨k, hk, rfl⟩ := Option.map_eq_some_iff.mp hj
    obtain ⟨hk1, hk2⟩ := List.getElem?_eq_some_iff.mp hk
    rw [List.length_range] at hk1
    rw [List.getElem_range] at hk2
    subst hk2
    have hm : j % 7 < 7 := Nat.mod_lt _ (by decide)
    have hxj : xs[j]? = some xs[j] := List.getElem?_eq_getElem hk1
    have hcj : (ofN cs)[j % 7]? = some ((cs[j % 7]'(by omega) : Nat) : Int) := by unfold ofN; rw [List.getElem?_map, List.getElem?_eq_getElem (by omega)]; rfl
    have hr0 : 0 ≤ (xs[j]).fmod 1000000 := Int.fmod_nonneg_of_pos _ (by decide)
    have hr1 : (xs[j]).fmod 1000000 < 1000000 := Int.fmod_lt_of_pos _ (by decide)
    obtain ⟨r, hr⟩ := Int.eq_ofNat_of_zero_le hr0
    refine ⟨[some (.li xs), some (.li (ofN (cs.set (j % 7) (cs[j % 7]'(by omega) + r)))), some (.int j)], ?_, cs.set (j % 7) (cs[j % 7]'(by omega) + r), some (.int j), rfl, by rw [List.length_set]; exact hl, ?_⟩
    · have hs : [some (PV.li xs), some (.li (ofN cs)), z].set 2 (some (.int (j : Int))) = [some (.li xs), some (.li (ofN cs)), some (.int j)] := rfl
      rw [hs]
      have ek : xBin .Mod (xVar 2) (xInt 7) [some (.li xs), some (.li (ofN cs)), some (.int (j : Int))] = some (.int ((j % 7 : Nat) : Int)) := (xBin_of (xVar_of rfl) rfl).trans (mod_pv j 7 (by decide))
      have ev : xBin .Mod (xIdx (xVar 0) (xVar 2)) (xBin .Pow (xInt 10) (xInt 6)) [some (.li xs), some (.li (ofN cs)), some (.int (j : Int))] = some (.int (r : Int)) := by
        refine (xBin_of ((xIdx_of (xVar_of rfl) (xVar_of rfl)).trans (idx_li (by omega) hxj)) (c := .int 1000000) rfl).trans ?_
        show (if (1000000 : Int) = 0 then none else some (PV.int ((xs[j]).fmod 1000000))) = _
        rw [if_neg (by decide), hr]
      refine (pAugPut_of (l := .li (ofN cs)) (k := .int ((j % 7 : Nat) : Int)) (old := .int ((cs[j % 7]'(by omega) : Nat) : Int)) (v := .int r) (new := .int ((cs[j % 7]'(by omega) + r : Nat) : Int)) rfl ek (idx_li (by omega) hcj) ev ?_ (l' := .li (ofN (cs.set (j % 7) (cs[j % 7]'(by omega) + r)))) ?_).trans rfl
      · show some (PV.int (((cs[j % 7]'(by omega) : Nat) : Int) + (r : Int))) = _
        push_cast; rfl
      · refine (if_pos ⟨by omega, by rw [ofN_length]; omega, by rw [ofN_length, hl]; decide⟩).trans ?_
        rw [Int.toNat_natCast, ofN_set]
    · intro c hc
      rcases List.mem_or_eq_of_mem_set hc with h | h
      · exact Nat.le_trans (hb c h) (Nat.add_le_add_left (Nat.mul_le_mul_right 1000000 (Nat.le_succ j)) 95)
      · have h1 := hb (cs[j % 7]'(by omega)) (List.getElem_mem _)
        have h2 : r ≤ 1000000 := Nat.le_of_lt (Int.ofNat_lt.mp (hr ▸ hr1))
        rw [h, Nat.succ_mul, ← Nat.add_assoc]
        exact Nat.add_le_add h1 h2
  refine ⟨cs, runF_of (k := 1) (r := 2) rfl (ρ' := [some (.li xs), some (.li (ofN cs)), z]) ?_, h2, fun c hc => ?_⟩
  · have e0 : pAssign 1 (xListI (lCons (xInt 3) (lCons (xInt 45) (lCons (xInt 95) (lCons (xInt 22) (lCons (xInt 40) (lCons (xInt 81) (lCons (xInt 57) lNil)))))))) [some (PV.li xs), none, none] = some (.next, [some (PV.li xs), some (.li (ofN [3, 45, 95, 22, 40, 81, 57])), none]) := by
      refine (pAssign_of (a := .li [3, 45, 95, 22, 40, 81, 57]) ?_).trans rfl
      unfold xListI
      rw [show lCons (xInt 3) (lCons (xInt 45) (lCons (xInt 95) (lCons (xInt 22) (lCons (xInt 40) (lCons (xInt 81) (lCons (xInt 57) lNil)))))) [some (PV.li xs), none, none] = some [.int 3, .int 45, .int 95, .int 22, .int 40, .int 81, .int 57] from rfl]
      rfl
    refine (pSeq_next e0).trans ?_
    refine (pSeq_next (ρ' := [some (.li xs), some (.li (ofN cs)), z]) ?_).trans rfl
    refine (pForElse_of hit).trans ?_
    exact (congrArg (loopEnd pSkip) h1).trans rfl
  · have := h3 c hc
    rw [List.length_map, List.length_range] at this
    have h60 : (2:Nat) ^ 60 = 1152921504606846976 := by decide
    omega
end Mine
end PartPl9

/- part Pl10 -/
section PartPl10
open PySem PySem.W PyProof.Rows PySem.SeqAt
set_option maxRecDepth 100000
namespace Mine

theorem bit_all : ((List.range 32).all fun m => (List.range 5).all fun e => if m.testBit e then decide (2 ^ e ≤ m) && !(m - 2 ^ e).testBit e else (m + 2 ^ e).testBit e && decide (m + 2 ^ e < 32)) = true := by decide +kernel
theorem bit_on {m e : Nat} (hm : m < 32) (he : e < 5) (h : m.testBit e = true) : 2 ^ e ≤ m ∧ (m - 2 ^ e).testBit e = false := by
  have := List.all_eq_true.mp (List.all_eq_true.mp bit_all m (List.mem_range.mpr hm)) e (List.mem_range.mpr he)
  rw [if_pos h] at this
  simpa using this
theorem bit_off {m e : Nat} (hm : m < 32) (he : e < 5) (h : m.testBit e = false) : (m + 2 ^ e).testBit e = true ∧ m + 2 ^ e < 32 := by
  have := List.all_eq_true.mp (List.all_eq_true.mp bit_all m (List.mem_range.mpr hm)) e (List.mem_range.mpr he)
  rw [if_neg (by rw [h]; decide)] at this
  simpa using this

def phi (M : List Nat) (e m : Nat) : Nat := if m.testBit e = true ∧ m - 2 ^ e ∉ M then m - 2 ^ e else m

theorem sink_prefix {M : List Nat} {e : Nat} (hM : ∀ x ∈ M, x < 32) (hn : M.Nodup) (he : e < 5) {k : Nat} (hk : k < M.length) :
    sinkOne e ((M.take k).map (phi M e) ++ M.drop k) k = (M.take (k + 1)).map (phi M e) ++ M.drop (k + 1) := by
  have hlen : ((M.take k).map (phi M e)).length = k := by rw [List.length_map, List.length_take]; omega
  have hd : M.drop k = M[k] :: M.drop (k + 1) := List.drop_eq_getElem_cons hk
  have hget : ((M.take k).map (phi M e) ++ M.drop k)[k]? = some M[k] := by
    rw [List.getElem?_append_right (by rw [hlen]; exact Nat.le_refl _), hlen, Nat.sub_self, hd]; rfl
  have htk : M.take (k + 1) = M.take k ++ [M[k]] := (List.take_append_getElem hk).symm
  have hset : ∀ v, ((M.take k).map (phi M e) ++ M.drop k).set k v = (M.take k).map (phi M e) ++ v :: M.drop (k + 1) := fun v => by
    rw [List.set_append, if_neg (by rw [hlen]; exact Nat.lt_irrefl _), hlen, Nat.sub_self, hd]; rfl
  have hmM : M[k] ∈ M := List.getElem_mem hk
  generalize hm : M[k] = m at *
  have hm32 := hM m hmM
  have hR : (M.take (k + 1)).map (phi M e) ++ M.drop (k + 1) = (M.take k).map (phi M e) ++ phi M e m :: M.drop (k + 1) := by
    rw [htk, List.map_append, List.append_assoc]; rfl
  have hL : (M.take k).map (phi M e) ++ M.drop k = (M.take k).map (phi M e) ++ m :: M.drop (k + 1) := by rw [hd]
  rw [hR]
  unfold sinkOne
  rw [hget]
  show (if m.testBit e = true ∧ m - 2 ^ e ∉ (M.take k).map (phi M e) ++ M.drop k then _ else _) = _
  by_cases hb : m.testBit e = true
  · obtain ⟨hb1, hb2⟩ := bit_on hm32 he hb
    have hiff : (m - 2 ^ e ∈ (M.take k).map (phi M e) ++ M.drop k) ↔ m - 2 ^ e ∈ M := by
      rw [List.mem_append, List.mem_map]
      constructor
      · rintro (⟨m', hm', e'⟩ | h)
        · have hm'M := List.mem_of_mem_take hm'
          unfold phi at e'
          split at e'
          · rename_i hc
            have h1 := (bit_on (hM m' hm'M) he hc.1).1
            have : m' = m := by omega
            subst this
            exfalso
            have hnd : (M.take k ++ M.drop k).Nodup := by rw [List.take_append_drop]; exact hn
            exact (List.nodup_append.mp hnd).2.2 m' hm' m' (by rw [hd]; exact List.mem_cons_self) rfl
          · rw [← e']; exact hm'M
        · exact List.mem_of_mem_drop h
      · intro h
        have hsplit : m - 2 ^ e ∈ M.take k ++ M.drop k := by rw [List.take_append_drop]; exact h
        rcases List.mem_append.mp hsplit with h1 | h1
        · exact .inl ⟨m - 2 ^ e, h1, by unfold phi; rw [if_neg]; rintro ⟨q, _⟩; rw [hb2] at q; cases q⟩
        · exact .inr h1
    by_cases hin : m - 2 ^ e ∈ M
    · rw [if_neg fun h => h.2 (hiff.mpr hin), hL]
      unfold phi; rw [if_neg fun h => h.2 hin]
    · rw [if_pos ⟨hb, fun h => hin (hiff.mp h)⟩, hset]
      have : phi M e m = m - 2 ^ e := by unfold phi; exact if_pos ⟨hb, hin⟩
      rw [this]
  · rw [if_neg fun h => hb h.1, hL]
    have : phi M e m = m := by unfold phi; exact if_neg fun h => hb h.1
    rw [this]

theorem sinkAll_map {M : List Nat} {e : Nat} (hM : ∀ x ∈ M, x < 32) (hn : M.Nodup) (he : e < 5) : sinkAll M e = M.map (phi M e) := by
  have key : ∀ k, k ≤ M.length → (List.range k).foldl (sinkOne e) M = (M.take k).map (phi M e) ++ M.drop k := fun k => by
    induction k with
    | zero => intro _; rfl
    | succ k ih =>
      intro hk
      rw [List.range_succ, List.foldl_append, ih (by omega)]
      exact sink_prefix hM hn he hk
  unfold sinkAll
  rw [key M.length (Nat.le_refl _), List.take_length, List.drop_length, List.append_nil]

theorem nodup_map_on {α β : Type} {f : α → β} : ∀ {l : List α}, (∀ a ∈ l, ∀ c ∈ l, f a = f c → a = c) → l.Nodup → (l.map f).Nodup
  | [], _, _ => .nil
  | x :: l, h, hn => by
    obtain ⟨h1, h2⟩ := List.nodup_cons.mp hn
    rw [List.map_cons]
    refine List.nodup_cons.mpr ⟨fun hm => ?_, nodup_map_on (fun a ha c hc => h a (List.mem_cons_of_mem _ ha) c (List.mem_cons_of_mem _ hc)) h2⟩
    obtain ⟨y, hy, e⟩ := List.mem_map.mp hm
    have := h y (List.mem_cons_of_mem _ hy) x List.mem_cons_self e
    exact h1 (this ▸ hy)
theorem sinkAll_nodup {M : List Nat} {e : Nat} (hM : ∀ x ∈ M, x < 32) (hn : M.Nodup) (he : e < 5) : (sinkAll M e).Nodup := by
  rw [sinkAll_map hM hn he]
  refine nodup_map_on (fun a ha c hc h => ?_) hn
  unfold phi at h
  split at h <;> split at h
  · rename_i h1 h2
    have := (bit_on (hM a ha) he h1.1).1
    have := (bit_on (hM c hc) he h2.1).1
    omega
  · rename_i h1 h2; rw [h] at h1; exact absurd hc h1.2
  · rename_i h1 h2; rw [← h] at h2; exact absurd ha h2.2
  · exact h

theorem sinkAll_mem {M : List Nat} {e x : Nat} (hM : ∀ y ∈ M, y < 32) (hn : M.Nodup) (he : e < 5) (hx : x < 32) : x ∈ sinkAll M e ↔ if x.testBit e = true then x ∈ M ∧ x - 2 ^ e ∈ M else x ∈ M ∨ x + 2 ^ e ∈ M := by
  rw [sinkAll_map hM hn he, List.mem_map]
  by_cases hb : x.testBit e = true
  · rw [if_pos hb]
    constructor
    · rintro ⟨m, hm, e'⟩
      unfold phi at e'
      split at e'
      · rename_i hc
        have := (bit_on (hM m hm) he hc.1).2
        rw [e', hb] at this; cases this
      · rename_i hc
        subst e'
        refine ⟨hm, ?_⟩
        by_cases q : m - 2 ^ e ∈ M
        · exact q
        · exact absurd ⟨hb, q⟩ hc
    · rintro ⟨h1, h2⟩
      exact ⟨x, h1, by unfold phi; exact if_neg fun h => h.2 h2⟩
  · rw [if_neg hb]
    have hb' : x.testBit e = false := by simpa using hb
    obtain ⟨p1, p2⟩ := bit_off hx he hb'
    constructor
    · rintro ⟨m, hm, e'⟩
      unfold phi at e'
      split at e'
      · rename_i hc
        have := (bit_on (hM m hm) he hc.1).1
        right
        rw [← e', Nat.sub_add_cancel this]; exact hm
      · left; rw [← e']; exact hm
    · intro h
      by_cases q : x ∈ M
      · exact ⟨x, q, by unfold phi; exact if_neg fun h => hb h.1⟩
      · have h2 := h.resolve_left q
        exact ⟨x + 2 ^ e, h2, by unfold phi; rw [if_pos ⟨p1, by rw [Nat.add_sub_cancel]; exact q⟩, Nat.add_sub_cancel]⟩
end Mine
end PartPl10

/- part Pl11 -/
section PartPl11
open PySem PySem.W PyProof.Rows PySem.SeqAt
set_option maxRecDepth 100000
namespace Mine

/-- the game, the last place first -/
def Gr : List Nat → (Nat → Prop) → Nat → Prop
  | [], S, y => S y
  | e :: o, S, y => if y.testBit e = true then Gr o S y ∧ Gr o S (y - 2 ^ e) else Gr o S y ∨ Gr o S (y + 2 ^ e)

theorem sunk_snoc (M o : List Nat) (e : Nat) : sunk M (o ++ [e]) = sinkAll (sunk M o) e := by
  unfold sunk; rw [List.foldl_append]; rfl
theorem sunk_ok {M : List Nat} (hM : ∀ x ∈ M, x < 32) (hn : M.Nodup) : ∀ r : List Nat, (∀ e ∈ r, e < 5) → (sunk M r.reverse).Nodup ∧ (∀ x ∈ sunk M r.reverse, x < 32) ∧ (sunk M r.reverse).length = M.length ∧ ∀ x, x < 32 → (x ∈ sunk M r.reverse ↔ Gr r (· ∈ M) x)
  | [], _ => ⟨hn, hM, rfl, fun _ _ => Iff.rfl⟩
  | e :: r, he => by
    obtain ⟨h1, h2, h3, h4⟩ := sunk_ok hM hn r fun x hx => he x (List.mem_cons_of_mem _ hx)
    have he5 := he e List.mem_cons_self
    rw [List.reverse_cons, sunk_snoc]
    refine ⟨sinkAll_nodup h2 h1 he5, (sinkAll_ok h2 e).2, (sinkAll_ok h2 e).1.trans h3, fun x hx => ?_⟩
    rw [sinkAll_mem h2 h1 he5 hx, Gr]
    by_cases hb : x.testBit e = true
    · rw [if_pos hb, if_pos hb, h4 x hx, h4 _ (Nat.lt_of_le_of_lt (Nat.sub_le _ _) hx)]
    · rw [if_neg hb, if_neg hb, h4 x hx, h4 _ (bit_off hx he5 (by simpa using hb)).2]

theorem bits2_all : ((List.range 32).all fun z => (List.range 5).all fun e => (List.range 5).all fun f => e == f || (if z.testBit f then (z - 2 ^ f).testBit e == z.testBit e else (z + 2 ^ f).testBit e == z.testBit e)) = true := by decide +kernel
theorem bits2 {z e f : Nat} (hz : z < 32) (he : e < 5) (hf : f < 5) (hne : e ≠ f) : (z.testBit f = true → (z - 2 ^ f).testBit e = z.testBit e) ∧ (z.testBit f = false → (z + 2 ^ f).testBit e = z.testBit e) := by
  have := List.all_eq_true.mp (List.all_eq_true.mp (List.all_eq_true.mp bits2_all z (List.mem_range.mpr hz)) e (List.mem_range.mpr he)) f (List.mem_range.mpr hf)
  rw [Bool.or_eq_true] at this
  rcases this with h | h
  · exact absurd (beq_iff_eq.mp h) hne
  · constructor
    · intro q; rw [if_pos q] at h; exact beq_iff_eq.mp h
    · intro q; rw [if_neg (by rw [q]; decide)] at h; exact beq_iff_eq.mp h

theorem Gr_false {S : Nat → Prop} (h : ∀ y, ¬ S y) : ∀ r y, ¬ Gr r S y
  | [], y => h y
  | e :: r, y => by
    rw [Gr]
    split
    · exact fun q => Gr_false h r _ q.1
    · exact fun q => q.elim (Gr_false h r _) (Gr_false h r _)

theorem Gr_local {S S' : Nat → Prop} {e : Nat} {v : Bool} (he : e < 5) (h : ∀ z, z < 32 → z.testBit e = v → (S z ↔ S' z)) : ∀ o : List Nat, e ∉ o → (∀ f ∈ o, f < 5) → ∀ z, z < 32 → z.testBit e = v → (Gr o S z ↔ Gr o S' z)
  | [], _, _, z, hz, hv => h z hz hv
  | f :: o, hne, hf, z, hz, hv => by
    have hf5 := hf f List.mem_cons_self
    have hef : e ≠ f := fun q => hne (q ▸ List.mem_cons_self)
    have hne' : e ∉ o := fun q => hne (List.mem_cons_of_mem _ q)
    have ih := Gr_local he h o hne' fun x hx => hf x (List.mem_cons_of_mem _ hx)
    obtain ⟨b1, b2⟩ := bits2 hz he hf5 hef
    rw [Gr, Gr]
    by_cases hb : z.testBit f = true
    · rw [if_pos hb, if_pos hb, ih z hz hv, ih _ (Nat.lt_of_le_of_lt (Nat.sub_le _ _) hz) ((b1 hb).trans hv)]
    · have hb' : z.testBit f = false := by simpa using hb
      rw [if_neg hb, if_neg hb, ih z hz hv, ih _ (bit_off hz hf5 hb').2 ((b2 hb').trans hv)]

def wonR : List Nat → List Nat → List Nat
  | [], F => F.map fun _ => 0
  | e :: o, F => if F = [] then [] else
    wonR o (F.filter fun m => !m.testBit e) ++ (wonR o (F.filter fun m => m.testBit e)).filter (fun y => decide (y ∉ wonR o (F.filter fun m => !m.testBit e))) ++
      ((wonR o (F.filter fun m => m.testBit e)).filter fun y => decide (y ∈ wonR o (F.filter fun m => !m.testBit e))).map (· + 2 ^ e)

/-- its bits lie in r -/
def Supp (r : List Nat) (y : Nat) : Prop := y < 32 ∧ ∀ i, i < 5 → y.testBit i = true → i ∈ r

theorem supp_add {o : List Nat} {e y : Nat} (he : e < 5) (hne : e ∉ o) (h : Supp o y) : Supp (e :: o) (y + 2 ^ e) ∧ (y + 2 ^ e).testBit e = true ∧ y.testBit e = false := by
  have hb : y.testBit e = false := by
    cases q : y.testBit e with
    | false => rfl
    | true => exact absurd (h.2 e he q) hne
  obtain ⟨a, b⟩ := bit_off h.1 he hb
  refine ⟨⟨b, fun i hi hbi => ?_⟩, a, hb⟩
  by_cases q : i = e
  · rw [q]; exact List.mem_cons_self
  · rw [(bits2 h.1 hi he q).2 hb] at hbi
    exact List.mem_cons_of_mem _ (h.2 i hi hbi)

theorem wonR_supp : ∀ (r F : List Nat), r.Nodup → (∀ e ∈ r, e < 5) → ∀ y ∈ wonR r F, Supp r y
  | [], F, _, _, y, hy => by
    obtain ⟨_, _, rfl⟩ := List.mem_map.mp hy
    exact ⟨by decide, fun i hi h => by rw [Nat.zero_testBit] at h; cases h⟩
  | e :: o, F, hr, he, y, hy => by
    obtain ⟨h1, h2⟩ := List.nodup_cons.mp hr
    have he5 := he e List.mem_cons_self
    have ih := fun F => wonR_supp o F h2 fun x hx => he x (List.mem_cons_of_mem _ hx)
    have up : ∀ {y}, Supp o y → Supp (e :: o) y := fun h => ⟨h.1, fun i hi hb => List.mem_cons_of_mem _ (h.2 i hi hb)⟩
    rw [wonR] at hy
    split at hy
    · cases hy
    · rcases List.mem_append.mp hy with hy | hy
      · rcases List.mem_append.mp hy with hy | hy
        · exact up (ih _ y hy)
        · exact up (ih _ y (List.mem_filter.mp hy).1)
      · obtain ⟨z, hz, rfl⟩ := List.mem_map.mp hy
        exact (supp_add he5 h1 (ih _ z (List.mem_filter.mp hz).1)).1
end Mine
end PartPl11

/- part Pl12 -/
section PartPl12
open PySem PySem.W PyProof.Rows PySem.SeqAt
set_option maxRecDepth 100000
namespace Mine

theorem ext_all : ((List.range 32).all fun a => (List.range 32).all fun b => a == b || (List.range 5).any fun i => a.testBit i != b.testBit i) = true := by decide +kernel
theorem ext_bits {a b : Nat} (ha : a < 32) (hb : b < 32) (h : ∀ i, i < 5 → a.testBit i = b.testBit i) : a = b := by
  have := List.all_eq_true.mp (List.all_eq_true.mp ext_all a (List.mem_range.mpr ha)) b (List.mem_range.mpr hb)
  rw [Bool.or_eq_true] at this
  rcases this with q | q
  · exact beq_iff_eq.mp q
  · obtain ⟨i, hi, hne⟩ := List.any_eq_true.mp q
    rw [h i (List.mem_range.mp hi)] at hne
    simp at hne
theorem or_all : ((List.range 5).all fun e => (List.range 32).all fun y => (List.range 32).all fun c => c.testBit e || (decide ((y ||| c) < 32) && (if y.testBit e then (y ||| c) - 2 ^ e == (y - 2 ^ e) ||| c && (y ||| c) == (y - 2 ^ e) ||| (c + 2 ^ e) else (y ||| c) + 2 ^ e == y ||| (c + 2 ^ e)))) = true := by decide +kernel
theorem or_facts {e y c : Nat} (he : e < 5) (hy : y < 32) (hc : c < 32) (hb : c.testBit e = false) : (y ||| c) < 32 ∧ (y.testBit e = true → (y ||| c) - 2 ^ e = (y - 2 ^ e) ||| c ∧ (y ||| c) = (y - 2 ^ e) ||| (c + 2 ^ e)) ∧ (y.testBit e = false → (y ||| c) + 2 ^ e = y ||| (c + 2 ^ e)) := by
  have := List.all_eq_true.mp (List.all_eq_true.mp (List.all_eq_true.mp or_all e (List.mem_range.mpr he)) y (List.mem_range.mpr hy)) c (List.mem_range.mpr hc)
  rw [hb, Bool.false_or, Bool.and_eq_true] at this
  refine ⟨by simpa using this.1, fun q => ?_, fun q => ?_⟩
  · have h2 := this.2
    rw [if_pos q, Bool.and_eq_true] at h2
    exact ⟨beq_iff_eq.mp h2.1, beq_iff_eq.mp h2.2⟩
  · have h2 := this.2
    rw [if_neg (by rw [q]; decide)] at h2
    exact beq_iff_eq.mp h2

/-- off the places r all of F are as c is -/
structure Agree (F r : List Nat) (c : Nat) : Prop where
  lt : c < 32
  off : ∀ i, i < 5 → c.testBit i = true → i ∉ r
  all : ∀ f ∈ F, f < 32 ∧ ∀ i, i < 5 → i ∉ r → f.testBit i = c.testBit i

theorem wonR_mem : ∀ (r F : List Nat) (c : Nat), r.Nodup → (∀ e ∈ r, e < 5) → Agree F r c → F.Nodup → (wonR r F).Nodup ∧ ∀ y, Supp r y → (y ∈ wonR r F ↔ Gr r (· ∈ F) (y ||| c))
  | [], F, c, _, _, hA, hF => by
    have hall : ∀ f ∈ F, f = c := fun f hf => ext_bits (hA.all f hf).1 hA.lt fun i hi => (hA.all f hf).2 i hi (by simp)
    refine ⟨?_, fun y hy => ?_⟩
    · match F, hF, hall with
      | [], _, _ => exact .nil
      | [a], _, _ => simp [wonR]
      | a :: a' :: t, hF, hall =>
        have h1 := hall a List.mem_cons_self
        have h2 := hall a' (List.mem_cons_of_mem _ List.mem_cons_self)
        exact absurd (h1.trans h2.symm) (fun q => (List.nodup_cons.mp hF).1 (q ▸ List.mem_cons_self))
    · have hy0 : y = 0 := ext_bits hy.1 (by decide) fun i hi => by
        rw [Nat.zero_testBit]
        cases q : y.testBit i with
        | false => rfl
        | true => exact absurd (hy.2 i hi q) (by simp)
      subst hy0
      rw [Nat.zero_or, wonR, Gr, List.mem_map]
      constructor
      · rintro ⟨f, hf, _⟩; rw [← hall f hf]; exact hf
      · intro h; exact ⟨c, h, rfl⟩
  | e :: o, F, c, hr, he, hA, hF => by
    obtain ⟨h1, h2⟩ := List.nodup_cons.mp hr
    have he5 := he e List.mem_cons_self
    have ho5 : ∀ x ∈ o, x < 5 := fun x hx => he x (List.mem_cons_of_mem _ hx)
    have hce : c.testBit e = false := by
      cases q : c.testBit e with
      | false => rfl
      | true => exact absurd List.mem_cons_self (hA.off e he5 q)
    obtain ⟨hc1, hc2⟩ := bit_off hA.lt he5 hce
    have hA0 : Agree (F.filter fun m => !m.testBit e) o c := by
      refine ⟨hA.lt, fun i hi hb hm => hA.off i hi hb (List.mem_cons_of_mem _ hm), fun f hf => ?_⟩
      obtain ⟨hfF, hfe⟩ := List.mem_filter.mp hf
      obtain ⟨a, b⟩ := hA.all f hfF
      refine ⟨a, fun i hi hn => ?_⟩
      by_cases q : i = e
      · subst q; rw [hce]; simpa using hfe
      · exact b i hi (by rw [List.mem_cons]; exact fun z => z.elim q hn)
    have hA1 : Agree (F.filter fun m => m.testBit e) o (c + 2 ^ e) := by
      refine ⟨hc2, fun i hi hb hm => ?_, fun f hf => ?_⟩
      · by_cases q : i = e
        · subst q; exact h1 hm
        · rw [(bits2 hA.lt hi he5 q).2 hce] at hb
          exact hA.off i hi hb (List.mem_cons_of_mem _ hm)
      · obtain ⟨hfF, hfe⟩ := List.mem_filter.mp hf
        obtain ⟨a, b⟩ := hA.all f hfF
        refine ⟨a, fun i hi hn => ?_⟩
        by_cases q : i = e
        · subst q; rw [hc1]; exact hfe
        · rw [(bits2 hA.lt hi he5 q).2 hce]
          exact b i hi (by rw [List.mem_cons]; exact fun z => z.elim q hn)
    obtain ⟨n0, m0⟩ := wonR_mem o _ c h2 ho5 hA0 (hF.filter _)
    obtain ⟨n1, m1⟩ := wonR_mem o _ (c + 2 ^ e) h2 ho5 hA1 (hF.filter _)
    have s0 := wonR_supp o (F.filter fun m => !m.testBit e) h2 ho5
    have s1 := wonR_supp o (F.filter fun m => m.testBit e) h2 ho5
    by_cases hFe : F = []
    · subst hFe
      rw [wonR, if_pos rfl]
      exact ⟨.nil, fun y _ => ⟨fun h => (nomatch h), fun h => (Gr_false (fun _ q => (nomatch q)) _ _ h).elim⟩⟩
    · rw [wonR, if_neg hFe]
      generalize hoff : wonR o (F.filter fun m => !m.testBit e) = off at *
      generalize hon : wonR o (F.filter fun m => m.testBit e) = on at *
      have l0 : ∀ z, z < 32 → z.testBit e = false → (Gr o (· ∈ F.filter fun m => !m.testBit e) z ↔ Gr o (· ∈ F) z) :=
        Gr_local he5 (fun z hz hv => by rw [List.mem_filter]; simp [hv]) o h1 ho5
      have l1 : ∀ z, z < 32 → z.testBit e = true → (Gr o (· ∈ F.filter fun m => m.testBit e) z ↔ Gr o (· ∈ F) z) :=
        Gr_local he5 (fun z hz hv => by rw [List.mem_filter]; simp [hv]) o h1 ho5
      refine ⟨?_, fun y hy => ?_⟩
      · refine List.nodup_append.mpr ⟨List.nodup_append.mpr ⟨n0, n1.filter _, fun a ha b hb q => ?_⟩, nodup_map_on (fun a _ b _ q => Nat.add_right_cancel q) (n1.filter _), fun a ha b hb q => ?_⟩
        · subst q
          have := (List.mem_filter.mp hb).2
          simp only [decide_eq_true_eq] at this
          exact this ha
        · obtain ⟨z, hz, rfl⟩ := List.mem_map.mp hb
          have hz1 := (supp_add he5 h1 (s1 z (List.mem_filter.mp hz).1)).2.1
          have ha0 : a.testBit e = false := by
            rcases List.mem_append.mp ha with h | h
            · exact (supp_add he5 h1 (s0 a h)).2.2
            · exact (supp_add he5 h1 (s1 a (List.mem_filter.mp h).1)).2.2
          rw [q, hz1] at ha0; cases ha0
      · obtain ⟨w1, w2, w3⟩ := or_facts he5 hy.1 hA.lt hce
        rw [Gr]
        by_cases hb : y.testBit e = true
        · obtain ⟨a1, a2⟩ := w2 hb
          obtain ⟨b1, b2⟩ := bit_on hy.1 he5 hb
          have hsub : y - 2 ^ e < 32 := Nat.lt_of_le_of_lt (Nat.sub_le _ _) hy.1
          have hsupp : Supp o (y - 2 ^ e) := ⟨hsub, fun i hi hbi => by
            by_cases q : i = e
            · subst q; rw [b2] at hbi; cases hbi
            · rw [(bits2 hy.1 hi he5 q).1 hb] at hbi
              exact (List.mem_cons.mp (hy.2 i hi hbi)).resolve_left q⟩
          have ht : (y ||| c).testBit e = true := by rw [Nat.testBit_or, hb]; rfl
          rw [if_pos ht, a1]
          have e1 : Gr o (· ∈ F) (y ||| c) ↔ (y - 2 ^ e) ∈ on := by rw [← l1 _ w1 ht, m1 _ hsupp, a2]
          have w1' : ((y - 2 ^ e) ||| c) < 32 := (or_facts he5 hsub hA.lt hce).1
          have e2 : Gr o (· ∈ F) ((y - 2 ^ e) ||| c) ↔ (y - 2 ^ e) ∈ off := by rw [← l0 _ w1' (by rw [Nat.testBit_or, b2, hce]; rfl), m0 _ hsupp]
          rw [e1, e2]
          constructor
          · intro h
            rcases List.mem_append.mp h with h | h
            · exfalso
              have : y.testBit e = false := by
                rcases List.mem_append.mp h with h | h
                · exact (supp_add he5 h1 (s0 y h)).2.2
                · exact (supp_add he5 h1 (s1 y (List.mem_filter.mp h).1)).2.2
              rw [hb] at this; cases this
            · obtain ⟨z, hz, rfl⟩ := List.mem_map.mp h
              obtain ⟨z1, z2⟩ := List.mem_filter.mp hz
              rw [Nat.add_sub_cancel]
              exact ⟨z1, by simpa using z2⟩
          · rintro ⟨h1', h2'⟩
            exact List.mem_append_right _ (List.mem_map.mpr ⟨y - 2 ^ e, List.mem_filter.mpr ⟨h1', by simpa using h2'⟩, Nat.sub_add_cancel b1⟩)
        · have hb' : y.testBit e = false := by simpa using hb
          have hsupp : Supp o y := ⟨hy.1, fun i hi hbi => (List.mem_cons.mp (hy.2 i hi hbi)).resolve_left fun q => by subst q; exact hb hbi⟩
          have ht : (y ||| c).testBit e = false := by rw [Nat.testBit_or, hb', hce]; rfl
          rw [if_neg (by rw [ht]; decide), w3 hb']
          have hw : (y ||| (c + 2 ^ e)) < 32 := by rw [← w3 hb']; exact (bit_off w1 he5 ht).2
          have e1 : Gr o (· ∈ F) (y ||| (c + 2 ^ e)) ↔ y ∈ on := by rw [← l1 _ hw (by rw [Nat.testBit_or, hc1, Bool.or_true]), m1 _ hsupp]
          have e2 : Gr o (· ∈ F) (y ||| c) ↔ y ∈ off := by rw [← l0 _ w1 ht, m0 _ hsupp]
          rw [e1, e2]
          constructor
          · intro h
            rcases List.mem_append.mp h with h | h
            · rcases List.mem_append.mp h with h | h
              · exact .inl h
              · exact .inr (List.mem_filter.mp h).1
            · exfalso
              obtain ⟨z, hz, rfl⟩ := List.mem_map.mp h
              have := (supp_add he5 h1 (s1 z (List.mem_filter.mp hz).1)).2.1
              rw [hb'] at this; cases this
          · intro h
            by_cases q : y ∈ off
            · exact List.mem_append_left _ (List.mem_append_left _ q)
            · exact List.mem_append_left _ (List.mem_append_right _ (List.mem_filter.mpr ⟨h.resolve_left q, by simpa using q⟩))
end Mine
end PartPl12

/- part Pl13 -/
section PartPl13
open PySem PySem.W PyProof.Rows PySem.SeqAt
set_option maxRecDepth 100000
namespace Mine

theorem shatter {S : Nat → Prop} : ∀ (r : List Nat), r.Nodup → (∀ e ∈ r, e < 5) → ∀ y, y < 32 → Gr r S y → ∀ z, z < 32 → (∀ i, i < 5 → z.testBit i = true → y.testBit i = true ∧ i ∈ r) →
    ∃ f, S f ∧ ∀ i, i < 5 → (i ∈ r → y.testBit i = true → f.testBit i = z.testBit i) ∧ (i ∉ r → f.testBit i = y.testBit i)
  | [], _, _, y, _, hG, z, _, _ => ⟨y, hG, fun i _ => ⟨fun h => (nomatch h), fun _ => rfl⟩⟩
  | e :: o, hr, he, y, hy, hG, z, hz, hzy => by
    obtain ⟨h1, h2⟩ := List.nodup_cons.mp hr
    have he5 := he e List.mem_cons_self
    have ho5 : ∀ x ∈ o, x < 5 := fun x hx => he x (List.mem_cons_of_mem _ hx)
    have ih := shatter (S := S) o h2 ho5
    rw [Gr] at hG
    by_cases hb : y.testBit e = true
    · rw [if_pos hb] at hG
      obtain ⟨p1, p2⟩ := bit_on hy he5 hb
      have hsub : y - 2 ^ e < 32 := Nat.lt_of_le_of_lt (Nat.sub_le _ _) hy
      by_cases hzb : z.testBit e = true
      · obtain ⟨q1, q2⟩ := bit_on hz he5 hzb
        obtain ⟨f, hf, H⟩ := ih y hy hG.1 (z - 2 ^ e) (Nat.lt_of_le_of_lt (Nat.sub_le _ _) hz) fun i hi hbi => by
          by_cases q : i = e
          · subst q; rw [q2] at hbi; cases hbi
          · rw [(bits2 hz hi he5 q).1 hzb] at hbi
            obtain ⟨a, c⟩ := hzy i hi hbi
            exact ⟨a, (List.mem_cons.mp c).resolve_left q⟩
        refine ⟨f, hf, fun i hi => ⟨fun hm hyi => ?_, fun hn => (H i hi).2 fun q => hn (List.mem_cons_of_mem _ q)⟩⟩
        by_cases q : i = e
        · subst q; rw [(H i hi).2 h1, hb, hzb]
        · rw [(H i hi).1 ((List.mem_cons.mp hm).resolve_left q) hyi, (bits2 hz hi he5 q).1 hzb]
      · have hzb' : z.testBit e = false := by simpa using hzb
        obtain ⟨f, hf, H⟩ := ih (y - 2 ^ e) hsub hG.2 z hz fun i hi hbi => by
          have q : i ≠ e := fun q => by subst q; exact hzb hbi
          obtain ⟨a, c⟩ := hzy i hi hbi
          exact ⟨by rw [(bits2 hy hi he5 q).1 hb]; exact a, (List.mem_cons.mp c).resolve_left q⟩
        refine ⟨f, hf, fun i hi => ⟨fun hm hyi => ?_, fun hn => ?_⟩⟩
        · by_cases q : i = e
          · subst q; rw [(H i hi).2 h1, p2, hzb']
          · exact (H i hi).1 ((List.mem_cons.mp hm).resolve_left q) (by rw [(bits2 hy hi he5 q).1 hb]; exact hyi)
        · have q : i ≠ e := fun q => hn (q ▸ List.mem_cons_self)
          rw [(H i hi).2 fun h => hn (List.mem_cons_of_mem _ h), (bits2 hy hi he5 q).1 hb]
    · rw [if_neg hb] at hG
      have hb' : y.testBit e = false := by simpa using hb
      obtain ⟨p1, p2⟩ := bit_off hy he5 hb'
      have go : ∀ y', y' < 32 → Gr o S y' → (∀ i, i < 5 → i ≠ e → y'.testBit i = y.testBit i) → ∃ f, S f ∧ ∀ i, i < 5 → (i ∈ e :: o → y.testBit i = true → f.testBit i = z.testBit i) ∧ (i ∉ e :: o → f.testBit i = y.testBit i) := fun y' hy' hG' hyy => by
        obtain ⟨f, hf, H⟩ := ih y' hy' hG' z hz fun i hi hbi => by
          obtain ⟨a, c⟩ := hzy i hi hbi
          have q : i ≠ e := fun q => by subst q; exact hb a
          exact ⟨by rw [hyy i hi q]; exact a, (List.mem_cons.mp c).resolve_left q⟩
        refine ⟨f, hf, fun i hi => ⟨fun hm hyi => ?_, fun hn => ?_⟩⟩
        · have q : i ≠ e := fun q => by subst q; exact hb hyi
          exact (H i hi).1 ((List.mem_cons.mp hm).resolve_left q) (by rw [hyy i hi q]; exact hyi)
        · have q : i ≠ e := fun q => hn (q ▸ List.mem_cons_self)
          rw [(H i hi).2 fun h => hn (List.mem_cons_of_mem _ h), hyy i hi q]
      rcases hG with hG | hG
      · exact go y hy hG fun _ _ _ => rfl
      · exact go _ p2 hG fun i hi q => (bits2 hy hi he5 q).2 hb'

theorem and_lt (f y : Nat) (hy : y < 32) : (f &&& y) < 32 := Nat.lt_of_le_of_lt Nat.and_le_right hy

/-- the traces of a family on a set of the game -/
theorem traces_all {F r : List Nat} (hr : r.Nodup) (he : ∀ e ∈ r, e < 5) (hall : ∀ i, i < 5 → i ∈ r) {y : Nat} (hy : y < 32) (hG : Gr r (· ∈ F) y) : ∀ z, z < 32 → ((∃ f ∈ F, f &&& y = z) ↔ z &&& y = z) := fun z hz => by
  constructor
  · rintro ⟨f, _, rfl⟩
    rw [Nat.and_assoc, Nat.and_self]
  · intro h
    obtain ⟨f, hf, H⟩ := shatter r hr he y hy hG z hz fun i hi hb => by
      refine ⟨?_, hall i hi⟩
      rw [← h, Nat.testBit_and, Bool.and_eq_true] at hb
      exact hb.2
    refine ⟨f, hf, ext_bits (and_lt f y hy) hz fun i hi => ?_⟩
    rw [Nat.testBit_and]
    by_cases q : y.testBit i = true
    · rw [(H i hi).1 (hall i hi) q, q, Bool.and_true]
    · have q' : y.testBit i = false := by simpa using q
      rw [q', Bool.and_false, ← h, Nat.testBit_and, q', Bool.and_false]
end Mine
end PartPl13

/- part Pl14 -/
section PartPl14
open PySem PySem.W PyProof.Rows PySem.SeqAt
set_option maxRecDepth 100000
namespace Mine

def W (x : Nat) : List Nat := match F_pretty_flags [.int ((x + 32 : Nat) : Int)] with
  | some (.str s) => s
  | _ => []
def words32 : List (List Nat) := (List.range 32).map W
theorem flags_all : ((List.range 32).all fun x => F_pretty_flags [.int ((x + 32 : Nat) : Int)] == some (.str (W x))) = true := by decide +kernel
theorem flags_at32 {x : Nat} (h : x < 32) : F_pretty_flags [.int ((x + 32 : Nat) : Int)] = some (.str (W x)) := beq_iff_eq.mp (List.all_eq_true.mp flags_all x (List.mem_range.mpr h))
theorem words_nodup : decide words32.Nodup = true := by decide +kernel
theorem W_inj {a b : Nat} (ha : a < 32) (hb : b < 32) (h : W a = W b) : a = b := by
  have hn : words32.Nodup := of_decide_eq_true words_nodup
  unfold words32 at hn
  have h1 : ((List.range 32).map W)[a]? = some (W a) := by rw [List.getElem?_map, List.getElem?_range ha]; rfl
  have h2 : ((List.range 32).map W)[b]? = some (W b) := by rw [List.getElem?_map, List.getElem?_range hb]; rfl
  rw [← h] at h2
  exact (List.getElem?_inj (List.getElem?_eq_some_iff.mp h1).1 hn).mp (h1.trans h2.symm)
theorem mem_W {S : List Nat} (hS : ∀ x ∈ S, x < 32) {m : Nat} (hm : m < 32) : W m ∈ S.map W ↔ m ∈ S := by
  rw [List.mem_map]
  exact ⟨fun ⟨y, hy, e⟩ => W_inj (hS y hy) hm e ▸ hy, fun h => ⟨m, h, rfl⟩⟩

theorem or32 (x : Nat) (h : x < 32) : pyBin .BitOr (.int (x : Int)) (.int 32) = some (.int ((x + 32 : Nat) : Int)) := by
  show some (PV.int (Builtin.bitOr (x : Int) ((32 : Nat) : Int))) = _
  have e : x &&& 32 = 0 := by
    have : ((List.range 32).all fun x => x &&& 32 == 0) = true := by decide +kernel
    exact beq_iff_eq.mp (List.all_eq_true.mp this x (List.mem_range.mpr h))
  rw [bitOr_and, bitAnd_nat, e]
  congr 2
theorem and_pv (f y : Nat) : pyBin .BitAnd (.int (f : Int)) (.int (y : Int)) = some (.int ((f &&& y : Nat) : Int)) := by
  show some (PV.int (Builtin.bitAnd (f : Int) (y : Int))) = _
  rw [bitAnd_nat]

def trBody : SF := (pSeq (pAssign 4 (xCall F_pretty_flags (lCons (xBin .BitOr (xBin .BitAnd (xVar 3) (xVar 1)) (xInt 32)) lNil)))
    (pIf (tCmp .NotIn (xVar 4) (xVar 2)) (pTurn 2 addPV (xVar 4)) pSkip))
theorem contains_dec (l : List (List Nat)) (x : List Nat) : l.contains x = decide (x ∈ l) := by
  rw [Bool.eq_iff_iff, List.contains_iff_mem, decide_eq_true_eq]

theorem traces_for (b0 : Option PV) (y : Nat) (hy : y < 32) : ∀ (F S : List Nat) (z z4 : Option PV), S.length + F.length ≤ 900 → (∀ x ∈ S, x < 32) →
    ∃ z' z4', pFor 3 trBody ((ofN F).map .int) [b0, some (.int (y : Int)), some (.ls (S.map W)), z, z4] = some (.next, [b0, some (.int (y : Int)), some (.ls (((F.map (· &&& y)).foldl addNew S).map W)), z', z4'])
  | [], S, z, z4, _, _ => ⟨z, z4, rfl⟩
  | f :: F, S, z, z4, h, hS => by
    have hx : (f &&& y) < 32 := and_lt f y hy
    have hs : [b0, some (.int (y : Int)), some (.ls (S.map W)), z, z4].set 3 (some (.int (f : Int))) = [b0, some (.int (y : Int)), some (.ls (S.map W)), some (.int (f : Int)), z4] := rfl
    have e1 : pAssign 4 (xCall F_pretty_flags (lCons (xBin .BitOr (xBin .BitAnd (xVar 3) (xVar 1)) (xInt 32)) lNil)) [b0, some (.int (y : Int)), some (.ls (S.map W)), some (.int (f : Int)), z4] = some (.next, [b0, some (.int (y : Int)), some (.ls (S.map W)), some (.int (f : Int)), some (.str (W (f &&& y)))]) :=
      (pAssign_of ((xCall1 ((xBin_of ((xBin_of (xVar_of rfl) (xVar_of rfl)).trans (and_pv f y)) rfl).trans (or32 _ hx))).trans (flags_at32 hx))).trans rfl
    have e2 : tCmp .NotIn (xVar 4) (xVar 2) [b0, some (.int (y : Int)), some (.ls (S.map W)), some (.int (f : Int)), some (.str (W (f &&& y)))] = some (!decide (f &&& y ∈ S)) := by
      rw [tCmp_of (a := .str (W (f &&& y))) (c := .ls (S.map W)) (xVar_of rfl) (xVar_of rfl)]
      show some (!(S.map W).contains (W (f &&& y))) = _
      rw [contains_dec, decide_eq_decide.mpr (mem_W hS hx)]
    have eb : pIf (tCmp .NotIn (xVar 4) (xVar 2)) (pTurn 2 addPV (xVar 4)) pSkip [b0, some (.int (y : Int)), some (.ls (S.map W)), some (.int (f : Int)), some (.str (W (f &&& y)))] = some (.next, [b0, some (.int (y : Int)), some (.ls ((addNew S (f &&& y)).map W)), some (.int (f : Int)), some (.str (W (f &&& y)))]) := by
      by_cases hm : f &&& y ∈ S
      · rw [pIf_false (by rw [e2, decide_eq_true hm]; rfl)]
        unfold addNew; rw [if_pos hm]; rfl
      · have hadd : addPV (.ls (S.map W)) (.str (W (f &&& y))) = some (.ls ((S ++ [f &&& y]).map W)) := by
          refine (if_pos (Nat.le_trans ?_ (by decide : 1000 ≤ cap))).trans ?_
          · rw [List.length_map]; rw [List.length_cons] at h; omega
          · rw [List.map_append]; rfl
        rw [pIf_true (by rw [e2, decide_eq_false hm]; rfl), pTurn_of (c := .ls (S.map W)) rfl (xVar_of rfl) hadd]
        unfold addNew; rw [if_neg hm]; rfl
    obtain ⟨z', z4', ih⟩ := traces_for b0 y hy F (addNew S (f &&& y)) (some (.int f)) (some (.str (W (f &&& y)))) (by have := addNew_length S (f &&& y); rw [List.length_cons] at h; omega)
      fun x hx' => (addNew_mem.mp hx').elim (hS x) fun e => by subst e; exact hx
    refine ⟨z', z4', ?_⟩
    show pFor 3 _ (PV.int (f : Int) :: (ofN F).map .int) _ = _
    have ebb : trBody [b0, some (.int (y : Int)), some (.ls (S.map W)), some (.int (f : Int)), z4] = some (.next, [b0, some (.int (y : Int)), some (.ls ((addNew S (f &&& y)).map W)), some (.int (f : Int)), some (.str (W (f &&& y)))]) := by
      unfold trBody
      rw [pSeq_next e1]; exact eb
    rw [pFor, hs, ebb]
    exact ih

theorem traces_eq (F : List Nat) (y : Nat) (hy : y < 32) (hF : F.length ≤ 800) : F_law_traces [.li (ofN F), .int (y : Int)] = some (.int ((((F.map (· &&& y)).foldl addNew []).length : Nat) : Int)) := by
  obtain ⟨z, z4, h⟩ := traces_for (some (.li (ofN F))) y hy F [] none none (by rw [List.length_nil]; omega) (fun _ h => nomatch h)
  have hl : ((F.map (· &&& y)).foldl addNew []).length ≤ 800 := by
    have := (foldl_addNew (F.map (· &&& y)) [] .nil (fun _ h => nomatch h) fun x hx => by
      obtain ⟨f, _, rfl⟩ := List.mem_map.mp hx; exact and_lt f y hy).2.2
    rw [List.length_map, List.length_nil] at this
    omega
  refine runF_of (k := 2) (r := 3) rfl (ρ' := [some (.li (ofN F)), some (.int (y : Int)), some (.ls (((F.map (· &&& y)).foldl addNew []).map W)), z, z4]) ?_
  have hit : iList (xVar 0) [some (PV.li (ofN F)), some (.int (y : Int)), some (.ls []), none, none] = some ((ofN F).map .int) := if_pos (by rw [ofN_length]; exact Nat.le_trans hF (by decide))
  refine (pSeq_next (ρ' := [some (.li (ofN F)), some (.int (y : Int)), some (.ls []), none, none]) rfl).trans ?_
  refine (pSeq_next (ρ' := [some (.li (ofN F)), some (.int (y : Int)), some (.ls (((F.map (· &&& y)).foldl addNew []).map W)), z, z4]) ?_).trans ?_
  · refine (pForElse_of hit).trans ?_
    exact (congrArg (loopEnd pSkip) h).trans rfl
  · refine pRet_of ((xCall1 (xVar_of rfl)).trans ?_)
    rw [len1_ls (by rw [List.length_map]; omega), List.length_map]
end Mine
end PartPl14

/- part Pl15 -/
section PartPl15
open PySem PySem.W PyProof.Rows PySem.SeqAt
set_option maxRecDepth 100000
namespace Mine

theorem pComp_ints {t : TF} {e : XF} {mk : PV → REnv} (keep : Nat → Bool) (val : Nat → Nat) : ∀ (l : List Nat), (∀ x ∈ l, t (mk (.int (x : Int))) = some (keep x) ∧ (keep x = true → e (mk (.int (x : Int))) = some (.int ((val x : Nat) : Int)))) →
    pComp t e mk ((ofN l).map .int) = some ((ofN ((l.filter keep).map val)).map .int)
  | [], _ => rfl
  | x :: l, h => by
    obtain ⟨h1, h2⟩ := h x List.mem_cons_self
    have ih := pComp_ints keep val l fun y hy => h y (List.mem_cons_of_mem _ hy)
    show pComp t e mk (PV.int (x : Int) :: (ofN l).map .int) = _
    rw [pComp, h1, ih]
    cases hk : keep x with
    | false => rw [List.filter_cons_of_neg (by rw [hk]; decide)]; rfl
    | true =>
      rw [List.filter_cons_of_pos hk]
      show (e (mk (.int (x : Int)))).bind _ = _
      rw [h2 hk]; rfl
theorem asInts_map : ∀ l : List Int, asInts (l.map .int) = some l
  | [] => rfl
  | x :: l => by rw [List.map_cons, asInts, asInts_map l]; rfl
theorem liOf_map (l : List Int) (h : l.length ≤ 1000) : liOf (l.map .int) = some (.li l) := by
  unfold liOf
  rw [asInts_map]
  exact if_pos (Nat.le_trans h (by decide))
end Mine
end PartPl15

/- part Pl16 -/
section PartPl16
open PySem PySem.W PyProof.Rows PySem.SeqAt
set_option maxRecDepth 100000
namespace Mine

/-- bit e of m, as the text asks it -/
theorem bit_div {m e : Nat} (hm : m < 32) (he : e < 5) : m / 2 ^ e % 2 = if m.testBit e then 1 else 0 := by
  have : ((List.range 32).all fun m => (List.range 5).all fun e => m / 2 ^ e % 2 == if m.testBit e then 1 else 0) = true := by decide +kernel
  exact beq_iff_eq.mp (List.all_eq_true.mp (List.all_eq_true.mp this m (List.mem_range.mpr hm)) e (List.mem_range.mpr he))

theorem bit_test {ρ : REnv} {m e : Nat} (hm : m < 32) (he : e < 5) (v : Nat) (h0 : ρ[0]? = some (some (.int (m : Int)))) (h1 : ρ[1]? = some (some (.int ((2 ^ e : Nat) : Int)))) :
    tCmp .Eq (xBin .Mod (xBin .FloorDiv (xVar 0) (xVar 1)) (xInt 2)) (xInt (v : Int)) ρ = some (decide ((if m.testBit e then 1 else 0) = v)) := by
  have hp : 2 ^ e < 1000000 := Nat.lt_of_le_of_lt (Nat.pow_le_pow_right (by decide) (Nat.le_of_lt_succ (Nat.lt_succ_of_lt he))) (by decide)
  rw [tCmp_of (a := .int ((m / 2 ^ e % 2 : Nat) : Int)) (c := .int v) ?_ rfl]
  · show some (((m / 2 ^ e % 2 : Nat) : Int) == (v : Int)) = _
    rw [bit_div hm he]
    congr 1
    rw [Bool.eq_iff_iff, beq_iff_eq, decide_eq_true_eq]
    exact Int.ofNat_inj
  · rw [xBin_of (a := .int ((m / 2 ^ e : Nat) : Int)) (c := .int 2) ?_ rfl]
    · exact mod_pv _ 2 (by decide)
    · rw [xBin_of (xVar_of h0) (xVar_of h1)]
      exact div_pv m (2 ^ e) (Nat.ne_of_gt (Nat.two_pow_pos e)) hp
end Mine
end PartPl16

/- part Pl17 -/
section PartPl17
open PySem PySem.W PyProof.Rows PySem.SeqAt
set_option maxRecDepth 100000
namespace Mine

theorem wonR_length : ∀ (r F : List Nat), (wonR r F).length = F.length
  | [], F => by rw [wonR, List.length_map]
  | e :: o, F => by
    have split2 : ∀ (p : Nat → Bool) (l : List Nat), (l.filter fun x => !p x).length + (l.filter p).length = l.length := fun p l => by
      induction l with
      | nil => rfl
      | cons a l ih =>
        cases h : p a with
        | false => rw [List.filter_cons_of_pos (by rw [h]; rfl), List.filter_cons_of_neg (by rw [h]; decide), List.length_cons, List.length_cons]; omega
        | true => rw [List.filter_cons_of_neg (by rw [h]; decide), List.filter_cons_of_pos h, List.length_cons, List.length_cons]; omega
    rw [wonR]
    by_cases h : F = []
    · rw [if_pos h, h]
    · rw [if_neg h, List.length_append, List.length_append, List.length_map, wonR_length]
      have h1 := split2 (fun y => decide (y ∈ wonR o (F.filter fun m => !m.testBit e))) (wonR o (F.filter fun m => m.testBit e))
      rw [wonR_length o (F.filter fun m => m.testBit e)] at h1
      have h2 := split2 (fun m => m.testBit e) F
      have h3 : ((wonR o (F.filter fun m => m.testBit e)).filter fun y => decide (y ∉ wonR o (F.filter fun m => !m.testBit e))) = (wonR o (F.filter fun m => m.testBit e)).filter fun y => !decide (y ∈ wonR o (F.filter fun m => !m.testBit e)) :=
        List.filter_congr fun x _ => decide_not
      rw [h3]
      omega

theorem mul_zero_list (n : Nat) (h : n ≤ 1000) : pyBin .Mult (.li [0]) (.int (n : Int)) = some (.li (List.replicate n 0)) := by
  unfold pyBin
  dsimp only
  rw [if_pos ⟨by omega, by omega, by decide⟩, Int.toNat_natCast]
  congr 2
  induction n with
  | zero => rfl
  | succ n ih => rw [List.replicate_succ, List.flatten_cons, ih (by omega), List.replicate_succ]; rfl
theorem li_nil (l : List Nat) : ((ofN l) == ([] : List Int)) = decide (l = []) := by cases l <;> rfl

theorem idx_last (l : List Nat) (e : Nat) (h : l.length ≤ 1000) : pyIdx (.li (ofN (l ++ [e]))) (.int (-1)) = some (.int (e : Int)) := by
  unfold pyIdx
  dsimp only
  have hl : (ofN (l ++ [e])).length = l.length + 1 := by rw [ofN_length, List.length_append]; rfl
  rw [if_neg (by decide), if_pos (by rw [hl]; omega), hl, show ((-1 : Int) + ((l.length + 1 : Nat) : Int)).toNat = l.length by omega]
  unfold ofN
  rw [List.getElem?_map, List.getElem?_append_right (Nat.le_refl _), Nat.sub_self]
  rfl
theorem slice_last (l : List Nat) (e : Nat) (h : l.length ≤ 1000) : pySlice none (some (-1)) (.li (ofN (l ++ [e]))) = some (.li (ofN l)) := by
  have hl : (ofN (l ++ [e])).length = l.length + 1 := by rw [ofN_length, List.length_append]; rfl
  unfold pySlice
  dsimp only
  rw [if_pos (by rw [hl]; exact Nat.le_trans (Nat.succ_le_succ h) (by decide)), pick_eq, hl]
  have e1 : clipN none 0 (l.length + 1) = 0 := rfl
  have e2 : clipN (some (-1)) (l.length + 1) (l.length + 1) = l.length := by
    simp only [clipN]
    rw [if_pos (by decide)]
    omega
  rw [e1, e2, List.drop_zero, Nat.sub_zero]
  unfold ofN
  rw [List.map_append, List.take_left' (List.length_map ..)]
theorem pow_pv {e : Nat} (he : e < 5) : pyBin .Pow (.int 2) (.int (e : Int)) = some (.int ((2 ^ e : Nat) : Int)) := by
  match e, he with
  | 0, _ => rfl
  | 1, _ => rfl
  | 2, _ => rfl
  | 3, _ => rfl
  | 4, _ => rfl

theorem comp_id {frees : List Nat} {i : Nat} {t : TF} {ρ : REnv} {F : List Nat} (keep : Nat → Bool) (hF : F.length ≤ 900) (h0 : ρ[i]? = some (some (.li (ofN F)))) (ht : ∀ x ∈ F, t (mkIn ρ frees (.int (x : Int))) = some (keep x)) :
    xComp frees liOf (iList (xVar i)) t (xVar 0) ρ = some (.li (ofN (F.filter keep))) := by
  have hi : iList (xVar i) ρ = some ((ofN F).map .int) := by
    show (xVar i ρ).bind pyItems = _
    rw [xVar_of h0]
    exact if_pos (by rw [ofN_length]; exact Nat.le_trans hF (by decide))
  show (iList (xVar i) ρ).bind _ = _
  rw [hi]
  show (pComp t (xVar 0) (mkIn ρ frees) ((ofN F).map .int)).bind liOf = _
  rw [pComp_ints keep (fun x => x) F fun x hx => ⟨ht x hx, fun _ => rfl⟩, List.map_id']
  exact liOf_map _ (by rw [ofN_length]; exact Nat.le_trans (List.length_filter_le _ _) (Nat.le_trans hF (by decide)))

theorem won_base (W : List PV → Option PV) (F o : List Nat) (hF : F.length ≤ 900) (h : F = [] ∨ o = []) : runF 2 3 (g_law_won W) [.li (ofN F), .li (ofN o)] = some (.li (ofN (F.map fun _ => 0))) := by
  refine runF_of (k := 2) (r := 3) rfl (ρ' := [some (.li (ofN F)), some (.li (ofN o)), none, none, none]) ?_
  refine pSeq_ret ?_
  have ht : tOr (tCmp .Eq (xVar 0) (xListI lNil)) (tCmp .Eq (xVar 1) (xListI lNil)) [some (.li (ofN F)), some (.li (ofN o)), none, none, none] = some true := by
    have t1 : tCmp .Eq (xVar 0) (xListI lNil) [some (.li (ofN F)), some (.li (ofN o)), none, none, none] = some (decide (F = [])) := congrArg some (li_nil F)
    have t2 : tCmp .Eq (xVar 1) (xListI lNil) [some (.li (ofN F)), some (.li (ofN o)), none, none, none] = some (decide (o = [])) := congrArg some (li_nil o)
    by_cases hf : F = []
    · exact tOr_true (t1.trans (by rw [decide_eq_true hf]))
    · refine (tOr_false (t1.trans (by rw [decide_eq_false hf]))).trans (t2.trans ?_)
      rw [decide_eq_true (h.resolve_left hf)]
  show pIf _ _ _ [some (.li (ofN F)), some (.li (ofN o)), none, none, none] = _
  rw [pIf_true ht]
  refine pRet_of ?_
  rw [xBin_of (a := .li [0]) (c := .int ((ofN F).length : Int)) rfl ((xCall1 (xVar_of rfl)).trans (len1_li (by rw [ofN_length]; omega)))]
  rw [mul_zero_list _ (by rw [ofN_length]; omega), ofN_length]
  congr 2
  unfold ofN
  rw [List.map_map]
  clear h ht hF
  induction F with
  | nil => rfl
  | cons a F ih => rw [List.length_cons, List.replicate_succ, ih]; rfl
end Mine
end PartPl17

/- part Pl18 -/
section PartPl18
open PySem PySem.W PyProof.Rows PySem.SeqAt
set_option maxRecDepth 100000
namespace Mine

theorem won_step (W : List PV → Option PV) (F o off on : List Nat) (e : Nat) (he : e < 5) (hF : F.length ≤ 300) (ho : o.length ≤ 100) (hm : ∀ m ∈ F, m < 32) (hne : F ≠ [])
    (h0 : W [.li (ofN (F.filter fun m => !m.testBit e)), .li (ofN o)] = some (.li (ofN off))) (h1 : W [.li (ofN (F.filter fun m => m.testBit e)), .li (ofN o)] = some (.li (ofN on)))
    (l0 : off.length ≤ 300) (l1 : on.length ≤ 300) :
    runF 2 3 (g_law_won W) [.li (ofN F), .li (ofN (o ++ [e]))] = some (.li (ofN (off ++ on.filter (fun y => decide (y ∉ off)) ++ (on.filter fun y => decide (y ∈ off)).map (· + 2 ^ e)))) := by
  have hidx : xIdx (xVar 1) (xInt (-1)) [some (.li (ofN F)), some (.li (ofN (o ++ [e]))), none, none, none] = some (.int (e : Int)) := by
    rw [xIdx_of (c := .int (-1)) (xVar_of rfl) rfl]
    exact idx_last o e (by omega)
  have hsl : ∀ (b c d : Option PV), xSlice (xVar 1) pNo (pOf (xInt (-1))) [some (.li (ofN F)), some (.li (ofN (o ++ [e]))), b, c, d] = some (.li (ofN o)) := fun b c d => by
    rw [xSlice_of (xVar_of rfl) rfl (pOf_of (i := -1) rfl)]
    exact slice_last o e (by omega)
  have hc : ∀ (vi : Int) (v : Nat) (keep : Nat → Bool) (c d : Option PV), vi = (v : Int) → (∀ m : Nat, keep m = decide ((if m.testBit e then 1 else 0) = v)) →
      xComp [2] liOf (iList (xVar 0)) (tCmp .Eq (xBin .Mod (xBin .FloorDiv (xVar 0) (xVar 1)) (xInt 2)) (xInt vi)) (xVar 0) [some (.li (ofN F)), some (.li (ofN (o ++ [e]))), some (.int ((2 ^ e : Nat) : Int)), c, d] = some (.li (ofN (F.filter keep))) := fun vi v keep c d hv hk =>
    comp_id keep (by omega) rfl fun x hx => by
      rw [hk x, hv]
      exact bit_test (hm x hx) he v rfl rfl
  have k0 : ∀ m : Nat, (!m.testBit e) = decide ((if m.testBit e then 1 else 0) = 0) := fun m => by cases m.testBit e <;> rfl
  have k1 : ∀ m : Nat, m.testBit e = decide ((if m.testBit e then 1 else 0) = 1) := fun m => by cases m.testBit e <;> rfl
  refine runF_of (k := 2) (r := 3) rfl (ρ' := [some (.li (ofN F)), some (.li (ofN (o ++ [e]))), some (.int ((2 ^ e : Nat) : Int)), some (.li (ofN off)), some (.li (ofN on))]) ?_
  have ht : tOr (tCmp .Eq (xVar 0) (xListI lNil)) (tCmp .Eq (xVar 1) (xListI lNil)) [some (.li (ofN F)), some (.li (ofN (o ++ [e]))), none, none, none] = some false := by
    have t1 : tCmp .Eq (xVar 0) (xListI lNil) [some (.li (ofN F)), some (.li (ofN (o ++ [e]))), none, none, none] = some (decide (F = [])) := congrArg some (li_nil F)
    have t2 : tCmp .Eq (xVar 1) (xListI lNil) [some (.li (ofN F)), some (.li (ofN (o ++ [e]))), none, none, none] = some (decide (o ++ [e] = [])) := congrArg some (li_nil (o ++ [e]))
    refine (tOr_false (t1.trans (by rw [decide_eq_false hne]))).trans (t2.trans ?_)
    rw [decide_eq_false (by simp)]
  show pSeq _ _ [some (.li (ofN F)), some (.li (ofN (o ++ [e]))), none, none, none] = _
  refine (pSeq_next (ρ' := [some (.li (ofN F)), some (.li (ofN (o ++ [e]))), none, none, none]) (by rw [pIf_false ht]; rfl)).trans ?_
  refine (pSeq_next (ρ' := [some (.li (ofN F)), some (.li (ofN (o ++ [e]))), some (.int ((2 ^ e : Nat) : Int)), none, none]) ?_).trans ?_
  · rw [pAssign_of ((xBin_of (a := .int 2) rfl hidx).trans (pow_pv he))]; rfl
  refine (pSeq_next (ρ' := [some (.li (ofN F)), some (.li (ofN (o ++ [e]))), some (.int ((2 ^ e : Nat) : Int)), some (.li (ofN off)), none]) ?_).trans ?_
  · rw [pAssign_of ((xCall2 (hc 0 0 _ none none rfl k0) (hsl _ _ _)).trans h0)]; rfl
  refine (pSeq_next (ρ' := [some (.li (ofN F)), some (.li (ofN (o ++ [e]))), some (.int ((2 ^ e : Nat) : Int)), some (.li (ofN off)), some (.li (ofN on))]) ?_).trans ?_
  · rw [pAssign_of ((xCall2 (hc 1 1 _ _ none rfl k1) (hsl _ _ _)).trans h1)]; rfl
  refine pRet_of ?_
  have c1 : xComp [3] liOf (iList (xVar 4)) (tCmp .NotIn (xVar 0) (xVar 1)) (xVar 0) [some (.li (ofN F)), some (.li (ofN (o ++ [e]))), some (.int ((2 ^ e : Nat) : Int)), some (.li (ofN off)), some (.li (ofN on))] = some (.li (ofN (on.filter fun y => decide (y ∉ off)))) :=
    comp_id _ (by omega) rfl fun x hx => by
      show some (!(ofN off).contains (x : Int)) = _
      rw [contains_ofN, decide_not]
  have c2 : xComp [2, 3] liOf (iList (xVar 4)) (tCmp .In (xVar 0) (xVar 2)) (xBin .Add (xVar 0) (xVar 1)) [some (.li (ofN F)), some (.li (ofN (o ++ [e]))), some (.int ((2 ^ e : Nat) : Int)), some (.li (ofN off)), some (.li (ofN on))] = some (.li (ofN ((on.filter fun y => decide (y ∈ off)).map (· + 2 ^ e)))) := by
    have hi : iList (xVar 4) [some (.li (ofN F)), some (.li (ofN (o ++ [e]))), some (.int ((2 ^ e : Nat) : Int)), some (.li (ofN off)), some (.li (ofN on))] = some ((ofN on).map .int) := if_pos (by rw [ofN_length]; exact Nat.le_trans l1 (by decide))
    show (iList (xVar 4) _).bind _ = _
    rw [hi]
    show (pComp _ _ (mkIn _ [2, 3]) ((ofN on).map .int)).bind liOf = _
    rw [pComp_ints (fun y => decide (y ∈ off)) (· + 2 ^ e) on fun x hx => ⟨?_, fun _ => ?_⟩]
    · exact liOf_map _ (by rw [ofN_length, List.length_map]; exact Nat.le_trans (List.length_filter_le _ _) (by omega))
    · show some ((ofN off).contains (x : Int)) = _
      rw [contains_ofN]
    · show some (PV.int ((x : Int) + ((2 ^ e : Nat) : Int))) = _
      rw [← Int.natCast_add]
  have f1 := List.length_filter_le (fun y => decide (y ∉ off)) on
  have f2 := List.length_filter_le (fun y => decide (y ∈ off)) on
  rw [xBin_of ((xBin_of (xVar_of rfl) c1).trans (add_li (by rw [ofN_length, ofN_length]; omega))) c2, add_li (by rw [List.length_append, ofN_length, ofN_length, ofN_length, List.length_map]; omega), ofN_append, ofN_append]

theorem won_eq : ∀ (r F : List Nat) (k : Nat), r.length < k → r.length ≤ 100 → (∀ e ∈ r, e < 5) → (∀ m ∈ F, m < 32) → F.length ≤ 300 → wonF k [.li (ofN F), .li (ofN r.reverse)] = some (.li (ofN (wonR r F)))
  | r, F, 0, hk, _, _, _, _ => absurd hk (Nat.not_lt_zero _)
  | [], F, k + 1, _, _, _, _, hF => won_base (wonF k) F [] (by omega) (.inr rfl)
  | e :: o, F, k + 1, hk, hl, he, hm, hF => by
    rw [wonR]
    by_cases hne : F = []
    · subst hne
      rw [if_pos rfl]
      exact won_base (wonF k) [] _ (by decide) (.inl rfl)
    rw [if_neg hne, List.reverse_cons]
    have g := fun (p : Nat → Bool) => won_eq o (F.filter p) k (by rw [List.length_cons] at hk; omega) (by rw [List.length_cons] at hl; omega) (fun x hx => he x (List.mem_cons_of_mem _ hx)) (fun m hx => hm m (List.mem_filter.mp hx).1) (Nat.le_trans (List.length_filter_le _ _) hF)
    exact won_step (wonF k) F o.reverse _ _ e (he e List.mem_cons_self) hF (by rw [List.length_reverse]; rw [List.length_cons] at hl; omega) hm hne (g _) (g _)
      (by rw [wonR_length]; exact Nat.le_trans (List.length_filter_le _ _) hF) (by rw [wonR_length]; exact Nat.le_trans (List.length_filter_le _ _) hF)
end Mine
end PartPl18

/- part Pl19 -/
section PartPl19
open PySem PySem.W PyProof.Rows PySem.SeqAt
set_option maxRecDepth 100000
namespace Mine

def orderOk (n : Nat) : Bool := match F_law_order [.int (n : Int)] with
  | some (.li l) => (ofN (l.map Int.toNat) == l) && (l.length == 5) && ([0, 1, 2, 3, 4].all fun i => (l.map Int.toNat).contains i) && ((l.map Int.toNat).all fun i => decide (i < 5)) && decide (l.map Int.toNat).Nodup
  | _ => false
theorem order_all : ((List.range 120).all orderOk) = true := by decide +kernel
theorem order_eq {n : Nat} (h : n < 120) : ∃ o : List Nat, F_law_order [.int (n : Int)] = some (.li (ofN o)) ∧ o.length = 5 ∧ (∀ i, i < 5 → i ∈ o) ∧ (∀ i ∈ o, i < 5) ∧ o.Nodup := by
  have := List.all_eq_true.mp order_all n (List.mem_range.mpr h)
  unfold orderOk at this
  split at this
  · rename_i l e
    simp only [Bool.and_eq_true, beq_iff_eq, decide_eq_true_eq, List.all_eq_true, List.contains_iff_mem] at this
    obtain ⟨⟨⟨⟨h1, h2⟩, h3⟩, h4⟩, h5⟩ := this
    refine ⟨l.map Int.toNat, by rw [e, h1], by rw [List.length_map, h2], fun i hi => ?_, h4, h5⟩
    refine h3 i ?_
    match i, hi with
    | 0, _ => decide
    | 1, _ => decide
    | 2, _ => decide
    | 3, _ => decide
    | 4, _ => decide
  · exact absurd this (by decide)

def placesOk (y : Nat) : Bool := match F_law_places [.int (y : Int)] with
  | some (.li l) => decide (l.length ≤ 5) && (2 ^ l.length == ((List.range 32).filter fun z => z &&& y == z).length)
  | _ => false
theorem places_all : ((List.range 32).all placesOk) = true := by decide +kernel
theorem places_eq {y : Nat} (h : y < 32) : ∃ l : List Int, F_law_places [.int (y : Int)] = some (.li l) ∧ l.length ≤ 5 ∧ 2 ^ l.length = ((List.range 32).filter fun z => z &&& y == z).length := by
  have := List.all_eq_true.mp places_all y (List.mem_range.mpr h)
  unfold placesOk at this
  split at this
  · rename_i l e
    rw [Bool.and_eq_true, decide_eq_true_eq, beq_iff_eq] at this
    exact ⟨l, e, this⟩
  · exact absurd this (by decide)
end Mine
end PartPl19

/- part Pl20 -/
section PartPl20
open PySem PySem.W PyProof.Rows PySem.SeqAt
set_option maxRecDepth 100000
namespace Mine

theorem foldl_addNew_mem {z : Nat} : ∀ (l S : List Nat), z ∈ l.foldl addNew S ↔ z ∈ S ∨ z ∈ l
  | [], S => by simp
  | x :: l, S => by rw [List.foldl_cons, foldl_addNew_mem l, addNew_mem, List.mem_cons, or_assoc]

/-- as many traces as the mask has parts -/
theorem traces_count {F r : List Nat} (hr : r.Nodup) (he : ∀ e ∈ r, e < 5) (hall : ∀ i, i < 5 → i ∈ r) (hF : ∀ f ∈ F, f < 32) {y : Nat} (hy : y < 32) (hG : Gr r (· ∈ F) y) :
    ((F.map (· &&& y)).foldl addNew []).length = ((List.range 32).filter fun z => z &&& y == z).length := by
  obtain ⟨h1, h2, _⟩ := foldl_addNew (F.map (· &&& y)) [] .nil (fun _ h => nomatch h) fun x hx => by
    obtain ⟨f, _, rfl⟩ := List.mem_map.mp hx; exact and_lt f y hy
  refine List.Perm.length_eq ((List.perm_ext_iff_of_nodup h1 (List.nodup_range.filter _)).mpr fun z => ?_)
  rw [foldl_addNew_mem, List.mem_filter, List.mem_range, beq_iff_eq]
  constructor
  · intro h
    have hm : z ∈ F.map (· &&& y) := h.resolve_left (fun q => nomatch q)
    have hz : z < 32 := by
      obtain ⟨f, _, rfl⟩ := List.mem_map.mp hm
      exact and_lt f y hy
    obtain ⟨f, hf, e⟩ := List.mem_map.mp hm
    exact ⟨hz, (traces_all hr he hall hy hG z hz).mp ⟨f, hf, e⟩⟩
  · rintro ⟨hz, e⟩
    obtain ⟨f, hf, e'⟩ := (traces_all hr he hall hy hG z hz).mpr e
    exact .inr (List.mem_map.mpr ⟨f, hf, e'⟩)

/-- the masks that hold are those that are won -/
theorem sunk_won {F o : List Nat} (hF : ∀ f ∈ F, f < 32) (hn : F.Nodup) (ho : o.Nodup) (he : ∀ e ∈ o, e < 5) (hall : ∀ i, i < 5 → i ∈ o) :
    (sunk F o).Perm (wonR o.reverse F) ∧ (∀ x ∈ sunk F o, x < 32 ∧ Gr o.reverse (· ∈ F) x) ∧ (sunk F o).length = F.length := by
  have hr : o.reverse.Nodup := (List.reverse_perm o).nodup_iff.mpr ho
  have her : ∀ e ∈ o.reverse, e < 5 := fun e h => he e (List.mem_reverse.mp h)
  have hallr : ∀ i, i < 5 → i ∈ o.reverse := fun i h => List.mem_reverse.mpr (hall i h)
  obtain ⟨a, b, c, d⟩ := sunk_ok hF hn o.reverse her
  rw [List.reverse_reverse] at a b c d
  have hA : Agree F o.reverse 0 := ⟨by decide, fun i _ h => (by rw [Nat.zero_testBit] at h; cases h), fun f hf => ⟨hF f hf, fun i hi h => absurd (hallr i hi) h⟩⟩
  obtain ⟨w1, w2⟩ := wonR_mem o.reverse F 0 hr her hA hn
  refine ⟨(List.perm_ext_iff_of_nodup a w1).mpr fun x => ?_, fun x hx => ⟨b x hx, (d x (b x hx)).mp hx⟩, c⟩
  constructor
  · intro hx
    have := (w2 x ⟨b x hx, fun i hi _ => hallr i hi⟩).mpr (by rw [Nat.or_zero]; exact (d x (b x hx)).mp hx)
    exact this
  · intro hx
    have hs := wonR_supp o.reverse F hr her x hx
    have := (w2 x hs).mp hx
    rw [Nat.or_zero] at this
    exact (d x hs.1).mpr this

theorem lt_all : ((List.range 32).all fun a => (List.range 32).all fun b => decide (txt a < txt b) == decide (txt2 a < txt2 b)) = true := by decide +kernel
theorem lt_txt {a b : Nat} (ha : a < 32) (hb : b < 32) : txt2 a < txt2 b ↔ txt a < txt b := by
  have := List.all_eq_true.mp (List.all_eq_true.mp lt_all a (List.mem_range.mpr ha)) b (List.mem_range.mpr hb)
  rw [beq_iff_eq, decide_eq_decide] at this
  exact this.symm

/-- a sorted shelf is a list of masks -/
theorem shelf_masks {M N : List Nat} (hM : ∀ x ∈ M, x < 32) (hp : M.Perm N) : ∃ L : List Nat, sortS (M.map txt) = L.map txt ∧ L.Perm M ∧ L.map txt2 = sortS (N.map txt2) := by
  have key : ∀ {l l' : List (List Nat)}, l.Perm l' → ∀ M : List Nat, l' = M.map txt → ∃ L : List Nat, l = L.map txt ∧ L.Perm M := by
    intro l l' h
    induction h with
    | nil => intro M e; exact ⟨[], rfl, by rw [List.map_eq_nil_iff.mp e.symm]⟩
    | cons x _ ih =>
      intro M e
      match M, e with
      | m :: M, e =>
        rw [List.map_cons, List.cons.injEq] at e
        obtain ⟨L, e1, h1⟩ := ih M e.2
        exact ⟨m :: L, by rw [List.map_cons, e.1, e1], h1.cons m⟩
    | swap x y l =>
      intro M e
      match M, e with
      | m :: m' :: M, e =>
        rw [List.map_cons, List.map_cons, List.cons.injEq, List.cons.injEq] at e
        exact ⟨m' :: m :: M, by rw [List.map_cons, List.map_cons, e.1, e.2.1, e.2.2], .swap m m' M⟩
    | trans _ _ ih1 ih2 =>
      intro M e
      obtain ⟨L2, e2, h2⟩ := ih2 M e
      obtain ⟨L1, e1, h1⟩ := ih1 L2 e2
      exact ⟨L1, e1, h1.trans h2⟩
  obtain ⟨L, e, hL⟩ := key (sortS_perm (M.map txt)) M rfl
  have hL32 : ∀ x ∈ L, x < 32 := fun x hx => hM x (hL.mem_iff.mp hx)
  refine ⟨L, e, hL, sorted_unique (((hL.trans hp).map txt2).trans (sortS_perm _).symm) ?_ (sortS_sorted _)⟩
  have hs := sortS_sorted (M.map txt)
  rw [e] at hs
  rw [List.pairwise_map] at hs ⊢
  exact hs.imp_of_mem fun {a b} ha hb h q => h ((lt_txt (hL32 b hb) (hL32 a ha)).mp q)
end Mine
end PartPl20

/- part Pl21 -/
section PartPl21
open PySem PySem.W PyProof.Rows PySem.SeqAt
set_option maxRecDepth 100000
namespace Mine

theorem pComp_yes {α : Type} {e : XF} {mk : PV → REnv} (inp res : α → PV) (hf : ∀ x, (res x).flat = true) : ∀ (l : List α), (∀ x ∈ l, e (mk (inp x)) = some (res x)) → pComp tYes e mk (l.map inp) = some (l.map res)
  | [], _ => rfl
  | x :: l, h => by
    have ih := pComp_yes inp res hf l fun y hy => h y (List.mem_cons_of_mem _ hy)
    rw [List.map_cons, pComp, ih]
    show (e (mk (inp x))).bind _ = _
    rw [h x List.mem_cons_self]
    exact if_pos (hf x)
theorem asStrs_map : ∀ l : List (List Nat), asStrs (l.map .str) = some l
  | [] => rfl
  | x :: l => by rw [List.map_cons, asStrs, asStrs_map l]; rfl
theorem lsOf_map (l : List (List Nat)) (h : l.length ≤ 1000) : lsOf (l.map .str) = some (.ls l) := by
  unfold lsOf
  rw [asStrs_map]
  exact if_pos (Nat.le_trans h (by decide))
theorem comp_li {α : Type} {frees : List Nat} {it : LF} {e : XF} {ρ : REnv} (l : List α) (inp : α → PV) (out : α → Int) (hl : l.length ≤ 1000) (hi : it ρ = some (l.map inp)) (he : ∀ x ∈ l, e (mkIn ρ frees (inp x)) = some (.int (out x))) :
    xComp frees liOf it tYes e ρ = some (.li (l.map out)) := by
  show (it ρ).bind _ = _
  rw [hi]
  show (pComp tYes e (mkIn ρ frees) (l.map inp)).bind liOf = _
  rw [pComp_yes inp (fun x => .int (out x)) (fun _ => rfl) l he]
  have := liOf_map (l.map out) (by rw [List.length_map]; exact hl)
  rw [List.map_map] at this
  exact this
theorem comp_ls {α : Type} {frees : List Nat} {it : LF} {e : XF} {ρ : REnv} (l : List α) (inp : α → PV) (out : α → List Nat) (hl : l.length ≤ 1000) (hi : it ρ = some (l.map inp)) (he : ∀ x ∈ l, e (mkIn ρ frees (inp x)) = some (.str (out x))) :
    xComp frees lsOf it tYes e ρ = some (.ls (l.map out)) := by
  show (it ρ).bind _ = _
  rw [hi]
  show (pComp tYes e (mkIn ρ frees) (l.map inp)).bind lsOf = _
  rw [pComp_yes inp (fun x => .str (out x)) (fun _ => rfl) l he]
  have := lsOf_map (l.map out) (by rw [List.length_map]; exact hl)
  rw [List.map_map] at this
  exact this
theorem items_li {f : XF} {ρ : REnv} {l : List Nat} (h : f ρ = some (.li (ofN l))) (hl : l.length ≤ 1000) : iList f ρ = some (l.map fun (m : Nat) => PV.int (m : Int)) := by
  show (f ρ).bind pyItems = _
  rw [h]
  refine (if_pos (by rw [ofN_length]; exact Nat.le_trans hl (by decide))).trans ?_
  unfold ofN
  rw [List.map_map]; rfl
theorem items_ls {f : XF} {ρ : REnv} {l : List Nat} {g : Nat → List Nat} (h : f ρ = some (.ls (l.map g))) (hl : l.length ≤ 1000) : iList f ρ = some (l.map fun m => PV.str (g m)) := by
  show (f ρ).bind pyItems = _
  rw [h]
  refine (if_pos (by rw [List.length_map]; exact Nat.le_trans hl (by decide))).trans ?_
  rw [List.map_map]; rfl

def wordsOk (m : Nat) : Bool := match F_law_words [.int (m : Int)] with
  | some (.str s) => F_pretty_flags [.int (m : Int)] == some (.str s)
  | _ => false
theorem words_all : ((List.range 32).all wordsOk) = true := by decide +kernel
def wordsOf (m : Nat) : List Nat := match F_law_words [.int (m : Int)] with
  | some (.str s) => s
  | _ => []
theorem quote_at {m : Nat} (h : m < 32) : F_quotedata [.str (txt m)] = some (.str (txt2 m)) ∧ F_law_sent [.int (m : Int)] = some (.str (txt2 m)) ∧ F_law_heard [.str (txt2 m)] = some (.int (m : Int)) ∧ F_pretty_flags [.int (m : Int)] = some (.str (wordsOf m)) ∧ F_law_words [.int (m : Int)] = some (.str (wordsOf m)) := by
  have h2 := all_at words_all h
  have w : F_law_words [.int (m : Int)] = some (.str (wordsOf m)) ∧ F_pretty_flags [.int (m : Int)] = some (.str (wordsOf m)) := by
    unfold wordsOk at h2
    unfold wordsOf
    split at h2
    · rename_i s e
      rw [e]
      exact ⟨rfl, beq_iff_eq.mp h2⟩
    · cases h2
  exact ⟨quote_txt h, beq_iff_eq.mp (all_at sent_made h), beq_iff_eq.mp (all_at heard_made h), w.2, w.1⟩

theorem pow_len (n : Nat) (h : n ≤ 5) : pyBin .Pow (.int 2) (.int (n : Int)) = some (.int ((2 ^ n : Nat) : Int)) := by
  match n, h with
  | 0, _ => rfl
  | 1, _ => rfl
  | 2, _ => rfl
  | 3, _ => rfl
  | 4, _ => rfl
  | 5, _ => rfl

def partsOf (y : Nat) : Nat := ((List.range 32).filter fun z => z &&& y == z).length

/-- the law's last part, step by step -/
theorem law2_of {xs C N O F K T : List Int} {S Q : List (List Nat)} {V : List (List Nat)}
    (h3 : xComp [] liOf (iList (xSlice (xVar 2) pNo (pOf (xInt 6)))) tYes (xBin .Mod (xVar 0) (xInt 96)) [some (.li xs), some (.li C), some (.li C), none, none, none, none, none, none] = some (.li N))
    (h4 : xCall F_law_order (lCons (xBin .Mod (xIdx (xVar 2) (xInt 6)) (xInt 120)) lNil) [some (.li xs), some (.li C), some (.li C), some (.li N), none, none, none, none, none] = some (.li O))
    (h5 : xCall F_law_shelf (lCons (xCallOwn F_law_sunk (xCall F_law_book (lCons (xVar 3) lNil)) 4) lNil) [some (.li xs), some (.li C), some (.li C), some (.li N), some (.li O), none, none, none, none] = some (.ls S))
    (h6 : xCall F_law_family (lCons (xVar 3) lNil) [some (.li xs), some (.li C), some (.li C), some (.li N), some (.li O), some (.ls S), none, none, none] = some (.li F))
    (h7 : xComp [] lsOf (iList (xVar 5)) tYes (xCall F_quotedata (lCons (xVar 0) lNil)) [some (.li xs), some (.li C), some (.li C), some (.li N), some (.li O), some (.ls S), some (.li F), none, none] = some (.ls Q))
    (h8 : xCall sortF (lCons (xComp [] lsOf (iList (xCall F_law_won (lCons (xVar 6) (lCons (xVar 4) lNil)))) tYes (xCall F_law_sent (lCons (xVar 0) lNil))) lNil) [some (.li xs), some (.li C), some (.li C), some (.li N), some (.li O), some (.ls S), some (.li F), some (.ls Q), none] = some (.ls Q))
    (h9 : xComp [] liOf (iList (xVar 7)) tYes (xCall F_law_heard (lCons (xVar 0) lNil)) [some (.li xs), some (.li C), some (.li C), some (.li N), some (.li O), some (.ls S), some (.li F), some (.ls Q), none] = some (.li K))
    (h10 : xComp [] lsOf (iList (xVar 8)) tYes (xCall F_pretty_flags (lCons (xVar 0) lNil)) [some (.li xs), some (.li C), some (.li C), some (.li N), some (.li O), some (.ls S), some (.li F), some (.ls Q), some (.li K)] = some (.ls V))
    (h11 : xComp [] lsOf (iList (xVar 8)) tYes (xCall F_law_words (lCons (xVar 0) lNil)) [some (.li xs), some (.li C), some (.li C), some (.li N), some (.li O), some (.ls S), some (.li F), some (.ls Q), some (.li K)] = some (.ls V))
    (h12 : xComp [6] liOf (iList (xVar 8)) tYes (xCall F_law_traces (lCons (xVar 1) (lCons (xVar 0) lNil))) [some (.li xs), some (.li C), some (.li C), some (.li N), some (.li O), some (.ls S), some (.li F), some (.ls Q), some (.li K)] = some (.li T))
    (h13 : xComp [] liOf (iList (xVar 8)) tYes (xBin .Pow (xInt 2) (xCall len1 (lCons (xCall F_law_places (lCons (xVar 0) lNil)) lNil))) [some (.li xs), some (.li C), some (.li C), some (.li N), some (.li O), some (.ls S), some (.li F), some (.ls Q), some (.li K)] = some (.li T)) :
    g_law2 F_law_order F_law_book F_law_sunk F_law_shelf F_law_family F_quotedata F_law_won F_law_sent F_law_heard F_pretty_flags F_law_words F_law_traces F_law_places [some (.li xs), some (.li C), some (.li C), none, none, none, none, none, none] =
      some (.ret (.bool true), [some (.li xs), some (.li C), some (.li C), some (.li N), some (.li O), some (.ls S), some (.li F), some (.ls Q), some (.li K)]) := by
  unfold g_law2
  refine (pSeq_next (ρ' := [some (.li xs), some (.li C), some (.li C), none, none, none, none, none, none]) ((pIf_false ?_).trans rfl)).trans ?_
  · rw [tCmp_of (xVar_of rfl) (xVar_of rfl)]
    show some (!(C == C)) = _
    rw [beq_self_eq_true]; rfl
  refine (pSeq_next (pAssign_of h3)).trans ((pSeq_next (pAssign_of h4)).trans ((pSeq_next (pAssign_of h5)).trans ((pSeq_next (pAssign_of h6)).trans ((pSeq_next (pAssign_of h7)).trans ?_))))
  refine (pSeq_next (ρ' := [some (.li xs), some (.li C), some (.li C), some (.li N), some (.li O), some (.ls S), some (.li F), some (.ls Q), none]) ((pIf_false ?_).trans rfl)).trans ?_
  · refine (tCmp_of (xVar_of rfl) h8).trans ?_
    show some (!(Q == Q)) = _
    rw [beq_self_eq_true]; rfl
  refine (pSeq_next (pAssign_of h9)).trans ?_
  refine (pSeq_next (ρ' := [some (.li xs), some (.li C), some (.li C), some (.li N), some (.li O), some (.ls S), some (.li F), some (.ls Q), some (.li K)]) ((pIf_false ?_).trans rfl)).trans ?_
  · refine (tCmp_of h10 h11).trans ?_
    show some (!(V == V)) = _
    rw [beq_self_eq_true]; rfl
  refine pRet_of ((xCmp_of h12 h13).trans ?_)
  show some (PV.bool (T == T)) = _
  rw [beq_self_eq_true]

theorem pureLaw : PureLaw := fun xs hxs => by
  obtain ⟨cs, hc, hc7, hc60⟩ := cells_eq xs hxs
  refine ⟨[some (.li xs), some (.li (ofN cs)), none, none, none, none, none, none, none], ?_⟩
  have e0 : g_law0 F_law_cells (some (.li xs) :: List.replicate 8 none) = some (.next, [some (.li xs), some (.li (ofN cs)), none, none, none, none, none, none, none]) := by
    unfold g_law0
    rw [pAssign_of ((xCall1 (xVar_of rfl)).trans hc)]; rfl
  have e1 : x_law1 F_law_tape [some (.li xs), some (.li (ofN cs)), none, none, none, none, none, none, none] = some (.li (ofN (tapeOf cs))) := by
    unfold x_law1
    exact (xCall1 (xVar_of rfl)).trans (tape_eq cs hc60 (by omega))
  have e2 : readN 9 (ofN (tapeOf cs)) = some (ofN cs) := read_all cs 9 hc60 (by omega)
  -- the numbers
  let ns : List Nat := (cs.take 6).map (· % 96)
  have hns : ns.length ≤ 6 := by rw [List.length_map, List.length_take]; omega
  have hns96 : ∀ n ∈ ns, n < 96 := fun n hn => by
    obtain ⟨c, _, rfl⟩ := List.mem_map.mp hn
    exact Nat.mod_lt _ (by decide)
  -- the order
  obtain ⟨c6, hc6⟩ : ∃ c, cs[6]? = some c := ⟨cs[6]'(by omega), List.getElem?_eq_getElem (by omega)⟩
  obtain ⟨o, ho, ho5, hoall, holt, hon⟩ := order_eq (n := c6 % 120) (Nat.mod_lt _ (by decide))
  obtain ⟨hFn, hF32, hFl⟩ := fam_ok ns
  obtain ⟨hperm, hmem, hsl⟩ := sunk_won hF32 hFn hon holt hoall
  have hFl6 : (fam ns).length ≤ 6 := Nat.le_trans hFl hns
  obtain ⟨L, hL, hLp, hL2⟩ := shelf_masks (fun x hx => (hmem x hx).1) hperm
  have hL32 : ∀ x ∈ L, x < 32 := fun x hx => (hmem x (hLp.mem_iff.mp hx)).1
  have hLl : L.length ≤ 1000 := by rw [hLp.length_eq, hsl]; omega
  have hwl : (wonR o.reverse (fam ns)).length ≤ 6 := by rw [wonR_length]; exact hFl6
  have hw32 : ∀ x ∈ wonR o.reverse (fam ns), x < 32 := fun x hx => (hmem x (hperm.mem_iff.mpr hx)).1
  have f1 : xComp [] liOf (iList (xSlice (xVar 2) pNo (pOf (xInt 6)))) tYes (xBin .Mod (xVar 0) (xInt 96)) [some (.li xs), some (.li (ofN cs)), some (.li (ofN cs)), none, none, none, none, none, none] = some (.li (ofN ns)) := by
    have hs : xSlice (xVar 2) pNo (pOf (xInt 6)) [some (.li xs), some (.li (ofN cs)), some (.li (ofN cs)), none, none, none, none, none, none] = some (.li (ofN (cs.take 6))) := by
      rw [xSlice_of (xVar_of rfl) rfl (pOf_of (i := ((6 : Nat) : Int)) rfl), slice_li (by rw [ofN_length]; omega), pick_take _ _ (by rw [ofN_length]; omega)]
      unfold ofN
      rw [List.map_take]
    rw [comp_li (cs.take 6) (fun m => .int (m : Int)) (fun m => ((m % 96 : Nat) : Int)) (by rw [List.length_take]; omega) (items_li hs (by rw [List.length_take]; omega)) fun x _ => ?_]
    · show _ = some (PV.li (ofN ((cs.take 6).map (· % 96))))
      unfold ofN
      rw [List.map_map]; rfl
    · rw [xBin_of (a := .int (x : Int)) (c := .int ((96 : Nat) : Int)) rfl rfl]
      exact mod_pv x 96 (by decide)
  -- the order's number
  have f4 : ∀ ρ : REnv, ρ[2]? = some (some (.li (ofN cs))) → xCall F_law_order (lCons (xBin .Mod (xIdx (xVar 2) (xInt 6)) (xInt 120)) lNil) ρ = some (.li (ofN o)) := fun ρ h2 => by
    have hc : (ofN cs)[6]? = some (c6 : Int) := by unfold ofN; rw [List.getElem?_map, hc6]; rfl
    have h1 : xIdx (xVar 2) (xInt 6) ρ = some (.int (c6 : Int)) := (xIdx_of (c := .int ((6 : Nat) : Int)) (xVar_of h2) rfl).trans (idx_li (p := 6) (by decide) hc)
    have h3 : xBin .Mod (xIdx (xVar 2) (xInt 6)) (xInt 120) ρ = some (.int ((c6 % 120 : Nat) : Int)) := (xBin_of (c := .int ((120 : Nat) : Int)) h1 rfl).trans (mod_pv c6 120 (by decide))
    exact (xCall1 h3).trans ho
  have f5 : ∀ ρ : REnv, ρ[3]? = some (some (.li (ofN ns))) → ρ[4]? = some (some (.li (ofN o))) → xCall F_law_shelf (lCons (xCallOwn F_law_sunk (xCall F_law_book (lCons (xVar 3) lNil)) 4) lNil) ρ = some (.ls (L.map txt)) := fun ρ h3 h4 => by
    have hb : xCall F_law_book (lCons (xVar 3) lNil) ρ = some (.ls ((fam ns).map txt)) := (xCall1 (xVar_of h3)).trans (book_eq ns (by omega) hns96)
    have hs : xCallOwn F_law_sunk (xCall F_law_book (lCons (xVar 3) lNil)) 4 ρ = some (.ls ((sunk (fam ns) o).map txt)) := by
      unfold xCallOwn
      rw [hb, h4]
      exact sunk_eq hF32 (by omega) holt (by omega)
    refine (xCall1 hs).trans ?_
    rw [shelf_eq _ (by rw [List.length_map, hsl]; omega), hL]
  have f6 : ∀ ρ : REnv, ρ[3]? = some (some (.li (ofN ns))) → xCall F_law_family (lCons (xVar 3) lNil) ρ = some (.li (ofN (fam ns))) := fun ρ h3 =>
    (xCall1 (xVar_of h3)).trans (family_eq ns (by omega))
  have f7 : ∀ ρ : REnv, ρ[5]? = some (some (.ls (L.map txt))) → xComp [] lsOf (iList (xVar 5)) tYes (xCall F_quotedata (lCons (xVar 0) lNil)) ρ = some (.ls (L.map txt2)) := fun ρ h =>
    comp_ls L (fun m => .str (txt m)) txt2 hLl (items_ls (xVar_of h) hLl) fun m hm => (xCall1 (xVar_of rfl)).trans (quote_at (hL32 m hm)).1
  have hw := won_eq o.reverse (fam ns) 7 (by rw [List.length_reverse]; omega) (by rw [List.length_reverse]; omega) (fun e h => holt e (List.mem_reverse.mp h)) hF32 (by omega)
  rw [List.reverse_reverse] at hw
  have f8 : ∀ ρ : REnv, ρ[6]? = some (some (.li (ofN (fam ns)))) → ρ[4]? = some (some (.li (ofN o))) → xCall sortF (lCons (xComp [] lsOf (iList (xCall F_law_won (lCons (xVar 6) (lCons (xVar 4) lNil)))) tYes (xCall F_law_sent (lCons (xVar 0) lNil))) lNil) ρ = some (.ls (L.map txt2)) := fun ρ h6 h4 => by
    have a1 : xCall F_law_won (lCons (xVar 6) (lCons (xVar 4) lNil)) ρ = some (.li (ofN (wonR o.reverse (fam ns)))) := (xCall2 (xVar_of h6) (xVar_of h4)).trans hw
    have a2 := comp_ls (frees := []) (e := xCall F_law_sent (lCons (xVar 0) lNil)) (wonR o.reverse (fam ns)) (fun (m : Nat) => .int (m : Int)) txt2 (by omega) (items_li a1 (by omega)) fun m hm => (xCall1 (xVar_of rfl)).trans (quote_at (hw32 m hm)).2.1
    refine (xCall1 a2).trans ?_
    rw [hL2]
    exact if_pos (by rw [List.length_map]; omega)
  have f9 : ∀ ρ : REnv, ρ[7]? = some (some (.ls (L.map txt2))) → xComp [] liOf (iList (xVar 7)) tYes (xCall F_law_heard (lCons (xVar 0) lNil)) ρ = some (.li (ofN L)) := fun ρ h =>
    comp_li L (fun m => .str (txt2 m)) (fun (m : Nat) => (m : Int)) hLl (items_ls (xVar_of h) hLl) fun m hm => (xCall1 (xVar_of rfl)).trans (quote_at (hL32 m hm)).2.2.1
  have f10 : ∀ ρ : REnv, ρ[8]? = some (some (.li (ofN L))) → xComp [] lsOf (iList (xVar 8)) tYes (xCall F_pretty_flags (lCons (xVar 0) lNil)) ρ = some (.ls (L.map wordsOf)) := fun ρ h =>
    comp_ls L (fun (m : Nat) => .int (m : Int)) wordsOf hLl (items_li (xVar_of h) hLl) fun m hm => (xCall1 (xVar_of rfl)).trans (quote_at (hL32 m hm)).2.2.2.1
  have f11 : ∀ ρ : REnv, ρ[8]? = some (some (.li (ofN L))) → xComp [] lsOf (iList (xVar 8)) tYes (xCall F_law_words (lCons (xVar 0) lNil)) ρ = some (.ls (L.map wordsOf)) := fun ρ h =>
    comp_ls L (fun (m : Nat) => .int (m : Int)) wordsOf hLl (items_li (xVar_of h) hLl) fun m hm => (xCall1 (xVar_of rfl)).trans (quote_at (hL32 m hm)).2.2.2.2
  have f12 : ∀ ρ : REnv, ρ[8]? = some (some (.li (ofN L))) → ρ[6]? = some (some (.li (ofN (fam ns)))) → xComp [6] liOf (iList (xVar 8)) tYes (xCall F_law_traces (lCons (xVar 1) (lCons (xVar 0) lNil))) ρ = some (.li (L.map fun y => ((partsOf y : Nat) : Int))) := fun ρ h h6 =>
    comp_li L (fun (m : Nat) => .int (m : Int)) (fun y => ((partsOf y : Nat) : Int)) hLl (items_li (xVar_of h) hLl) fun y hy => by
      have b1 : xVar 1 (mkIn ρ [6] (.int (y : Int))) = some (.li (ofN (fam ns))) := xVar_of (by show some (ρ[6]?.join) = _; rw [h6]; rfl)
      refine (xCall2 b1 (xVar_of rfl)).trans ((traces_eq (fam ns) y (hL32 y hy) (by omega)).trans ?_)
      have b2 := traces_count ((List.reverse_perm o).nodup_iff.mpr hon) (fun e h => holt e (List.mem_reverse.mp h)) (fun i h => List.mem_reverse.mpr (hoall i h)) hF32 (hL32 y hy) (hmem y (hLp.mem_iff.mp hy)).2
      rw [b2]; rfl
  have f13 : ∀ ρ : REnv, ρ[8]? = some (some (.li (ofN L))) → xComp [] liOf (iList (xVar 8)) tYes (xBin .Pow (xInt 2) (xCall len1 (lCons (xCall F_law_places (lCons (xVar 0) lNil)) lNil))) ρ = some (.li (L.map fun y => ((partsOf y : Nat) : Int))) := fun ρ h =>
    comp_li L (fun (m : Nat) => .int (m : Int)) (fun y => ((partsOf y : Nat) : Int)) hLl (items_li (xVar_of h) hLl) fun y hy => by
      obtain ⟨l, e, hl5, hp⟩ := places_eq (hL32 y hy)
      have b1 : xCall len1 (lCons (xCall F_law_places (lCons (xVar 0) lNil)) lNil) (mkIn ρ [] (.int (y : Int))) = some (.int ((l.length : Nat) : Int)) := (xCall1 ((xCall1 (xVar_of rfl)).trans e)).trans (len1_li (by omega))
      refine (xBin_of (a := .int 2) rfl b1).trans ((pow_len l.length hl5).trans ?_)
      rw [hp]; rfl
  exact ⟨_, _, _, e0, e1, e2, law2_of f1 (f4 _ rfl) (f5 _ rfl rfl) (f6 _ rfl) (f7 _ rfl) (f8 _ rfl rfl) (f9 _ rfl) (f10 _ rfl) (f11 _ rfl) (f12 _ rfl rfl) (f13 _ rfl)⟩
end Mine
end PartPl21

theorem PySem.Challenge.cw_ty0001_01_holds : PySem.Challenge.rw_ty0001_01.Holds :=
  Mine.row_of Mine.pureLaw

import PyProof.Rows.All
import PySem.Builtin.Re_Pattern.W2All
import Wide.All
import OpenK.AllK
import Wide.FinOn
import Lean
import PySem.Challenge.RW_tx0001_01
set_option Elab.async false
-- part Hd
namespace Mine
open PySem PySem.W PyProof.Rows
set_option maxRecDepth 100000
set_option maxHeartbeats 8000000
open_top hd for PySem.Challenge.rw_tx0001_01
end Mine
-- part Sre1
namespace Mine
set_option maxHeartbeats 200000
open PySem PySem.Sre

theorem runFor_done {m : M} (h : m.outcome.isSome = true) : ∀ n, m.runFor n = m
  | 0 => rfl
  | n + 1 => by rw [M.runFor, if_pos h]
theorem runFor_add (m : M) : ∀ a b, m.runFor (a + b) = (m.runFor a).runFor b
  | 0, b => by rw [Nat.zero_add]; rfl
  | a + 1, b => by
    by_cases h : m.outcome.isSome = true
    · rw [runFor_done h, runFor_done h, runFor_done h]
    · rw [show a + 1 + b = (a + b) + 1 from by omega, M.runFor, if_neg h, runFor_add _ a b]
      conv => rhs; rw [M.runFor, if_neg h]
theorem runFor_one {m : M} (h : m.outcome = none) (n : Nat) : m.runFor (n + 1) = m.step.runFor n := by
  rw [M.runFor, if_neg (by rw [h]; exact Bool.false_ne_true)]

/-- in at most n steps m stands as P says -/
def Gets (n : Nat) (m : M) (P : M → Prop) : Prop := ∃ k, k ≤ n ∧ P (m.runFor k)
theorem Gets.now {n : Nat} {m : M} {P : M → Prop} (h : P m) : Gets n m P := ⟨0, Nat.zero_le _, h⟩
theorem Gets.step {n : Nat} {m : M} {P : M → Prop} (ho : m.outcome = none) (h : Gets n m.step P) : Gets (n + 1) m P :=
  let ⟨k, hk, hp⟩ := h
  ⟨k + 1, Nat.succ_le_succ hk, by rw [runFor_one ho]; exact hp⟩
theorem Gets.trans {a b : Nat} {m : M} {P Q : M → Prop} (h : Gets a m P) (hq : ∀ m', P m' → Gets b m' Q) : Gets (a + b) m Q :=
  let ⟨k, hk, hp⟩ := h
  let ⟨j, hj, hq'⟩ := hq _ hp
  ⟨k + j, Nat.add_le_add hk hj, by rw [runFor_add]; exact hq'⟩
theorem Gets.mono {a b : Nat} {m : M} {P Q : M → Prop} (h : Gets a m P) (hab : a ≤ b) (hq : ∀ m', P m' → Q m') : Gets b m Q :=
  let ⟨k, hk, hp⟩ := h
  ⟨k, Nat.le_trans hk hab, hq _ hp⟩

def code1 : Array Nat := #[14, 4, 0, 1, 1, 6, 1, 16, 46, 1]
def code2 : Array Nat := #[14, 9, 4, 1, 2, 16, 10, 16, 13, 0, 7, 7, 16, 13, 16, 10, 15, 18, 5, 16, 10, 15, 13, 11, 16, 13, 5, 5, 0, 16, 10, 1, 15, 2, 0, 1]

def st1 (t : Array Nat) (L s : Nat) (must o : Bool) (seen : Seen) : M :=
  { code := code1, text := t, lim := t.size, start := s, lastStart := L, wholeText := false, mustAdvance := must, pc := 5, pos := s, handed := s, outermost := o, marks := #[], lastmark := -1, lastindex := -1, loops := #[], inner := none,
    frames := [{ wait := .nextStart, pc := 5, pos := s, outermost := o }], weight := 1, answer := none, seen := seen, outcome := none }

def bol (t : Array Nat) (s : Nat) : Bool := s == 0 || t.getD (s - 1) 0 == 10


theorem st1_a (t : Array Nat) (L s : Nat) (must o : Bool) (seen : Seen) : (st1 t L s must o seen).step =
    if bol t s = true then { st1 t L s must o ((seen.add 6).add 44) with pc := 7 } else (st1 t L s must o ((seen.add 6).add 44)).say false := rfl
theorem st1_b (t : Array Nat) (L s : Nat) (must o : Bool) (seen : Seen) : ({ st1 t L s must o seen with pc := 7 } : M).step =
    if s ≥ t.size then ({ st1 t L s must o (seen.add 16) with pc := 7 } : M).say false else
      if t.getD s 0 == 46 then { st1 t L s must o (seen.add 16) with pc := 9, pos := s + 1 } else ({ st1 t L s must o (seen.add 16) with pc := 7 } : M).say false := by
  show (if s ≥ t.size then _ else (match (Except.ok (t.getD s 0 == 46, seen.add 16) : Except String (Bool × Seen)) with | .error why => _ | .ok (false, seen) => _ | .ok (true, seen) => _)) = _
  cases h : (t.getD s 0 == 46) <;> rfl
theorem st1_c (t : Array Nat) (L s : Nat) (must o : Bool) (seen : Seen) : ({ st1 t L s must o seen with pc := 9, pos := s + 1 } : M).step =
    ({ st1 t L s must o (seen.add 1) with pc := 9, pos := s + 1, handed := s + 1 } : M).say true := by
  show (if (o && ((false && (s + 1 != t.size)) || (must && (s + 1 == s)))) = true then _ else _) = _
  rw [if_neg (by simp)]
  rfl
theorem st1_d (t : Array Nat) (L s pc pos handed : Nat) (must o : Bool) (seen : Seen) : (({ st1 t L s must o seen with pc := pc, pos := pos, handed := handed } : M).say true).step =
    ({ st1 t L s must o seen with pc := 5, pos := s, handed := handed, frames := [], weight := 0 } : M).say true := rfl
theorem st1_e (t : Array Nat) (L s pc pos handed : Nat) (must o : Bool) (seen : Seen) : (({ st1 t L s must o seen with pc := pc, pos := pos, handed := handed, frames := [], weight := 0 } : M).say true).step.outcome = some .matched := rfl

theorem st1_hit {t : Array Nat} {L s : Nat} {must o : Bool} {seen : Seen} (hb : bol t s = true) (hs : s < t.size) (hc : t.getD s 0 = 46) :
    Gets 5 (st1 t L s must o seen) fun m => m.outcome = some .matched ∧ m.start = s ∧ m.handed = s + 1 := by
  refine Gets.step rfl ?_
  rw [st1_a, if_pos hb]
  refine Gets.step rfl ?_
  rw [st1_b, if_neg (by omega), if_pos (by rw [hc]; rfl)]
  refine Gets.step rfl ?_
  rw [st1_c]
  refine Gets.step rfl ?_
  rw [st1_d]
  refine Gets.step rfl ?_
  exact Gets.now ⟨rfl, rfl, rfl⟩

theorem st1_f {t : Array Nat} {L s pc pos : Nat} {must o : Bool} {seen : Seen} (h : s < L) : (({ st1 t L s must o seen with pc := pc, pos := pos } : M).say false).step = st1 t L (s + 1) false false seen := by
  show (if s < L then _ else _) = _
  rw [if_pos h]
  rfl
theorem st1_g {t : Array Nat} {L s pc pos : Nat} {must o : Bool} {seen : Seen} (h : ¬ s < L) : (({ st1 t L s must o seen with pc := pc, pos := pos } : M).say false).step = ({ st1 t L s must o seen with pc := 5, pos := s, frames := [], weight := 0 } : M).say false := by
  show (if s < L then _ else _) = _
  rw [if_neg h]
  rfl

theorem st1_miss {t : Array Nat} {L s : Nat} {must o : Bool} {seen : Seen} (hn : ¬ (bol t s = true ∧ s < t.size ∧ t.getD s 0 = 46)) :
    Gets 4 (st1 t L s must o seen) fun m => if s < L then ∃ seen', m = st1 t L (s + 1) false false seen' else m.outcome = some .failed := by
  have last : ∀ {pc pos : Nat} {seen' : Seen}, Gets 2 (({ st1 t L s must o seen' with pc := pc, pos := pos } : M).say false) fun m => if s < L then ∃ seen', m = st1 t L (s + 1) false false seen' else m.outcome = some .failed := by
    intro pc pos seen'
    by_cases hL : s < L
    · refine Gets.step rfl ?_
      rw [st1_f hL]
      exact Gets.now (by rw [if_pos hL]; exact ⟨_, rfl⟩)
    · refine Gets.step rfl ?_
      rw [st1_g hL]
      refine Gets.step rfl ?_
      exact Gets.now (by rw [if_neg hL]; rfl)
  refine Gets.step rfl ?_
  rw [st1_a]
  by_cases hb : bol t s = true
  · rw [if_pos hb]
    refine Gets.step rfl ?_
    rw [st1_b]
    by_cases hs : s ≥ t.size
    · rw [if_pos hs]
      exact last
    · rw [if_neg hs, if_neg (fun hc => hn ⟨hb, by omega, by simpa using hc⟩)]
      exact last
  · rw [if_neg hb]
    exact (last (pc := 5) (pos := s)).mono (by omega) fun _ h => h

/-- the first place from s on, below n, that p holds of -/
def firstAt (p : Nat → Bool) : (n s : Nat) → Option Nat
  | 0, _ => none
  | n + 1, s => if p s then some s else firstAt p n (s + 1)

def hit1 (t : Array Nat) (s : Nat) : Bool := bol t s && (decide (s < t.size) && (t.getD s 0 == 46))
theorem st1_run {t : Array Nat} : ∀ (n s : Nat) (must o : Bool) (seen : Seen), s + n = t.size →
    Gets (5 * n + 5) (st1 t t.size s must o seen) fun m => match firstAt (hit1 t) n s with
      | some r => m.outcome = some .matched ∧ m.start = r ∧ m.handed = r + 1
      | none => m.outcome = some .failed
  | 0, s, must, o, seen, h => by
    refine (st1_miss (L := t.size) (fun hn => by omega)).mono (by omega) fun m hm => ?_
    rw [if_neg (by omega)] at hm
    exact hm
  | n + 1, s, must, o, seen, h => by
    rw [firstAt]
    by_cases hp : hit1 t s = true
    · rw [if_pos hp]
      have hp' := hp
      unfold hit1 at hp'
      simp only [Bool.and_eq_true, decide_eq_true_eq, beq_iff_eq] at hp'
      exact (st1_hit hp'.1 hp'.2.1 hp'.2.2).mono (by omega) fun m hm => hm
    · rw [if_neg hp]
      have hn : ¬ (bol t s = true ∧ s < t.size ∧ t.getD s 0 = 46) := by
        rintro ⟨a, b, c⟩
        exact hp (by unfold hit1; simp [a, b, c])
      refine ((st1_miss (L := t.size) (must := must) (o := o) (seen := seen) hn).trans (b := 5 * n + 5) fun m hm => ?_).mono (b := 5 * (n + 1) + 5) (by omega) fun _ h => h
      rw [if_pos (by omega)] at hm
      obtain ⟨seen', rfl⟩ := hm
      exact st1_run n (s + 1) false false seen' (by omega)

def fr1 (t : Array Nat) (s : Nat) (must : Bool) : M :=
  { code := code1, text := t, lim := t.size, start := s, pc := 5, pos := s, handed := s, marks := #[], mustAdvance := must, seen := ({} : Seen).add 14 }
theorem search1_eq (t : Array Nat) (s : Nat) (must : Bool) : Sre.forSearch code1 t 0 s t.size must =
    if (decide (s > t.size) || decide (t.size - s < 1)) = true then (fr1 t s must).say false else st1 t t.size s must true (({} : Seen).add 14) := rfl
theorem firstAt_zero (p : Nat → Bool) (s : Nat) : firstAt p 0 s = none := rfl
theorem search1 (t : Array Nat) (s : Nat) (hs : s ≤ t.size) (must : Bool) :
    Gets (5 * t.size + 5) (Sre.forSearch code1 t 0 s t.size must) fun m => match firstAt (hit1 t) (t.size - s) s with
      | some r => m.outcome = some .matched ∧ m.start = r ∧ m.handed = r + 1
      | none => m.outcome = some .failed := by
  rw [search1_eq]
  by_cases h : t.size - s < 1
  · rw [if_pos (by simp [h]), show t.size - s = 0 from by omega, firstAt_zero]
    refine (Gets.step (n := 0) rfl ?_).mono (by omega) fun _ h => h
    exact Gets.now rfl
  · rw [if_neg (by simp; omega)]
    exact (st1_run (t.size - s) s must true _ (by omega)).mono (by omega) fun _ h => h

/- ---- the second pattern ---- -/
def st2 (t : Array Nat) (s : Nat) (must o : Bool) (seen : Seen) : M :=
  { code := code2, text := t, lim := t.size, start := s, lastStart := t.size, wholeText := false, mustAdvance := must, pc := 10, pos := s, handed := s, outermost := o, marks := #[], lastmark := -1, lastindex := -1, loops := #[], inner := none,
    frames := [{ wait := .nextStart, pc := 10, pos := s, outermost := o }], weight := 1, answer := none, seen := seen, outcome := none }
def fr2 (t : Array Nat) (s : Nat) (must : Bool) : M :=
  { code := code2, text := t, lim := t.size, start := s, lastStart := t.size, pc := 10, pos := s, handed := s, marks := #[], mustAdvance := must, seen := ({} : Seen).add 14 }
theorem search2_eq (t : Array Nat) (s : Nat) (must : Bool) : Sre.forSearch code2 t 0 s t.size must =
    if (decide (s > t.size) || decide (t.size - s < 1)) = true then ({ fr2 t s must with lastStart := 0 } : M).say false else
      match M.admitted (fr2 t s must) (t.size + 1 - s) s (({} : Seen).add 14) with
      | .ok (some s, seen) => st2 t s false true seen
      | .ok (none, seen) => ({ fr2 t s must with seen := seen } : M).say false
      | .error why => (fr2 t s must).stick why := by
  show (if (decide (s > t.size) || decide (t.size - s < 1)) = true then ({ fr2 t s must with lastStart := 0 } : M).say false else _) = _
  congr 1

def nl (c : Nat) : Bool := c == 10 || c == 13
theorem inSet2 (c : Nat) (seen : Seen) : ∃ seen', inSet code2 c code2.size 5 true seen = .ok (nl c, seen') := by
  have e : inSet code2 c code2.size 5 true seen = if (c == 10) = true then .ok (true, seen.add 16) else if (c == 13) = true then .ok (true, (seen.add 16).add 16) else .ok (false, ((seen.add 16).add 16).add 0) := rfl
  rw [e]
  unfold nl
  cases h1 : c == 10 <;> cases h2 : c == 13 <;> exact ⟨_, rfl⟩
theorem admitted2 (t : Array Nat) (m : M) (hc : m.code = code2) (ht : m.text = t) (hl : m.lim = t.size) : ∀ (n s : Nat) (seen : Seen), s + n = t.size → ∃ seen', M.admitted m (n + 1) s seen = .ok (firstAt (fun i => nl (t.getD i 0)) n s, seen')
  | 0, s, seen, h => ⟨seen, by unfold M.admitted; rw [if_pos (by omega)]; rfl⟩
  | n + 1, s, seen, h => by
    obtain ⟨seen', e⟩ := inSet2 (t.getD s 0) seen
    unfold M.admitted
    rw [if_neg (by omega), hc, ht, e, firstAt]
    cases hb : nl (t.getD s 0) with
    | true => exact ⟨seen', by simp⟩
    | false =>
      obtain ⟨seen'', e'⟩ := admitted2 t m hc ht hl n (s + 1) seen' (by omega)
      exact ⟨seen'', by simpa using e'⟩

def end2 (t : Array Nat) (s : Nat) : Nat := if t.getD s 0 = 13 ∧ s + 1 < t.size ∧ t.getD (s + 1) 0 = 10 then s + 2 else s + 1

theorem step_lit {m : M} (ho : m.outcome = none) (ha : m.answer = none) (hp : m.pc < m.code.size) (hop : m.word 0 = 16) : m.step =
    if m.pos ≥ m.lim then ({ m with seen := m.seen.add 16 } : M).say false else
      if m.text.getD m.pos 0 == m.word 1 then { m with seen := m.seen.add 16, pc := m.pc + 2, pos := m.pos + 1 } else ({ m with seen := m.seen.add 16 } : M).say false := by
  have e0 : m.step = m.exec := by
    unfold M.step
    rw [ho, ha]
    show (if m.pc < m.code.size then m.exec else _) = _
    rw [if_pos hp]
  rw [e0]
  unfold M.exec
  rw [hop]
  have hop' : m.code.getD m.pc 0 = 16 := by have := hop; unfold M.word at this; simpa using this
  show (if m.pos ≥ m.lim then _ else (match accepts m.code m.pc (m.text.getD m.pos 0) (m.seen.add 16) with | .error why => _ | .ok (false, seen) => _ | .ok (true, seen) => _)) = _
  have e : accepts m.code m.pc (m.text.getD m.pos 0) (m.seen.add 16) = .ok (m.text.getD m.pos 0 == m.word 1, m.seen.add 16) := by
    unfold accepts
    rw [hop']
    rfl
  have e2 : itemWidth m.code m.pc = 2 := by
    unfold itemWidth
    rw [hop']
    rfl
  rw [e]
  by_cases hl : m.pos ≥ m.lim
  · rw [if_pos hl, if_pos hl]
  · rw [if_neg hl, if_neg hl]
    cases hb : m.text.getD m.pos 0 == m.word 1
    · rw [if_neg (by simp)]
    · rw [if_pos rfl]
      show ({ m with seen := m.seen.add 16, pc := m.pc + itemWidth m.code m.pc, pos := m.pos + 1 } : M) = _
      rw [e2]

/-- a state of the second machine -/
def at2 (t : Array Nat) (s pc pos handed : Nat) (must o : Bool) (seen : Seen) (fs : List Sre.Frame) (wt : Nat) (an : Option Bool) : M :=
  { code := code2, text := t, lim := t.size, start := s, lastStart := t.size, wholeText := false, mustAdvance := must, pc := pc, pos := pos, handed := handed, outermost := o, marks := #[], lastmark := -1, lastindex := -1, loops := #[], inner := none,
    frames := fs, weight := wt, answer := an, seen := seen, outcome := none }
def kp : Sre.Kept := { lastmark := -1, lastindex := -1, whole := false, marks := #[] }
def f0 (s : Nat) (o : Bool) : Sre.Frame := { wait := .nextStart, pc := 10, pos := s, outermost := o }
def fb (s pc : Nat) (o : Bool) : Sre.Frame := { wait := .nextBranch, pc := pc, pos := s, outermost := o, kept := kp }
def fl (s : Nat) (o : Bool) : Sre.Frame := { wait := .lookNot, pc := 26, pos := s, outermost := o, kept := kp }

theorem at2_lit {t : Array Nat} {s pc pos handed : Nat} {must o : Bool} {seen : Seen} {fs : List Sre.Frame} {wt c : Nat} (hc : code2.getD pc 0 = 16) (hw : code2.getD (pc + 1) 0 = c) (hp : pc < 36) (h1 : pos < t.size) (h2 : t.getD pos 0 = c) :
    (at2 t s pc pos handed must o seen fs wt none).step = at2 t s (pc + 2) (pos + 1) handed must o (seen.add 16) fs wt none := by
  rw [step_lit (m := at2 t s pc pos handed must o seen fs wt none) rfl rfl hp hc, if_neg (by show ¬ pos ≥ t.size; omega), if_pos (by show (t.getD pos 0 == code2.getD (pc + 1) 0) = true; rw [h2, hw]; simp)]
  rfl
theorem at2_nolit {t : Array Nat} {s pc pos handed : Nat} {must o : Bool} {seen : Seen} {fs : List Sre.Frame} {wt c : Nat} (hc : code2.getD pc 0 = 16) (hw : code2.getD (pc + 1) 0 = c) (hp : pc < 36) (h2 : ¬ (pos < t.size ∧ t.getD pos 0 = c)) :
    (at2 t s pc pos handed must o seen fs wt none).step = at2 t s pc pos handed must o (seen.add 16) fs wt (some false) := by
  rw [step_lit (m := at2 t s pc pos handed must o seen fs wt none) rfl rfl hp hc]
  by_cases h1 : pos < t.size
  · rw [if_neg (by show ¬ pos ≥ t.size; omega), if_neg (by show ¬ (t.getD pos 0 == code2.getD (pc + 1) 0) = true; rw [hw]; simpa using fun e => h2 ⟨h1, e⟩)]
    rfl
  · rw [if_pos (by show pos ≥ t.size; omega)]
    rfl
theorem at2_succ {t : Array Nat} {s pos handed : Nat} {must o : Bool} {seen : Seen} {fs : List Sre.Frame} {wt : Nat} (h : pos ≠ s) :
    (at2 t s 35 pos handed must o seen fs wt none).step = at2 t s 35 pos pos must o (seen.add 1) fs wt (some true) := by
  show (if (o && ((false && (pos != t.size)) || (must && (pos == s)))) = true then _ else _) = _
  rw [if_neg (by simp [h])]
  rfl
theorem at2_end {t : Array Nat} {s pos h pb : Nat} {must o : Bool} {seen : Seen} :
    Gets 3 (at2 t s 35 pos h must o seen [fb s pb o, f0 s o] 2 (some true)) fun m => m.outcome = some .matched ∧ m.start = s ∧ m.handed = h := by
  refine Gets.step rfl (Gets.step rfl (Gets.step rfl (Gets.now ⟨rfl, rfl, rfl⟩)))

theorem st2_run {t : Array Nat} {s : Nat} {must o : Bool} {seen : Seen} (hs : s < t.size) (hn : nl (t.getD s 0) = true) :
    Gets 20 (st2 t s must o seen) fun m => m.outcome = some .matched ∧ m.start = s ∧ m.handed = end2 t s := by
  have b1 : (st2 t s must o seen).step = at2 t s 12 s s must o (seen.add 7) [fb s 11 o, f0 s o] 2 none := rfl
  have r2 : ∀ pc pos seen, (at2 t s pc pos s must o seen [fb s 11 o, f0 s o] 2 (some false)).step = at2 t s 19 s s must o seen [fb s 18 o, f0 s o] 2 none := fun _ _ _ => rfl
  have r3 : ∀ pc pos seen, (at2 t s pc pos s must o seen [fb s 18 o, f0 s o] 2 (some false)).step = at2 t s 24 s s must o seen [fb s 23 o, f0 s o] 2 none := fun _ _ _ => rfl
  refine Gets.step rfl ?_
  rw [b1]
  unfold end2
  by_cases h13 : t.getD s 0 = 13
  · refine Gets.step rfl ?_
    rw [at2_lit (c := 13) rfl rfl (by decide) hs h13]
    by_cases h10 : s + 1 < t.size ∧ t.getD (s + 1) 0 = 10
    · rw [if_pos ⟨h13, h10⟩]
      refine Gets.step rfl ?_
      rw [at2_lit (c := 10) rfl rfl (by decide) h10.1 h10.2]
      refine Gets.step rfl ?_
      have j : ∀ seen, (at2 t s (12 + 2 + 2) (s + 1 + 1) s must o seen [fb s 11 o, f0 s o] 2 none).step = at2 t s 35 (s + 2) s must o (seen.add 15) [fb s 11 o, f0 s o] 2 none := fun _ => rfl
      rw [j]
      refine Gets.step rfl ?_
      rw [at2_succ (by omega)]
      exact at2_end.mono (by omega) fun _ h => h
    · rw [if_neg (fun h => h10 h.2)]
      refine Gets.step rfl ?_
      rw [at2_nolit (c := 10) rfl rfl (by decide) h10]
      refine Gets.step rfl ?_
      rw [r2]
      refine Gets.step rfl ?_
      rw [at2_nolit (c := 10) rfl rfl (by decide) (by rw [h13]; omega)]
      refine Gets.step rfl ?_
      rw [r3]
      refine Gets.step rfl ?_
      rw [at2_lit (c := 13) rfl rfl (by decide) hs h13]
      refine Gets.step rfl ?_
      have a : ∀ seen, (at2 t s (24 + 2) (s + 1) s must o seen [fb s 23 o, f0 s o] 2 none).step = at2 t s 29 (s + 1) (s + 1) must false (seen.add 5) [fl (s + 1) o, fb s 23 o, f0 s o] 3 none := fun _ => rfl
      rw [a]
      refine Gets.step rfl ?_
      rw [at2_nolit (c := 10) rfl rfl (by decide) h10]
      refine Gets.step rfl ?_
      have l : ∀ seen, (at2 t s 29 (s + 1) (s + 1) must false seen [fl (s + 1) o, fb s 23 o, f0 s o] 3 (some false)).step = at2 t s 32 (s + 1) (s + 1) must o seen [fb s 23 o, f0 s o] 2 none := fun _ => rfl
      rw [l]
      refine Gets.step rfl ?_
      have j : ∀ seen, (at2 t s 32 (s + 1) (s + 1) must o seen [fb s 23 o, f0 s o] 2 none).step = at2 t s 35 (s + 1) (s + 1) must o (seen.add 15) [fb s 23 o, f0 s o] 2 none := fun _ => rfl
      rw [j]
      refine Gets.step rfl ?_
      rw [at2_succ (by omega)]
      exact at2_end.mono (by omega) fun _ h => h
  · have h10 : t.getD s 0 = 10 := by unfold nl at hn; simp only [Bool.or_eq_true, beq_iff_eq] at hn; omega
    rw [if_neg (fun h => h13 h.1)]
    refine Gets.step rfl ?_
    rw [at2_nolit (c := 13) rfl rfl (by decide) (fun h => h13 h.2)]
    refine Gets.step rfl ?_
    rw [r2]
    refine Gets.step rfl ?_
    rw [at2_lit (c := 10) rfl rfl (by decide) hs h10]
    refine Gets.step rfl ?_
    have j : ∀ seen, (at2 t s (19 + 2) (s + 1) s must o seen [fb s 18 o, f0 s o] 2 none).step = at2 t s 35 (s + 1) s must o (seen.add 15) [fb s 18 o, f0 s o] 2 none := fun _ => rfl
    rw [j]
    refine Gets.step rfl ?_
    rw [at2_succ (by omega)]
    exact at2_end.mono (by omega) fun _ h => h

theorem firstAt_some {p : Nat → Bool} : ∀ {n s r : Nat}, firstAt p n s = some r → s ≤ r ∧ r < s + n ∧ p r = true
  | 0, _, _, h => by cases h
  | n + 1, s, r, h => by
    rw [firstAt] at h
    by_cases hp : p s = true
    · rw [if_pos hp] at h
      cases h
      exact ⟨Nat.le_refl _, by omega, hp⟩
    · rw [if_neg hp] at h
      have := firstAt_some h
      exact ⟨by omega, by omega, this.2.2⟩
theorem search2 (t : Array Nat) (s : Nat) (hs : s ≤ t.size) (must : Bool) :
    Gets 20 (Sre.forSearch code2 t 0 s t.size must) fun m => match firstAt (fun i => nl (t.getD i 0)) (t.size - s) s with
      | some r => m.outcome = some .matched ∧ m.start = r ∧ m.handed = end2 t r
      | none => m.outcome = some .failed := by
  rw [search2_eq]
  by_cases h : t.size - s < 1
  · rw [if_pos (by simp [h]), show t.size - s = 0 from by omega, firstAt_zero]
    refine (Gets.step (n := 0) rfl ?_).mono (by omega) fun _ h => h
    exact Gets.now rfl
  · rw [if_neg (by simp; omega)]
    obtain ⟨seen', e⟩ := admitted2 t (fr2 t s must) rfl rfl rfl (t.size - s) s (({} : Seen).add 14) (by omega)
    rw [show t.size + 1 - s = t.size - s + 1 from by omega, e]
    cases hf : firstAt (fun i => nl (t.getD i 0)) (t.size - s) s with
    | none =>
      refine (Gets.step (n := 0) rfl ?_).mono (by omega) fun _ h => h
      exact Gets.now rfl
    | some r =>
      have := firstAt_some hf
      exact st2_run (by omega) this.2.2
end Mine
-- part Sub0
namespace Mine
set_option maxRecDepth 100000
set_option maxHeartbeats 200000
open PySem PySem.Builtin PySem.Builtin.Re PyProof.Rows

theorem slot_pat_sub : Slot "re.Pattern" "sub" "re.Pattern.sub" :=
  .of (owner := "re.Pattern") (n := "sub") (by rw [typeLookup_type, builtinLookup_eq_fast]; kernel_rfl) (by decide +kernel) (by decide +kernel) (by decide +kernel)
    (by first | exact .inl (by decide +kernel) | exact .inr (by decide +kernel)) (by rw [isSubtype_type]; kernel_rfl)
theorem type_pat_sub : typeOf (.builtin "re.Pattern.sub") = pure (.type "method_descriptor") := by show builtinType _ = _; rw [builtinType_eq_fast]; kernel_rfl
theorem entry_pat_sub : entryFor table "re.Pattern.sub" = some Builtin.«re.Pattern.sub» := entryFor_of_fast (by kernel_rfl)
theorem entry_pat_loop : entryFor table "re.Pattern.sub.loop" = some Builtin.«re.Pattern.sub.loop» := entryFor_of_fast (by kernel_rfl)
theorem plain_pat_loop : plainId "re.Pattern.sub.loop" = true := by decide +kernel
theorem args_pat_sub (a b c : Value) : argsOk "re.Pattern.sub" ⟨[a, b, c], []⟩ := by unfold argsOk; kernel_rfl
theorem pat_getattribute : typeLookup (.type "re.Pattern") "__getattribute__" = pure (some (.builtin "object.__getattribute__")) := by rw [typeLookup_type, builtinLookup_eq_fast]; kernel_rfl
theorem pat_getattr_none : typeLookup (.type "re.Pattern") "__getattr__" = pure none := by rw [typeLookup_type, builtinLookup_eq_fast]; kernel_rfl
theorem pat_plain : PlainAttrs "re.Pattern" := ⟨⟨_, pat_getattribute, by decide +kernel⟩, pat_getattr_none⟩
theorem str_call_none : typeLookup (.type "str") "__call__" = pure none := by rw [typeLookup_type, builtinLookup_eq_fast]; kernel_rfl
end Mine
-- part Sub1
namespace Mine
set_option maxRecDepth 100000
set_option maxHeartbeats 200000
open PySem PySem.Builtin PySem.Builtin.Re PyProof.Rows
section
variable {M : Model} {A : Around} {E : Value → Shared → Prop} {s : Shared}
theorem reDrive_runs {Q : Sre.M → Shared → Prop} : ∀ (turns : Nat) (m : Sre.M) (k : Nat), (m.runFor k).outcome.isSome = true → k ≤ 4 * turns → 1 ≤ turns → Q (m.runFor k) s → wpAny M A (reDrive turns m) Q E s
  | 0, _, _, _, _, h1, _ => absurd h1 (by omega)
  | t + 1, m, k, ho, hk, _, hq => by
    rw [reDrive]
    show wpAny M A (if (m.runFor 4).outcome.isSome = true then pure (m.runFor 4) else (rule "sre.turn" >>= fun _ => reDrive t (m.runFor 4))) Q E s
    by_cases h4 : (m.runFor 4).outcome.isSome = true
    · rw [if_pos h4]
      have e : m.runFor 4 = m.runFor k := by
        by_cases hk4 : k ≤ 4
        · have e := runFor_add m k (4 - k)
          rw [show k + (4 - k) = 4 from by omega, runFor_done ho] at e
          exact e
        · have e := runFor_add m 4 (k - 4)
          rw [show 4 + (k - 4) = k from by omega, runFor_done h4] at e
          exact e.symm
      rw [e]
      exact wpAny_pure hq
    · rw [if_neg h4]
      have hk4 : ¬ k ≤ 4 := by
        intro hk4
        have e := runFor_add m k (4 - k)
        rw [show k + (4 - k) = 4 from by omega, runFor_done ho] at e
        rw [e] at h4
        exact h4 ho
      have e := runFor_add m 4 (k - 4)
      rw [show 4 + (k - 4) = k from by omega] at e
      rw [e] at ho hq
      exact wpAny_bind (wpAny_rule (reDrive_runs t _ _ ho (by omega) (by omega) hq))

theorem forIn_quiet {l : List Nat} {f : Nat → PUnit → Sem (ForInStep PUnit)} {Q : PUnit → Shared → Prop}
    (hf : ∀ i {Q' : ForInStep PUnit → Shared → Prop} {E' : Value → Shared → Prop}, Q' (.yield ⟨⟩) s → wpAny M A (f i ⟨⟩) Q' E' s) (h : Q ⟨⟩ s) : wpAny M A (forIn l ⟨⟩ f) Q E s := by
  induction l with
  | nil => exact wpAny_pure h
  | cons i l ih =>
    rw [List.forIn_cons]
    exact wpAny_bind (hf i ih)

theorem reRun_gets {m : Sre.M} {n : Nat} {P : Sre.M → Prop} {Q : Option Sre.M → Shared → Prop} (hg : Gets n m P) (hn : n ≤ 4 * 2 ^ 64) (hs : ∀ m', P m' → m'.outcome.isSome = true)
    (h : ∀ m', P m' → match m'.outcome with | some .matched => Q (some m') s | some .failed => Q none s | _ => False) : wpAny M A (reRunToEnd m) Q E s := by
  obtain ⟨k, hk, hp⟩ := hg
  unfold reRunToEnd
  refine wpAny_bind (reDrive_runs _ m k (hs _ hp) (Nat.le_trans hk hn) (by decide) ?_)
  have h' := h _ hp
  generalize m.runFor k = m' at h'
  refine wpAny_bind (forIn_quiet (fun i {Q' E'} hq => ?_) ?_)
  · show wpAny M A (if m'.seen.has i = true then (rule (Sre.names.getD i "") >>= fun _ => pure (ForInStep.yield PUnit.unit)) else pure (ForInStep.yield PUnit.unit)) Q' E' s
    split
    · exact wpAny_bind (wpAny_rule (wpAny_pure hq))
    · exact wpAny_pure hq
  · cases ho : m'.outcome with
    | none => rw [ho] at h'; exact h'.elim
    | some o =>
      rw [ho] at h'
      cases o with
      | matched => exact wpAny_pure h'
      | failed => exact wpAny_pure h'
      | stuck w => exact h'.elim
end

/-- the object at P is the pattern of that code, without groups, over texts -/
def IsPat (h : Heap) (P : Addr) (code : Array Nat) : Prop :=
  ∃ (fs : Array Value) (T : Addr) (ws : Array Value) (n : Nat), h.get? P = some { cls := .type "re.Pattern", data := .fields fs } ∧ fs.getD 5 .none = .ref T ∧ reRawNat (fs.getD 2 .none) = 0 ∧ reRawNat (fs.getD 6 .none) = 0 ∧
    h.get? T = some { cls := .type "tuple", data := .seq ws n } ∧ (ws.map reRawOf).map (·.toNat) = code
theorem IsPat.keeps {h h' : Heap} {P : Addr} {code : Array Nat} (x : IsPat h P code) (hk : ∀ b o, h.get? b = some o → h'.get? b = some o) : IsPat h' P code := by
  obtain ⟨fs, T, ws, n, h1, h2, h3, h4, h5, h6⟩ := x
  exact ⟨fs, T, ws, n, hk _ _ h1, h2, h3, h4, hk _ _ h5, h6⟩
theorem IsPat.typeIs {s : Shared} {P : Addr} {code : Array Nat} (x : IsPat s.heap P code) : s.TypeIs (.ref P) "re.Pattern" := by
  obtain ⟨fs, T, ws, n, h1, _⟩ := x
  exact ⟨_, h1, rfl⟩

section
variable {prog : Program} {w : World} {A : Around} {E : Value → Shared → Prop} {s : Shared} {P : Addr} {code : Array Nat}
def tgtOf (P : Addr) (x : Str) (t : Tok) (g : Nat) (code : Array Nat) : ReTarget := ⟨.ref P, .str x t, code, x.cps, 0, g, 0, x.cps.size⟩
abbrev tgt (P : Addr) (x : Str) (t : Tok) (code : Array Nat) : ReTarget := tgtOf P x t 0 code
theorem whole_target {x : Str} {t : Tok} {Q : ReTarget → Shared → Prop} (hP : IsPat s.heap P code) (h : Q (tgt P x t code) s) : wpAny (model prog w) A (reWholeTarget (.ref P) (.str x t)) Q E s := by
  obtain ⟨fs, T, ws, n, h1, h2, h3, h4, h5, h6⟩ := hP
  unfold reWholeTarget
  refine wpAny_bind (wpAny_fieldsOf h1 rfl ?_)
  refine wpAny_bind (wpAny_of_eq (a := (x.cps, 0)) rfl ?_)
  dsimp only
  rw [h4]
  show wpAny _ A (reNoCollectionInside (.str x t) 0 >>= fun _ => reRawItems (fs.getD 5 .none) >>= fun a => pure (tgtOf P x t (reRawNat (fs.getD 2 Value.none)) (Array.map (fun x => x.toNat) a))) Q E s
  refine wpAny_bind (wpAny_of_eq (a := ()) rfl ?_)
  rw [h2, h3]
  refine wpAny_bind ?_
  unfold reRawItems
  refine wpAny_bind (wpAny_seqItems h5 rfl (wpAny_pure (wpAny_pure ?_)))
  show Q (tgtOf P x t 0 (Array.map (fun x => x.toNat) (Array.map reRawOf ws))) s
  rw [h6]
  exact h

theorem upd_push {L : Addr} {items : Array Value} {v : Value} {Q : Unit → Shared → Prop} (hl : s.heap.IsList L items)
    (hQ : ∀ h', h'.IsList L (items.push v) → Heap.SameBut L s.heap h' → Q () { s with heap := h' }) (hsz : items.size ≤ sizeLine) :
    wpAny (model prog w) A (updateSeq L (·.push v)) Q E s := by
  obtain ⟨o, ho, hc, n, hd⟩ := id hl
  obtain ⟨n', hd'⟩ := Obj.data_mapSeq hd (·.push v)
  exact wpAny_updateSeq ho hd (hQ _ ⟨_, Heap.get?_update_self _ ho (Obj.isFreed_of_seq hd'), (Obj.cls_mapSeq ..).trans hc, n', hd'⟩ (Heap.SameBut.update ..)) hsz

/-- what a literal sub makes, from place i on -/
structure SubSpec (x : Str) (r : Str) (code : Array Nat) (find : Nat → Option (Nat × Nat)) (res : Nat → List Nat) : Prop where
  runs : ∀ i, i ≤ x.cps.size → ∀ must, Gets (5 * x.cps.size + 20) (Sre.forSearch code x.cps 0 i x.cps.size must) fun m => match find i with
    | some re => m.outcome = some .matched ∧ m.start = re.1 ∧ m.handed = re.2
    | none => m.outcome = some .failed
  none : ∀ i, i ≤ x.cps.size → find i = none → res i = x.cps.toList.drop i
  some : ∀ i a b, i ≤ x.cps.size → find i = some (a, b) → i ≤ a ∧ a < b ∧ b ≤ x.cps.size ∧ res i = (x.cps.toList.drop i).take (a - i) ++ (r.cps.toList ++ res b)

def loopArgs (P L : Addr) (x : Str) (t : Tok) (r : Str) (u : Tok) (n : Int) (i : Nat) : Args :=
  ⟨[.ref P, .str x t, .str r u, rawInt 0, rawInt 0, rawInt n, rawInt i, rawInt i, .bool false, .ref L, .bool false], []⟩

def catS (ys : List Str) : List Nat := ys.flatMap fun y => y.cps.toList

theorem next_found {Q : Option Sre.M → Shared → Prop} {x r : Str} {t : Tok} {find : Nat → Option (Nat × Nat)} {res : Nat → List Nat} (S : SubSpec x r code find res) (hx : x.cps.size ≤ 100000) {i : Nat} (hi : i ≤ x.cps.size)
    (h : match find i with | some re => ∀ m : Sre.M, m.start = re.1 → m.handed = re.2 → Q (some m) s | none => Q none s) : wpAny (model prog w) A (reNextFound (tgt P x t code) i false) Q E s := by
  unfold reNextFound
  refine reRun_gets (S.runs i hi false) (by omega) (fun m' hm => ?_) fun m' hm => ?_
  · cases hf : find i with
    | none => rw [hf] at hm; dsimp only at hm; rw [hm]; rfl
    | some re => rw [hf] at hm; rw [hm.1]; rfl
  · cases hf : find i with
    | none => rw [hf] at hm h; dsimp only at hm; rw [hm]; exact h
    | some re => rw [hf] at hm h; rw [hm.1]; exact h m' hm.2.1 hm.2.2

theorem strsAre_snoc {vs : List Value} {ys : List Str} (h : StrsAre vs ys) (y : Str) (t : Tok) : StrsAre (vs ++ [.str y t]) (ys ++ [y]) := by
  induction h with
  | nil => exact .cons _ _ .nil
  | cons z u _ ih => exact .cons _ _ ih
theorem strsAre_len {vs : List Value} {ys : List Str} (h : StrsAre vs ys) : vs.length = ys.length := by
  induction h with
  | nil => rfl
  | cons z u _ ih => simp [ih]
theorem catS_snoc (ys : List Str) (y : Str) : catS (ys ++ [y]) = catS ys ++ y.cps.toList := by simp [catS]
theorem sum_len_cat (ys : List Str) : (ys.map (·.length)).sum = (catS ys).length := by
  induction ys with
  | nil => rfl
  | cons y ys ih => simp [catS, Str.length] at ih ⊢; try omega
theorem fold_cat (ys : List Str) : ∀ a : Array Nat, (ys.foldl (fun acc (p : Str) => acc ++ (⟨#[]⟩ : Str).cps ++ p.cps) a).toList = a.toList ++ catS ys := by
  induction ys with
  | nil => intro a; simp [catS]
  | cons y ys ih => intro a; rw [List.foldl_cons, ih]; simp [catS]
theorem join_empty (ys : List Str) : (Txt.join ⟨#[]⟩ ys).cps.toList = catS ys := by
  cases ys with
  | nil => rfl
  | cons y ys =>
    show (ys.foldl (fun acc (p : Str) => acc ++ (⟨#[]⟩ : Str).cps ++ p.cps) y.cps).toList = _
    rw [fold_cat]
    simp [catS]

theorem sub_loop {R : Result → Shared → Prop} {x r : Str} {t u : Tok} {L : Addr} {base : Heap} {find : Nat → Option (Nat × Nat)} {res : Nat → List Nat} (S : SubSpec x r code find res) (hx : x.cps.size ≤ 100000) (hr : r.cps.size ≤ 8)
    (hnew : base.get? L = none) (hP : IsPat base P code) : ∀ (fuel i : Nat) (n : Int) (s : Shared) (items : Array Value) (ys : List Str), i + fuel = x.cps.size → s.heap.IsList L items → StrsAre items.toList ys → (∀ b o, base.get? b = some o → s.heap.get? b = some o) →
    items.size ≤ 2 * i → (catS ys).length ≤ 9 * i →
    (∀ h' t' k, (∀ b o, base.get? b = some o → h'.get? b = some o) → R (.ok (.ret (.str ⟨(catS ys ++ res i).toArray⟩ t'))) { s with heap := h', toks := k }) →
    codeAny (model prog w) A (.builtin "re.Pattern.sub.loop" (loopArgs P L x t r u n i)) R s := by
  intro fuel
  induction fuel using Nat.strongRecOn with
  | ind fuel ih =>
  intro i n s items ys hfuel hl hys hk hsz hcat hR
  refine codeAny_builtin entry_pat_loop ?_
  rw [Around.under_plainId plain_pat_loop]
  show wpAny (model prog w) A.in1 (reWholeTarget (.ref P) (.str x t) >>= _) _ _ s
  refine wpAny_bind (whole_target (hP.keeps hk) ?_)
  show wpAny _ _ (reLiteralCannotBeTurned (.str r u) >>= _) _ _ s
  refine wpAny_bind (wpAny_of_eq (a := ()) rfl ?_)
  show wpAny _ _ (reNextFound (tgt P x t code) i false >>= _) _ _ s
  have hL : ∀ b o, base.get? b = some o → b ≠ L := fun b o e h => by rw [h, hnew] at e; cases e
  have hsl : sizeLine = 16777216 := sizeLine_eq
  refine wpAny_bind (next_found S hx (by omega) ?_)
  cases hf : find i with
  | none =>
    have hres := S.none i (by omega) hf
    dsimp only
    -- the last piece
    have tail : ∀ (s₁ : Shared) (items₁ : Array Value) (ys₁ : List Str), s₁.heap.IsList L items₁ → StrsAre items₁.toList ys₁ → (∀ b o, base.get? b = some o → s₁.heap.get? b = some o) → catS ys₁ = catS ys ++ res i →
        (∀ h' t' k, (∀ b o, base.get? b = some o → h'.get? b = some o) → R (.ok (.ret (.str ⟨(catS ys ++ res i).toArray⟩ t'))) { s₁ with heap := h', toks := k }) →
        wpAny (model prog w) A.in1 (reSlice x.cps 0 0 0 >>= fun joiner => seqItems? (.ref L) >>= fun o => if (o.getD #[]).isEmpty = true then ret joiner else (call (.builtin "str.join") [joiner, .ref L] >>= fun text => ret text))
          (fun fin s' => match fin with | .done f => R (.ok f) s' | .again c' => c'.quiet = true ∧ codeAny (model prog w) A c' R s') (fun e s' => R (.error e) s') s₁ := by
      intro s₁ items₁ ys₁ hl₁ hys₁ hk₁ hc₁ hR₁
      obtain ⟨oL, hoL, hcL, nL, hdL⟩ := id hl₁
      refine wpAny_bind (m := reSlice x.cps 0 0 0) (wpAny_mkStr ?_ (by show (x.cps.extract 0 0).size ≤ _; simp))
      refine wpAny_bind (wpAny_seqItems hoL hdL ?_)
      have e0 : (⟨x.cps.extract 0 0⟩ : Str) = ⟨#[]⟩ := by simp
      rw [e0]
      have hlen : items₁.size = ys₁.length := by have := strsAre_len hys₁; simpa using this
      cases he : items₁.isEmpty with
      | true =>
        show wpAny _ _ (if items₁.isEmpty = true then _ else _) _ _ _
        rw [he, if_pos rfl]
        have hz : ys₁ = [] := by
          have : items₁.size = 0 := by simpa using he
          exact List.length_eq_zero_iff.mp (by omega)
        have hcz : (catS ys ++ res i).toArray = #[] := by rw [← hc₁, hz]; rfl
        refine wpAny_pure ?_
        have := hR₁ s₁.heap s₁.toks (s₁.toks + 1) hk₁
        rw [hcz] at this
        exact this
      | false =>
        show wpAny _ _ (if items₁.isEmpty = true then _ else _) _ _ _
        rw [he, if_neg Bool.false_ne_true]
        refine wpAny_bind (join_list (s := { s₁ with toks := s₁.toks + 1 }) hl₁ hys₁ ?_ fun t' k => wpAny_pure ?_)
        · rw [sum_len_cat, hc₁, hres, List.length_append, List.length_drop]
          show _ + ys₁.length * 0 ≤ _
          have : x.cps.toList.length = x.cps.size := by simp
          omega
        · have ej : (Txt.join ⟨#[]⟩ ys₁) = ⟨(catS ys ++ res i).toArray⟩ := by
            have := join_empty ys₁
            rw [hc₁] at this
            generalize Txt.join ⟨#[]⟩ ys₁ = z at this
            obtain ⟨c⟩ := z
            rw [← this]
          rw [ej]
          exact hR₁ s₁.heap t' k hk₁
    show wpAny _ _ (if i < x.cps.size then (reSlice x.cps 0 i x.cps.size >>= fun v => updateSeq L (fun a => a.push v) >>= fun _ => _) else _) _ _ s
    by_cases hlt : i < x.cps.size
    · rw [if_pos hlt]
      have hsz1 : (x.cps.extract i x.cps.size).size ≤ sizeLine := by rw [Array.size_extract]; omega
      refine wpAny_bind (m := reSlice x.cps 0 i x.cps.size) (wpAny_mkStr ?_ hsz1)
      refine wpAny_bind (upd_push (s := { s with toks := s.toks + 1 }) hl (fun h' hl' hs' => ?_) (by omega))
      refine tail { s with heap := h', toks := s.toks + 1 } _ (ys ++ [⟨x.cps.extract i x.cps.size⟩]) hl' ?_ (fun b o e => hs'.extBut b o (hL b o e) (hk b o e)) ?_ hR
      · rw [Array.toList_push]
        exact strsAre_snoc hys _ _
      · rw [catS_snoc, hres]
        congr 1
        rw [Array.toList_extract]
        show (x.cps.toList.drop i).take (x.cps.size - i) = _
        exact List.take_of_length_le (by simp)
    · rw [if_neg hlt]
      have : x.cps.toList.drop i = [] := by rw [List.drop_eq_nil_iff]; simp; omega
      exact tail s items ys hl hys hk (by rw [hres, this, List.append_nil]) hR
  | some re =>
    obtain ⟨a, b⟩ := re
    obtain ⟨h1, h2, h3, h4⟩ := S.some i a b (by omega) hf
    intro m hm1 hm2
    dsimp only at hm1 hm2 ⊢
    have push2 : ∀ (s₁ : Shared) (items₁ : Array Value) (ys₁ : List Str), s₁.heap.IsList L items₁ → StrsAre items₁.toList ys₁ → (∀ b o, base.get? b = some o → s₁.heap.get? b = some o) →
        catS ys₁ ++ (r.cps.toList ++ res b) = catS ys ++ res i → items₁.size + 1 ≤ 2 * b → (catS ys₁).length + 8 ≤ 9 * b →
        (∀ h' t' k, (∀ b o, base.get? b = some o → h'.get? b = some o) → R (.ok (.ret (.str ⟨(catS ys ++ res i).toArray⟩ t'))) { s₁ with heap := h', toks := k }) →
        wpAny (model prog w) A.in1 (updateSeq L (fun x => x.push (.str r u)) >>= fun _ => again (.builtin "re.Pattern.sub.loop" ⟨[.ref P, .str x t, .str r u, rawInt 0, rawInt 0, rawInt (n + 1), rawInt m.handed, rawInt m.handed, .bool (m.handed == m.start), .ref L, .bool false], []⟩))
          (fun fin s' => match fin with | .done f => R (.ok f) s' | .again c' => c'.quiet = true ∧ codeAny (model prog w) A c' R s') (fun e s' => R (.error e) s') s₁ := by
      intro s₁ items₁ ys₁ hl₁ hys₁ hk₁ hc₁ hz₁ hz₂ hR₁
      refine wpAny_bind (upd_push hl₁ (fun h' hl' hs' => wpAny_pure ?_) (by omega))
      refine And.intro (plainId_quiet plain_pat_loop _) ?_
      have hne : (m.handed == m.start) = false := by rw [hm1, hm2]; simp; omega
      rw [hne, hm2]
      refine ih (x.cps.size - b) (by omega) b (n + 1) { s₁ with heap := h' } _ (ys₁ ++ [r]) (by omega) hl' ?_ (fun b o e => hs'.extBut b o (hL b o e) (hk₁ b o e)) ?_ ?_ ?_
      · rw [Array.toList_push]
        exact strsAre_snoc hys₁ _ _
      · rw [Array.size_push]; exact hz₁
      · rw [catS_snoc, List.length_append]
        have : r.cps.toList.length = r.cps.size := by simp
        omega
      · rw [catS_snoc, List.append_assoc, hc₁]
        exact hR₁
    show wpAny _ _ (if i < m.start then (reSlice x.cps 0 i m.start >>= fun v => updateSeq L (fun a => a.push v) >>= fun _ => _) else _) _ _ s
    rw [hm1]
    by_cases hlt : i < a
    · rw [if_pos hlt]
      have hsz1 : (x.cps.extract i a).size ≤ sizeLine := by rw [Array.size_extract]; omega
      refine wpAny_bind (m := reSlice x.cps 0 i a) (wpAny_mkStr ?_ hsz1)
      refine wpAny_bind (upd_push (s := { s with toks := s.toks + 1 }) hl (fun h' hl' hs' => ?_) (by omega))
      have hx1 : (x.cps.extract i a).toList = (x.cps.toList.drop i).take (a - i) := by simp
      have hx2 : ((x.cps.toList.drop i).take (a - i)).length ≤ a - i := by rw [List.length_take]; omega
      rw [← hm1]
      refine push2 { s with heap := h', toks := s.toks + 1 } _ (ys ++ [⟨x.cps.extract i a⟩]) hl' ?_ (fun b o e => hs'.extBut b o (hL b o e) (hk b o e)) ?_ ?_ ?_ hR
      · rw [Array.toList_push]
        exact strsAre_snoc hys _ _
      · rw [catS_snoc, h4, List.append_assoc, hx1]
      · rw [Array.size_push]; omega
      · rw [catS_snoc, List.length_append, hx1]; omega
    · rw [if_neg hlt]
      rw [← hm1]
      have : a - i = 0 := by omega
      refine push2 s items ys hl hys hk ?_ (by omega) (by omega) hR
      rw [h4, this, List.take_zero, List.nil_append]

theorem sub_call {Q : Value → Shared → Prop} {x r : Str} {t u : Tok} {find : Nat → Option (Nat × Nat)} {res : Nat → List Nat} (S : SubSpec x r code find res) (hx : x.cps.size ≤ 100000) (hr : r.cps.size ≤ 8) (hb : r.cps.contains 92 = false)
    (hP : IsPat s.heap P code) (hQ : ∀ h' t' k, (∀ b o, s.heap.get? b = some o → h'.get? b = some o) → Q (.str ⟨(res 0).toArray⟩ t') { s with heap := h', toks := k }) :
    wpAny (model prog w) A (call (.builtin "re.Pattern.sub") [.ref P, .str r u, .str x t]) Q E s := by
  refine wpAny_call (codeAny_call_builtin slot_pat_sub.plain entry_pat_sub (slot_pat_sub.check _ _ _ _ _ _ _ _ hP.typeIs (args_pat_sub _ _ _) ?_))
  unfold Builtin.«re.Pattern.sub» reSubstitute
  have hn : reNamed "re.Pattern.sub" "sub" ["repl", "string", "count"] 2 [.str r u, .str x t] [] = pure [some (.str r u), some (.str x t), none] := rfl
  show wpAny (model prog w) A.in1 (reNamed "re.Pattern.sub" "sub" ["repl", "string", "count"] 2 [.str r u, .str x t] [] >>= _) _ _ s
  rw [hn]
  refine wpAny_bind (wpAny_pure ?_)
  refine wpAny_bind (m := (pure 0 : Sem Int)) (wpAny_pure ?_)
  refine wpAny_bind (wpAny_specialOf_val rfl str_call_none ?_)
  show wpAny (model prog w) A.in1 (asStr? (.str r u) >>= _) _ _ s
  refine wpAny_bind (wpAny_of_eq (a := some r) rfl ?_)
  refine wpAny_bind (m := (pure (!r.cps.contains 92) : Sem Bool)) (wpAny_pure ?_)
  rw [hb]
  refine wpAny_bind (m := (pure (Value.str r u, (0 : Int)) : Sem (Value × Int))) (wpAny_pure ?_)
  refine wpAny_bind (wpAny_holding (whole_target hP ?_))
  show wpAny (model prog w) A.in1 (newList [] >>= _) _ _ s
  have hnew : s.heap.get? s.heap.objs.size = none := by
    cases e : s.heap.get? s.heap.objs.size with
    | none => rfl
    | some o => exact absurd (Heap.lt_size e) (Nat.lt_irrefl _)
  refine wpAny_bind (wpAny_newObj_type (wpAny_pure ?_) (by show ([] : List Value).toArray.size ≤ sizeLine; simp))
  refine And.intro (plainId_quiet plain_pat_loop _) ?_
  refine sub_loop (base := s.heap) S hx hr hnew hP x.cps.size 0 0 { s with heap := s.heap.push { cls := .type "list", data := .seq ([] : List Value).toArray } } #[] [] (by omega) ⟨_, Heap.get?_push_size _ rfl, rfl, _, rfl⟩ .nil
    (fun b o e => Heap.get?_push_of_some _ e) (by simp) (by simp [catS]) ?_
  intro h' t' k hk
  exact hQ h' t' k hk
end
end Mine
-- part Sub2
namespace Mine
set_option maxHeartbeats 200000
open PySem PySem.Builtin PySem.Builtin.Re PyProof.Rows

/-- every end of a line is a return and a feed -/
def norm : List Nat → List Nat
  | [] => []
  | [c] => if nl c then [13, 10] else [c]
  | c :: d :: r => if c = 13 ∧ d = 10 then 13 :: 10 :: norm r else if nl c then 13 :: 10 :: norm (d :: r) else c :: norm (d :: r)
/-- a dot at a line's beginning is doubled -/
def stuff : Bool → List Nat → List Nat
  | _, [] => []
  | b, c :: r => if (b && c == 46) = true then 46 :: 46 :: stuff false r else c :: stuff (c == 10) r

theorem norm_no {c : Nat} {r : List Nat} (h : nl c = false) : norm (c :: r) = c :: norm r := by
  cases r with
  | nil => simp [norm, h]
  | cons d r =>
    rw [norm]
    rw [if_neg (by rintro ⟨rfl, _⟩; cases h), if_neg (by simp [h])]
theorem norm_pair {r : List Nat} : norm (13 :: 10 :: r) = 13 :: 10 :: norm r := by
  rw [norm, if_pos ⟨rfl, rfl⟩]
theorem norm_one {c : Nat} {r : List Nat} (h : nl c = true) (hn : ¬ (c = 13 ∧ r.head? = some 10)) : norm (c :: r) = 13 :: 10 :: norm r := by
  cases r with
  | nil => simp [norm, h]
  | cons d r =>
    rw [norm, if_neg (by rintro ⟨rfl, rfl⟩; exact hn ⟨rfl, rfl⟩), if_pos h]

theorem drop_cons {t : Array Nat} {i : Nat} (h : i < t.size) : t.toList.drop i = t.getD i 0 :: t.toList.drop (i + 1) := by
  have h' : i < t.toList.length := by simpa using h
  rw [List.drop_eq_getElem_cons h']
  congr 1
  simp [Array.getD, h]

def crlf : Str := Str.ofString "\r\n"
def dots2 : Str := Str.ofString ".."
theorem crlf_is : crlf.cps.toList = [13, 10] := by decide +kernel
theorem dots2_is : dots2.cps.toList = [46, 46] := by decide +kernel

theorem end2_gt (t : Array Nat) (i : Nat) : i < end2 t i := by
  unfold end2
  by_cases h : t.getD i 0 = 13 ∧ i + 1 < t.size ∧ t.getD (i + 1) 0 = 10
  · rw [if_pos h]; omega
  · rw [if_neg h]; omega
theorem end2_le {t : Array Nat} {i : Nat} (hi : i < t.size) : end2 t i ≤ t.size := by
  unfold end2
  by_cases h : t.getD i 0 = 13 ∧ i + 1 < t.size ∧ t.getD (i + 1) 0 = 10
  · rw [if_pos h]; omega
  · rw [if_neg h]; omega
def find2 (t : Array Nat) (i : Nat) : Option (Nat × Nat) := (firstAt (fun j => nl (t.getD j 0)) (t.size - i) i).map fun a => (a, end2 t a)
theorem spec2_aux (t : Array Nat) : ∀ (n i : Nat), i + n = t.size →
    match firstAt (fun j => nl (t.getD j 0)) n i with
    | none => norm (t.toList.drop i) = t.toList.drop i
    | some a => i ≤ a ∧ a < end2 t a ∧ end2 t a ≤ t.size ∧ norm (t.toList.drop i) = (t.toList.drop i).take (a - i) ++ ([13, 10] ++ norm (t.toList.drop (end2 t a)))
  | 0, i, h => by
    rw [firstAt]
    have : t.toList.drop i = [] := by rw [List.drop_eq_nil_iff]; simp; omega
    rw [this]
    rfl
  | n + 1, i, h => by
    rw [firstAt]
    have hlt : i < t.size := by omega
    have hd := drop_cons hlt
    cases hn : nl (t.getD i 0) with
    | false =>
      simp only [Bool.false_eq_true, if_false]
      have ih := spec2_aux t n (i + 1) (by omega)
      rw [hd, norm_no hn]
      cases hf : firstAt (fun j => nl (t.getD j 0)) n (i + 1) with
      | none => rw [hf] at ih; dsimp only at ih ⊢; rw [ih]
      | some a =>
        rw [hf] at ih
        dsimp only at ih ⊢
        obtain ⟨h1, h2, h3, h4⟩ := ih
        refine ⟨by omega, h2, h3, ?_⟩
        rw [h4, show a - i = (a - (i + 1)) + 1 from by omega, List.take_succ_cons]
        rfl
    | true =>
      simp only [if_true]
      refine ⟨Nat.le_refl _, end2_gt t i, end2_le hlt, ?_⟩
      · rw [Nat.sub_self, List.take_zero, List.nil_append, hd]
        unfold end2
        by_cases hc : t.getD i 0 = 13 ∧ i + 1 < t.size ∧ t.getD (i + 1) 0 = 10
        · rw [if_pos hc, drop_cons hc.2.1, hc.1, hc.2.2, norm_pair]
          rfl
        · rw [if_neg hc, norm_one hn]
          · rfl
          · rintro ⟨h13, hh⟩
            refine hc ⟨h13, ?_⟩
            by_cases hl : i + 1 < t.size
            · refine ⟨hl, ?_⟩
              rw [drop_cons hl] at hh
              simpa using hh
            · have : t.toList.drop (i + 1) = [] := by rw [List.drop_eq_nil_iff]; simp; omega
              rw [this] at hh
              cases hh
theorem spec2 (x : Str) : SubSpec x crlf code2 (find2 x.cps) fun i => norm (x.cps.toList.drop i) where
  runs := fun i hi must => (search2 x.cps i hi must).mono (by omega) fun m hm => by
    unfold find2
    cases hf : firstAt (fun j => nl (x.cps.getD j 0)) (x.cps.size - i) i with
    | none => rw [hf] at hm; exact hm
    | some a => rw [hf] at hm; exact hm
  none := fun i hi hf => by
    have h := spec2_aux x.cps (x.cps.size - i) i (by omega)
    unfold find2 at hf
    cases hq : firstAt (fun j => nl (x.cps.getD j 0)) (x.cps.size - i) i with
    | none => rw [hq] at h; exact h
    | some a => rw [hq] at hf; cases hf
  some := fun i a b hi hf => by
    have h := spec2_aux x.cps (x.cps.size - i) i (by omega)
    unfold find2 at hf
    cases hq : firstAt (fun j => nl (x.cps.getD j 0)) (x.cps.size - i) i with
    | none => rw [hq] at hf; cases hf
    | some c =>
      rw [hq] at hf h
      cases hf
      dsimp only at h
      rw [crlf_is]
      exact h

def find1 (t : Array Nat) (i : Nat) : Option (Nat × Nat) := (firstAt (hit1 t) (t.size - i) i).map fun a => (a, a + 1)
theorem bol_succ (t : Array Nat) (i : Nat) : bol t (i + 1) = (t.getD i 0 == 10) := rfl
theorem spec1_aux (t : Array Nat) : ∀ (n i : Nat), i + n = t.size →
    match firstAt (hit1 t) n i with
    | none => stuff (bol t i) (t.toList.drop i) = t.toList.drop i
    | some a => i ≤ a ∧ a + 1 ≤ t.size ∧ stuff (bol t i) (t.toList.drop i) = (t.toList.drop i).take (a - i) ++ ([46, 46] ++ stuff (bol t (a + 1)) (t.toList.drop (a + 1)))
  | 0, i, h => by
    rw [firstAt]
    have : t.toList.drop i = [] := by rw [List.drop_eq_nil_iff]; simp; omega
    rw [this]
    rfl
  | n + 1, i, h => by
    rw [firstAt]
    have hlt : i < t.size := by omega
    have hd := drop_cons hlt
    cases hn : hit1 t i with
    | false =>
      simp only [Bool.false_eq_true, if_false]
      have ih := spec1_aux t n (i + 1) (by omega)
      have hs : (bol t i && t.getD i 0 == 46) = false := by
        unfold hit1 at hn
        simpa [hlt] using hn
      rw [hd, stuff, if_neg (by rw [hs]; exact Bool.false_ne_true), ← bol_succ]
      cases hf : firstAt (hit1 t) n (i + 1) with
      | none => rw [hf] at ih; dsimp only at ih ⊢; rw [ih]
      | some a =>
        rw [hf] at ih
        dsimp only at ih ⊢
        obtain ⟨h1, h2, h3⟩ := ih
        refine ⟨by omega, h2, ?_⟩
        rw [h3, show a - i = (a - (i + 1)) + 1 from by omega, List.take_succ_cons]
        rfl
    | true =>
      simp only [if_true]
      have hs : (bol t i && t.getD i 0 == 46) = true := by
        unfold hit1 at hn
        simpa [hlt] using hn
      refine ⟨Nat.le_refl _, by omega, ?_⟩
      rw [Nat.sub_self, List.take_zero, List.nil_append, hd, stuff, if_pos hs, bol_succ]
      have h46 : t.getD i 0 = 46 := by simpa using (Bool.and_eq_true_iff.mp hs).2
      rw [h46]
      rfl
theorem spec1 (x : Str) : SubSpec x dots2 code1 (find1 x.cps) fun i => stuff (bol x.cps i) (x.cps.toList.drop i) where
  runs := fun i hi must => (search1 x.cps i hi must).mono (by omega) fun m hm => by
    unfold find1
    cases hf : firstAt (hit1 x.cps) (x.cps.size - i) i with
    | none => rw [hf] at hm; exact hm
    | some a => rw [hf] at hm; exact hm
  none := fun i hi hf => by
    have h := spec1_aux x.cps (x.cps.size - i) i (by omega)
    unfold find1 at hf
    cases hq : firstAt (hit1 x.cps) (x.cps.size - i) i with
    | none => rw [hq] at h; exact h
    | some a => rw [hq] at hf; cases hf
  some := fun i a b hi hf => by
    have h := spec1_aux x.cps (x.cps.size - i) i (by omega)
    unfold find1 at hf
    cases hq : firstAt (hit1 x.cps) (x.cps.size - i) i with
    | none => rw [hq] at hf; cases hf
    | some c =>
      rw [hq] at hf h
      cases hf
      dsimp only at h
      rw [dots2_is]
      exact ⟨h.1, Nat.lt_succ_self _, h.2.1, h.2.2⟩

def quoteL (l : List Nat) : List Nat := stuff true (norm l)
theorem norm_len : ∀ l : List Nat, (norm l).length ≤ 2 * l.length
  | [] => by simp [norm]
  | [c] => by rw [norm]; split <;> simp
  | c :: d :: r => by
    have h1 := norm_len r
    have h2 := norm_len (d :: r)
    rw [norm]
    simp only [List.length_cons] at h2 ⊢
    split
    · simp only [List.length_cons]; omega
    · split <;> simp only [List.length_cons] <;> omega

section
variable {prog : Program} {w : World} {A : Around} {E : Value → Shared → Prop} {s : Shared} {P : Addr}
theorem sub_two {Q : Value → Shared → Prop} {x : Str} {t u : Tok} (hx : x.cps.size ≤ 100000) (hP : IsPat s.heap P code2)
    (hQ : ∀ h' t' k, (∀ b o, s.heap.get? b = some o → h'.get? b = some o) → Q (.str ⟨(norm x.cps.toList).toArray⟩ t') { s with heap := h', toks := k }) :
    wpAny (model prog w) A (call (.builtin "re.Pattern.sub") [.ref P, .str crlf u, .str x t]) Q E s :=
  sub_call (spec2 x) hx (by decide +kernel) (by decide +kernel) hP hQ
theorem sub_one {Q : Value → Shared → Prop} {x : Str} {t u : Tok} (hx : x.cps.size ≤ 100000) (hP : IsPat s.heap P code1)
    (hQ : ∀ h' t' k, (∀ b o, s.heap.get? b = some o → h'.get? b = some o) → Q (.str ⟨(stuff true x.cps.toList).toArray⟩ t') { s with heap := h', toks := k }) :
    wpAny (model prog w) A (call (.builtin "re.Pattern.sub") [.ref P, .str dots2 u, .str x t]) Q E s :=
  sub_call (spec1 x) hx (by decide +kernel) (by decide +kernel) hP hQ
end
end Mine
-- part Base
namespace Mine
open PySem PySem.W PyProof.Rows
set_option maxRecDepth 100000
set_option maxHeartbeats 8000000
/-- what a call hands on: the frame, a ledger that holds what the ledger held, the value -/
abbrev MRet (h₀ : Heap) (L : Addr) (m : PySem.Str → Option Value) (news : List (Addr × Obj)) (s : Shared) (Q : Value → Shared → Prop) (P : List (Addr × Obj) → Value → Prop) : Prop :=
  ∀ (r : Value) (led : List (Addr × Obj)) (h' : Heap) (tk' : Nat), Fr h₀ L h' m → News h₀ L h' led → (∀ p ∈ news, p ∈ led) → P led r → Q r { s with heap := h', toks := tk' }
abbrev MClaim (w : World) (loose : List PySem.Str) (mean : ExcName → Option Value) (mg mb : PySem.Str → Option Value) (f : Addr) (k : Nat) (news : List (Addr × Obj)) (pre : Prop) (vs : List Value) (P : List (Addr × Obj) → Value → Prop) : Prop :=
  ∀ (dp un : Nat) (gd : Option (List Code)) (cn : PySem.Str) (cs : Scope) (a : Addr) (ccd : Value) (cl : List (PySem.Str × Addr)) (outer : List Env) (A₀ : Around) (base h₀ : Heap) (L : Addr) (m : PySem.Str → Option Value) (s : Shared) (Q E : Value → Shared → Prop),
    Below A₀ base outer h₀ → Fr h₀ L s.heap m → (hd.heap_39 w.params).In h₀ → News h₀ L s.heap news → Top hd.view_39 loose mean mg mb h₀ → cs.kind = .function →
    pre → dp + k < recursionLimit → un + 50 * k < cLine → MRet h₀ L m news s Q P →
      wpAny (model PySem.Challenge.pw_tx0001_01 w) (ktrTop dp un gd cn cs L a ccd cl outer) (call (.ref f) vs) Q E s
theorem MClaim.use {w : World} {loose : List PySem.Str} {mean : ExcName → Option Value} {mg mb : PySem.Str → Option Value} {f : Addr} {k : Nat} {news : List (Addr × Obj)} {pre : Prop} {vs : List Value} {P : List (Addr × Obj) → Value → Prop}
    {dp un : Nat} {gd : Option (List Code)} {cn : PySem.Str} {cs : Scope} {a : Addr} {ccd : Value} {cl : List (PySem.Str × Addr)} {outer : List Env} {A₀ : Around} {base h₀ : Heap} {L : Addr} {m : PySem.Str → Option Value} {s : Shared} {Q E : Value → Shared → Prop}
    (C : MClaim w loose mean mg mb f k news pre vs P) (B : Below A₀ base outer h₀) (F : Fr h₀ L s.heap m) (X : (hd.heap_39 w.params).In h₀) (N : News h₀ L s.heap news) (T : Top hd.view_39 loose mean mg mb h₀) (hk : cs.kind = .function)
    (hp : pre) (hd : dp + k < recursionLimit) (hu : un + 50 * k < cLine) (ret : MRet h₀ L m news s Q P) :
    wpAny (model PySem.Challenge.pw_tx0001_01 w) (ktrTop dp un gd cn cs L a ccd cl outer) (call (.ref f) vs) Q E s :=
  C dp un gd cn cs a ccd cl outer A₀ base h₀ L m s Q E B F X N T hk hp hd hu ret
theorem fill : (PySem.Challenge.rw_tx0001_01.writes = false ∧ ∀ P, hd.heap_39 P = hd.heap_39 P) := by
  w_top off
  k_with_none
  k_fill
  exact ⟨rfl, fun _ => rfl⟩
theorem pat36 {P : Params} {h : Heap} (X : (hd.heap_39 P).In h) : IsPat h 36 code1 :=
  ⟨_, 35, _, _, X 36 _ (by k_is), rfl, rfl, rfl, X 35 _ (by k_is), by decide +kernel⟩
theorem pat41 {P : Params} {h : Heap} (X : (hd.heap_39 P).In h) : IsPat h 41 code2 :=
  ⟨_, 40, _, _, X 41 _ (by k_is), rfl, rfl, rfl, X 40 _ (by k_is), by decide +kernel⟩
theorem obj36 {P : Params} {h : Heap} (X : (hd.heap_39 P).In h) : ∃ o, h.get? 36 = some o ∧ o.dict = none := ⟨_, X 36 _ (by k_is), rfl⟩
theorem obj41 {P : Params} {h : Heap} (X : (hd.heap_39 P).In h) : ∃ o, h.get? 41 = some o ∧ o.dict = none := ⟨_, X 41 _ (by k_is), rfl⟩
section
variable {prog : Program} {w : World} {A : Around} {E : Value → Shared → Prop} {s : Shared} {P : Params} {h₀ : Heap} {L : Addr} {m : PySem.Str → Option Value} {news : List (Addr × Obj)}
theorem get36 {pl : Sem Bool} {Q : Value × List Value → Shared → Prop} (F : Fr h₀ L s.heap m) (X : (hd.heap_39 P).In h₀) (h : Q (.builtin "re.Pattern.sub", [.ref 36]) s) : wpAny (model prog w) A (getMethod (.ref 36) "sub" pl) Q E s :=
  getMethod_builtin (T := "re.Pattern") (id := "re.Pattern.sub") ((pat36 X).keeps F.keep).typeIs pat_plain slot_pat_sub type_pat_sub (fun a e => by cases e; obtain ⟨o, h1, h2⟩ := obj36 X; exact ⟨o, F.keep _ _ h1, h2⟩) h
theorem get41 {pl : Sem Bool} {Q : Value × List Value → Shared → Prop} (F : Fr h₀ L s.heap m) (X : (hd.heap_39 P).In h₀) (h : Q (.builtin "re.Pattern.sub", [.ref 41]) s) : wpAny (model prog w) A (getMethod (.ref 41) "sub" pl) Q E s :=
  getMethod_builtin (T := "re.Pattern") (id := "re.Pattern.sub") ((pat41 X).keeps F.keep).typeIs pat_plain slot_pat_sub type_pat_sub (fun a e => by cases e; obtain ⟨o, h1, h2⟩ := obj41 X; exact ⟨o, F.keep _ _ h1, h2⟩) h
theorem fr_kept {h h' : Heap} (F : Fr h₀ L h m) (hk : ∀ b o, h.get? b = some o → h'.get? b = some o) : Fr h₀ L h' m := by
  obtain ⟨⟨o, es, ep, ho, r⟩, k, a⟩ := F
  exact ⟨⟨o, es, ep, hk _ _ ho, r⟩, fun b o e => hk b o (k b o e), a⟩
theorem news_kept {h h' : Heap} (N : News h₀ L h news) (hk : ∀ b o, h.get? b = some o → h'.get? b = some o) : News h₀ L h' news :=
  fun p hp => ⟨hk _ _ (N p hp).1, (N p hp).2⟩
theorem call36 {Q : Value → Shared → Prop} {x : PySem.Str} {t u : Tok} (F : Fr h₀ L s.heap m) (X : (hd.heap_39 P).In h₀) (N : News h₀ L s.heap news) (hx : x.cps.size ≤ 100000)
    (hQ : ∀ t' h' k, Fr h₀ L h' m → News h₀ L h' news → Q (.str ⟨(stuff true x.cps.toList).toArray⟩ t') { s with heap := h', toks := k }) :
    wpAny (model prog w) A (call (.builtin "re.Pattern.sub") [.ref 36, .str (PySem.Str.ofString "..") u, .str x t]) Q E s :=
  sub_one hx ((pat36 X).keeps F.keep) fun h' t' k hk => hQ t' h' k (fr_kept F hk) (news_kept N hk)
theorem call41 {Q : Value → Shared → Prop} {x : PySem.Str} {t u : Tok} (F : Fr h₀ L s.heap m) (X : (hd.heap_39 P).In h₀) (N : News h₀ L s.heap news) (hx : x.cps.size ≤ 100000)
    (hQ : ∀ t' h' k, Fr h₀ L h' m → News h₀ L h' news → Q (.str ⟨(norm x.cps.toList).toArray⟩ t') { s with heap := h', toks := k }) :
    wpAny (model prog w) A (call (.builtin "re.Pattern.sub") [.ref 41, .str (PySem.Str.ofString "\r\n") u, .str x t]) Q E s :=
  sub_two hx ((pat41 X).keeps F.keep) fun h' t' k hk => hQ t' h' k (fr_kept F hk) (news_kept N hk)
end
end Mine
-- part Quote
namespace Mine
open PySem PySem.W PyProof.Rows
set_option maxRecDepth 100000
set_option maxHeartbeats 8000000
theorem fillQ : (PySem.Challenge.rw_tx0001_01.writes = false ∧ ∀ P, hd.heap_39 P = hd.heap_39 P) := by
  w_top off
  k_with_none
  k_fill
  exact ⟨rfl, fun _ => rfl⟩
local macro_rules | `(tactic| walk_at "getMethod ref") => `(tactic| (k_here; (first | (with_reducible show wpAny _ _ (getMethod (Value.ref 36) _ _) _ _ _) | (with_reducible show wpAny _ _ (getMethod (Value.ref 41) _ _) _ _ _)); first | refine get36 (by k_asm) (by k_asm) ?_ | refine get41 (by k_asm) (by k_asm) ?_))
local macro_rules | `(tactic| walk_at "call builtin:re.Pattern.sub") => `(tactic| (k_here; first | (refine' call41 ?k1 ?k2 ?k3 ?k4 ?_; (case k1 => k_asm); (case k2 => k_asm); (case k3 => k_asm); (case k4 => first | assumption | (show _ ≤ 100000; (try simp only [List.size_toArray]); omega)); intro t' h' k' F' N') | (refine' call36 ?k1 ?k2 ?k3 ?k4 ?_; (case k1 => k_asm); (case k2 => k_asm); (case k3 => k_asm); (case k4 => first | assumption | (show _ ≤ 100000; (try simp only [List.size_toArray]); omega)); intro t' h' k' F' N')))
theorem quote_c (w : World) (loose1 : List PySem.Str) (mean : ExcName → Option Value) (mg mb : PySem.Str → Option Value) (x : PySem.Str) (t : Tok) (news : List (Addr × Obj)) :
  MClaim w loose1 mean mg mb 48 4 news (x.cps.size ≤ 40000) [.str x t] (fun led r => led = news ∧ ∃ t', r = .str ⟨(quoteL x.cps.toList).toArray⟩ t') := by
  intro dp un gd cn cs a ccd cl outer A₀ base h₀ L m s Q E B F X N T hk hn hd hu hret
  refine wpAny_call ?_
  k_dflt cell_enter
  have hx1 : x.cps.size ≤ 100000 := by omega
  have hx2 : (norm x.cps.toList).toArray.size ≤ 100000 := by
    have := norm_len x.cps.toList
    simp only [List.size_toArray, Array.length_toList] at this ⊢
    omega
  k_steps
  exact hret _ news _ _ (by k_asm) (by k_asm) (fun _ h9 => h9) ⟨rfl, _, rfl⟩
end Mine
-- part Ap
namespace Mine
open PySem PySem.W PyProof.Rows
set_option maxRecDepth 100000
set_option maxHeartbeats 8000000
theorem fillA : (PySem.Challenge.rw_tx0001_01.writes = false ∧ ∀ P, hd.heap_39 P = hd.heap_39 P) := by
  w_top off
  k_with_none
  k_fill
  exact ⟨rfl, fun _ => rfl⟩
/-- the letters of a number, to the base 16, A for nought -/
def hexI (n : Nat) : List Int := if h : n = 0 then [] else hexI (n / 16) ++ [65 + ((n % 16 : Nat) : Int)]
termination_by n
decreasing_by omega
theorem hexI_zero : hexI 0 = [] := by rw [hexI]; rfl
theorem hexI_pos {n : Nat} (h : n ≠ 0) : hexI n = hexI (n / 16) ++ [65 + ((n % 16 : Nat) : Int)] := by rw [hexI, dif_neg h]
theorem hexI_len : ∀ (k n : Nat), n < 16 ^ k → (hexI n).length ≤ k
  | 0, n, h => by
    have : n = 0 := by simpa using h
    rw [this, hexI_zero]
    simp
  | k + 1, n, h => by
    by_cases h0 : n = 0
    · rw [h0, hexI_zero]; simp
    · rw [hexI_pos h0]
      have := hexI_len k (n / 16) (by rw [Nat.pow_succ] at h; omega)
      simp
      omega
theorem ap_pick : ∀ m : Fin 16, KBw.bInts (KBy.picked #[65, 66, 67, 68, 69, 70, 71, 72, 73, 74, 75, 76, 77, 78, 79, 80] (some ((m.val : Nat) : Int)) (some (((m.val : Nat) : Int) + 1))) = [65 + ((m.val : Nat) : Int)] := by decide +kernel
theorem bInts_app (a b : Array UInt8) : KBw.bInts (a ++ b) = KBw.bInts a ++ KBw.bInts b := by simp [KBw.bInts]
theorem apW_start {n : Int} (h1 : -32768 ≤ n ∧ n ≤ 32768) : (0 ≤ if n < 0 then -n else n) ∧ (if n < 0 then -n else n) ≤ 32768 ∧ hexI n.natAbs = hexI (if n < 0 then -n else n).toNat ++ KBw.bInts #[] ∧ KBw.bInts #[] = KBw.bInts #[] ∧ (KBw.bInts #[]).length ≤ 8 := by
  refine ⟨by split <;> omega, by split <;> omega, ?_, rfl, by decide⟩
  have e : (if n < 0 then -n else n).toNat = n.natAbs := by split <;> omega
  rw [e]
  show _ = _ ++ []
  rw [List.append_nil]
theorem apW_turn {n num : Int} {val : Array UInt8} (hn : -32768 ≤ n ∧ n ≤ 32768) (h0 : 0 ≤ num) (h1 : num ≤ 32768) (hne : num ≠ 0) (he : hexI n.natAbs = hexI num.toNat ++ KBw.bInts val) :
    0 ≤ num.fdiv 16 ∧ num.fdiv 16 ≤ 32768 ∧ hexI n.natAbs = hexI (num.fdiv 16).toNat ++ KBw.bInts (KBy.picked #[65, 66, 67, 68, 69, 70, 71, 72, 73, 74, 75, 76, 77, 78, 79, 80] (some (num.fmod 16)) (some (num.fmod 16 + 1)) ++ val) ∧ True ∧
      (KBw.bInts (KBy.picked #[65, 66, 67, 68, 69, 70, 71, 72, 73, 74, 75, 76, 77, 78, 79, 80] (some (num.fmod 16)) (some (num.fmod 16 + 1)) ++ val)).length ≤ 8 := by
  obtain ⟨k, rfl⟩ := Int.eq_ofNat_of_zero_le h0
  have hk : k ≠ 0 := by intro e; exact hne (by rw [e]; rfl)
  have e1 : Int.fdiv (k : Int) 16 = ((k / 16 : Nat) : Int) := by rw [Int.fdiv_eq_ediv_of_nonneg _ (by decide)]; rfl
  have e2 : Int.fmod (k : Int) 16 = ((k % 16 : Nat) : Int) := by rw [Int.fmod_eq_emod_of_nonneg _ (by decide)]; rfl
  have hp := ap_pick ⟨k % 16, Nat.mod_lt _ (by decide)⟩
  dsimp only at hp
  have key : hexI n.natAbs = hexI (Int.fdiv (k : Int) 16).toNat ++ KBw.bInts (KBy.picked #[65, 66, 67, 68, 69, 70, 71, 72, 73, 74, 75, 76, 77, 78, 79, 80] (some (Int.fmod (k : Int) 16)) (some (Int.fmod (k : Int) 16 + 1)) ++ val) := by
    rw [he, e1, e2, bInts_app, hp]
    show hexI k ++ _ = hexI (k / 16) ++ _
    rw [hexI_pos hk, List.append_assoc]
  refine ⟨by omega, by omega, key, trivial, ?_⟩
  have hl := hexI_len 4 n.natAbs (by omega)
  rw [key, List.length_append] at hl
  omega
theorem ap_meas {num : Int} (h0 : 0 ≤ num) (hne : num ≠ 0) : (num.fdiv 16).toNat < num.toNat := by
  rw [Int.fdiv_eq_ediv_of_nonneg _ (by decide)]
  omega
theorem ap_end {n num : Int} {val : Array UInt8} (h0 : num = 0) (he : hexI n.natAbs = hexI num.toNat ++ KBw.bInts val) : KBw.bInts val = hexI n.natAbs := by
  rw [he, h0]
  show _ = hexI 0 ++ _
  rw [hexI_zero]
  rfl
theorem ap_c (w : World) (loose1 : List PySem.Str) (mean : ExcName → Option Value) (mg mb : PySem.Str → Option Value) (n : Int) (t : Tok) (news : List (Addr × Obj)) :
  MClaim w loose1 mean mg mb 62 4 news (-32768 ≤ n ∧ n ≤ 32768) [.int n t] (fun led r => led = news ∧ ∃ b t', r = .bytes b t' ∧ KBw.bInts b = hexI n.natAbs) := by
  intro dp un gd cn cs a ccd cl outer A₀ base h₀ L m s Q E B F X N T hk hn hd hu hret
  have hAP : KBw.bInts #[65, 66, 67, 68, 69, 70, 71, 72, 73, 74, 75, 76, 77, 78, 79, 80] = [65, 66, 67, 68, 69, 70, 71, 72, 73, 74, 75, 76, 77, 78, 79, 80] := rfl
  k_with "exec While Name cons nil" => k_while (fun _ num val => 0 ≤ num ∧ num ≤ 32768 ∧ hexI n.natAbs = hexI num.toNat ++ KBw.bInts val ∧ KBw.bInts val = KBw.bInts val ∧ (KBw.bInts val).length ≤ 8) (fun _ num val => num.toNat) "num" "val"
  k_with "state" => (first | exact apW_start (by assumption) | exact apW_turn (by assumption) (by assumption) (by assumption) (by assumption) (by assumption))
  k_with "measure" => exact ap_meas (by assumption) (by assumption)
  refine wpAny_call ?_
  k_dflt cell_enter
  k_steps
  exact hret _ news _ _ (by k_asm) (by k_asm) (fun _ h9 => h9) ⟨rfl, _, _, rfl, ap_end (by assumption) (by assumption)⟩
end Mine
-- part Comps
namespace Mine
open PySem PySem.W PyProof.Rows
set_option maxRecDepth 100000
set_option maxHeartbeats 8000000
section
variable {prog : Program} {w : World} {A : Around} {E : Value → Shared → Prop} {s : Shared} {h₀ : Heap} {L a : Addr} {m mg mb : PySem.Str → Option Value} {cn : PySem.Str} {cs : Scope} {ccd : Value}

/-- one built-in called on the loop's own name, within a comprehension's block -/
theorem elt_call1 {x bn : PySem.Str} {id : String} {p1 p2 p3 : Pos} {scope : Scope} {C : Addr} {v : Value} {m₃ : PySem.Str → Option Value} {Q : Value → Shared → Prop} (hg : s.heap.Ns mainGlobals mg) (hb : s.heap.Ns builtinsNs mb) (hn : s.heap.Ns C m₃) (hmiss : mg bn = none) (hbn : mb bn = some (.builtin id)) (hx : m₃ x = some v)
    (hk : scope.kind = .function) (k1 : (compEnv scope C (envOf cn cs L a ccd)).kindOf bn = some .globalImplicit) (k2 : (compEnv scope C (envOf cn cs L a ccd)).kindOf x = some .local) (d1 : (bn == ("__debug__" : PySem.Str)) = false) (d2 : (x == ("__debug__" : PySem.Str)) = false)
    (h : wpAny (model prog w) A (call (.builtin id) [v]) Q E s) : wpAny (model prog w) A (eval (.Call (.Name bn p1) [.Name x p2] [] p3) (compEnv scope C (envOf cn cs L a ccd))) Q E s := by
  refine Call_ ?_
  refine Calls.Name_function_global hk k1 (Calls.loadGlobal_builtin (env := compEnv scope C (envOf cn cs L a ccd)) hg hmiss hb hbn ?_) d1
  refine callWith_method1 (args_cons ?_)
  refine wpAny_Name (wpAny_loadName_local hk k2 hn hx ?_) d2
  exact args_nil h

/-- what a comprehension asks of the iterator at hand -/
def CompIter (prog : Program) (w : World) (A : Around) (h₀ : Heap) (L : Addr) (m : PySem.Str → Option Value) (id : String) (F : Value → Value → Prop) (Q : Value → Shared → Prop) (it : Value) (s₂ : Shared) : Prop :=
  ∃ I fp wr n P St news, it = .ref I ∧ Walks prog w A I fp wr n P St ∧ n ≤ sizeLine ∧ St 0 s₂.heap ∧ (∀ b ∈ fp, b < s₂.heap.objs.size) ∧ Fr h₀ L s₂.heap m ∧ News h₀ L s₂.heap news ∧
    (∀ b ∈ wr, h₀.get? b = none ∧ b ≠ L ∧ ∀ p ∈ news, p.1 ≠ b) ∧
    (∀ i v s₃ E' (Q' : Value → Shared → Prop), P i v → (∀ y k, F v y → Q' y { s₃ with toks := k }) → wpAny (model prog w) A (call (.builtin id) [v]) Q' E' s₃) ∧
    (∀ D h' tk ys c (vs : List Value), Fr h₀ L h' m → News h₀ L h' ((D, listOf ys c) :: news) → vs.length = n → (∀ j v, vs[j]? = some v → P j v) → Paired F vs ys.toList → Q (.ref D) { s₂ with heap := h', toks := tk })

theorem comp_call {x bn : PySem.Str} {id : String} {iter : Expr} {p1 p2 p3 px pos : Pos} {scope : Scope} {Q : Value → Shared → Prop} (F : Value → Value → Prop) (_hF : Fr h₀ L s.heap m) (hg : h₀.Ns mainGlobals mg) (hb : h₀.Ns builtinsNs mb) (hmiss : mg bn = none) (hbn : mb bn = some (.builtin id))
    (hfree : ∀ y ∈ scope.names, y.2 ≠ .free) (hcell : ∀ y ∈ scope.names, y.2 ≠ .cell) (hk : scope.kind = .function) (hnames : ∀ y ∈ scope.names, y.2 = .local → scope.names.lookup y.1 = some .local) (hx : scope.names.lookup x = some .local)
    (k1 : ∀ C, (compEnv scope C (envOf cn cs L a ccd)).kindOf bn = some .globalImplicit) (k2 : ∀ C, (compEnv scope C (envOf cn cs L a ccd)).kindOf x = some .local) (d1 : (bn == ("__debug__" : PySem.Str)) = false) (d2 : (x == ("__debug__" : PySem.Str)) = false)
    (h : wpAny (model prog w) A (eval iter (envOf cn cs L a ccd)) (fun xv s₁ => wpAny (model prog w) A (pyIter xv) (CompIter prog w A h₀ L m id F Q) E s₁) E s)
    (hs : ∀ x, foldedSetIterable iter (envOf cn cs L a ccd) x = pure x := by intro _; rfl) :
    wpAny (model prog w) A (eval (.ListComp (.Call (.Name bn p1) [.Name x p2] [] p3) [⟨.Name x px, iter, [], 0⟩] scope pos) (envOf cn cs L a ccd)) Q E s := by
  refine wpAny_ListComp_walk (fun _ => true) F hfree hcell hk hnames hx (wpAny_mono h (fun xv s₁ h₁ => wpAny_mono h₁ (fun it s₂ h₂ => ?_) fun _ _ e => e) fun _ _ e => e) hs
  obtain ⟨I, fp, wr, n, P, St, news, rfl, W, hsz, hst, hfp, hF, hN, hw, hcall, hQ⟩ := h₂
  refine ⟨I, fp, wr, n, P, St, rfl, W, hsz, hst, hfp, ⟨fun C i v s₃ m₃ E' hP hn hm hkk htk => ?_, fun C i v s₃ m₃ E' hP _ hn hm hkk htk => ?_⟩, ?_⟩
  · exact wpAny_pure ⟨rfl, s₃.heap, s₃.toks, rfl, fun _ _ e => e⟩
  · have up : ∀ b o, h₀.get? b = some o → s₃.heap.get? b = some o := fun b o e => hkk b o (fun hm => by rw [(hw b hm).1] at e; cases e) (hF.keep b o e)
    refine elt_call1 (hg.keeps up) (hb.keeps up) hn hmiss hbn hm hk (k1 C) (k2 C) d1 d2 ?_
    exact hcall i v s₃ E' _ hP fun y k hy => ⟨hy, s₃.heap, k, rfl, fun _ _ e => e⟩
  · intro D h' tk ys vs hD hl hpl hlen hP hp hkk
    obtain ⟨c, hc⟩ := hpl
    have hfilter : vs.filter (fun _ => true) = vs := by simp
    rw [hfilter] at hp
    have hDL : D ≠ L := by
      rintro rfl
      obtain ⟨o, _, _, ho, _⟩ := hF.ns
      rw [hD] at ho
      cases ho
    refine hQ D h' tk ys c vs ?_ ?_ hlen hP hp
    · exact ⟨hF.ns.at' fun o e => hkk L o (fun hm => (hw L hm).2.1 rfl) e, fun b o e => hkk b o (fun hm => by rw [(hw b hm).1] at e; cases e) (hF.keep b o e), hF.above⟩
    · intro p hp
      rcases List.mem_cons.mp hp with rfl | hp
      · refine ⟨hc, hDL, ?_⟩
        cases e : h₀.get? D with
        | none => rfl
        | some o => have := hF.keep D o e; rw [hD] at this; cases this
      · exact ⟨hkk p.1 p.2 (fun hm => (hw _ hm).2.2 p hp rfl) (hN p hp).1, (hN p hp).2⟩

theorem walk_push {o : Obj} {news : List (Addr × Obj)} (hF : Fr h₀ L s.heap m) (hN : News h₀ L s.heap news) : Fr h₀ L (s.heap.push o) m ∧ News h₀ L (s.heap.push o) news ∧ ∀ b ∈ [s.heap.objs.size], h₀.get? b = none ∧ b ≠ L ∧ ∀ p ∈ news, p.1 ≠ b := by
  refine ⟨hF.push o, fun p hp => ⟨Heap.get?_push_of_some _ (hN p hp).1, (hN p hp).2⟩, fun b hb => ?_⟩
  rw [List.mem_singleton.mp hb]
  refine ⟨next_is_new hF, Nat.ne_of_gt hF.ns.lt, fun p hp => Nat.ne_of_lt (Heap.lt_size (hN p hp).1)⟩

theorem paired_strs {cs : List Int} {g : Int → PySem.Str} : ∀ {vs ys : List Value} {ks : List Int}, Paired (fun v y => ∃ c u t', v = .int c u ∧ y = .str (g c) t') vs ys → (∀ (j : Nat) (v : Value), vs[j]? = some v → ∃ c u, ks[j]? = some c ∧ v = .int c u) → vs.length = ks.length → StrsAre ys (ks.map g)
  | _, _, ks, .nil, _, hl => by
    have : ks = [] := List.length_eq_zero_iff.mp hl.symm
    rw [this]
    exact .nil
  | _, _, ks, .cons h r, hv, hl => by
    obtain ⟨c, u, t', rfl, rfl⟩ := h
    obtain ⟨c', u', hc', e⟩ := hv 0 _ rfl
    cases ks with
    | nil => cases hc'
    | cons k ks =>
      cases hc'
      cases e
      exact .cons _ _ (paired_strs (cs := cs) r (fun j v hj => by have := hv (j + 1) v (by simpa using hj); simpa using this) (by simpa using hl))
theorem paired_ints : ∀ {vs ys : List Value} {ks : List Nat}, Paired (fun v y => ∃ c u t', v = Value.str ⟨#[c]⟩ u ∧ y = .int ((c : Nat) : Int) t') vs ys → (∀ (j : Nat) (v : Value), vs[j]? = some v → ∃ c u, ks[j]? = some c ∧ v = .str ⟨#[c]⟩ u) → vs.length = ks.length → IntsAre ys (ks.map fun c => ((c : Nat) : Int))
  | _, _, ks, .nil, _, hl => by
    have : ks = [] := List.length_eq_zero_iff.mp hl.symm
    rw [this]
    exact .nil
  | _, _, ks, .cons h r, hv, hl => by
    obtain ⟨c, u, t', rfl, rfl⟩ := h
    obtain ⟨c', u', hc', e⟩ := hv 0 _ rfl
    cases ks with
    | nil => cases hc'
    | cons k ks =>
      cases hc'
      cases e
      exact .cons _ _ (paired_ints r (fun j v hj => by have := hv (j + 1) v (by simpa using hj); simpa using this) (by simpa using hl))

theorem iter_bytes_chr {b : Array UInt8} {t : Tok} {news : List (Addr × Obj)} {Q : Value → Shared → Prop} (hh : A.handled = none) (hF : Fr h₀ L s.heap m) (hN : News h₀ L s.heap news) (hsz : b.size ≤ sizeLine)
    (hQ : ∀ D h' tk ys c, Fr h₀ L h' m → News h₀ L h' ((D, listOf ys c) :: news) → StrsAre ys.toList ((KBw.bInts b).map fun k => ⟨#[k.toNat]⟩) → Q (.ref D) { s with heap := h', toks := tk }) :
    wpAny (model prog w) A (pyIter (.bytes b t)) (CompIter prog w A h₀ L m "chr" (fun v y => ∃ c u t', v = .int c u ∧ y = .str ⟨#[c.toNat]⟩ t') Q) E s := by
  refine KBw.pyIter_bytes ?_
  obtain ⟨h1, h2, h3⟩ := walk_push (o := { cls := .type "bytes_iterator", data := .fields #[.bytes b t, .int 0 0] }) hF hN
  refine ⟨_, _, _, _, _, _, news, rfl, KBw.walks hh s.heap.objs.size b t, hsz, ⟨_, Heap.get?_push_size _ rfl, rfl, rfl⟩, fun b' hb' => ?_, h1, h2, h3, ?_, ?_⟩
  · rw [List.mem_singleton.mp hb']
    show _ < (s.heap.push _).objs.size
    rw [Heap.size_push]
    exact Nat.lt_succ_self _
  · rintro i v s₃ E' Q' ⟨c, u, hc, rfl⟩ hq
    have := c.toNat_lt
    exact chr_of_range (by omega) (by omega) (hq _ _ ⟨_, _, _, rfl, rfl⟩)
  · intro D h' tk ys c vs hF' hN' hlen hP hp
    refine hQ D h' tk ys c hF' hN' (paired_strs (cs := []) hp (fun j v hj => ?_) (by rw [KBw.ints_length]; exact hlen))
    obtain ⟨c, u, hc, rfl⟩ := hP j v hj
    exact ⟨_, u, KBw.ints_get hc, rfl⟩
theorem iter_str_ord {x : PySem.Str} {t : Tok} {news : List (Addr × Obj)} {Q : Value → Shared → Prop} (hh : A.handled = none) (hF : Fr h₀ L s.heap m) (hN : News h₀ L s.heap news) (hsz : x.cps.size ≤ sizeLine)
    (hQ : ∀ D h' tk ys c, Fr h₀ L h' m → News h₀ L h' ((D, listOf ys c) :: news) → IntsAre ys.toList (x.cps.toList.map fun c => ((c : Nat) : Int)) → Q (.ref D) { s with heap := h', toks := tk }) :
    wpAny (model prog w) A (pyIter (.str x t)) (CompIter prog w A h₀ L m "ord" (fun v y => ∃ c u t', v = Value.str ⟨#[c]⟩ u ∧ y = .int ((c : Nat) : Int) t') Q) E s := by
  refine wpAny_pyIter_str fun o St W hst => ?_
  obtain ⟨h1, h2, h3⟩ := walk_push (o := o) hF hN
  refine ⟨_, _, _, _, _, _, news, rfl, W A hh, hsz, hst, fun b' hb' => ?_, h1, h2, h3, ?_, ?_⟩
  · rw [List.mem_singleton.mp hb']
    show _ < (s.heap.push _).objs.size
    rw [Heap.size_push]
    exact Nat.lt_succ_self _
  · rintro i v s₃ E' Q' ⟨c, u, hc, rfl⟩ hq
    exact P.ord_of_char (hq _ _ ⟨_, _, _, rfl, rfl⟩)
  · intro D h' tk ys c vs hF' hN' hlen hP hp
    refine hQ D h' tk ys c hF' hN' (paired_ints hp (fun j v hj => ?_) (by simpa using hlen))
    obtain ⟨c, u, hc, rfl⟩ := hP j v hj
    exact ⟨_, u, by simpa using hc, rfl⟩
end
end Mine
-- part Row
namespace Mine
open PySem PySem.W PyProof.Rows
set_option maxRecDepth 100000
set_option maxHeartbeats 8000000
theorem fillR : (PySem.Challenge.rw_tx0001_01.writes = false ∧ ∀ P, hd.heap_39 P = hd.heap_39 P) := by
  w_top off
  k_with_none
  k_fill
  exact ⟨rfl, fun _ => rfl⟩
def three (k : Int) (a b c : PySem.Str) : PySem.Str := if k = 0 then a else if k = 1 then b else c
theorem item_three {prog : Program} {w : World} {A : Around} {E : Value → Shared → Prop} {s : Shared} {h₀ : Heap} {L : Addr} {news : List (Addr × Obj)} {value slice : PySem.Expr} {D : Addr} {a b c : PySem.Str} {ta tb tc : Tok} {n : Nat} {k : Int} {u : Tok} {Q : Value → Shared → Prop}
    (N : News h₀ L s.heap news) (hm : (D, ({ cls := .type "tuple", data := .seq #[.str a ta, .str b tb, .str c tc] n } : Obj)) ∈ news) (h0 : 0 ≤ k) (h3 : k < 3) (h : ∀ t', Q (.str (three k a b c) t') s)
    (hs : subscripted slice false (.ref D) (.int k u) = operate [.ref D, .int k u] (getItem (.ref D) (.int k u)) := by with_unfolding_all rfl) :
    wpAny (model prog w) A (subscriptTail value slice (.ref D) (.int k u)) Q E s := by
  have hT : IsTup s.heap D (#[.str a ta, .str b tb, .str c tc] : Array Value) := News.isTup N hm
  have hc : k = 0 ∨ k = 1 ∨ k = 2 := by omega
  rcases hc with rfl | rfl | rfl
  · exact item_tupleT (l := [.str a ta, .str b tb, .str c tc]) hT (by decide) (by decide) rfl rfl (h ta) hs
  · exact item_tupleT (l := [.str a ta, .str b tb, .str c tc]) hT (by decide) (by decide) rfl rfl (h tb) hs
  · exact item_tupleT (l := [.str a ta, .str b tb, .str c tc]) hT (by decide) (by decide) rfl rfl (h tc) hs
local macro_rules | `(tactic| walk_at "subscriptTail") => `(tactic| (k_here; (with_reducible show wpAny _ _ (subscriptTail _ _ (Value.ref _) (Value.int (Int.fmod _ 3) _)) _ _ _); k_dflt (refine' item_three ?k1 ?k2 ?k3 ?k4 ?_ ?k6; (case k1 => k_asm); (case k2 => k_mem); (case k3 => (rw [Int.fmod_eq_emod_of_nonneg _ (by decide)]; omega)); (case k4 => (rw [Int.fmod_eq_emod_of_nonneg _ (by decide)]; omega)); (case k6 => with_unfolding_all rfl); intro t')))
local macro_rules | `(tactic| walk_at "call ref") => `(tactic| (k_here; (with_reducible show wpAny _ _ (call (Value.ref 62) _) _ _ _); k_dflt (refine' MClaim.use (ap_c _ _ _ _ _ _ _ _) ?k1 ?k2 ?k3 ?k4 ?k5 ?k6 ?k7 ?k8 ?k9 ?_; (case k1 => k_asm); (case k2 => k_asm); (case k3 => k_asm); (case k4 => k_asm); (case k5 => k_asm); (case k6 => first | exact rfl | assumption); (case k7 => omega); (case k8 => ktr_room); (case k9 => ktr_units); intro r9 tl9 h9 tk9 F9 N9 l9 p9; obtain ⟨e9, b9, t9, e8, hb9⟩ := p9; subst e8; clear l9; rw [e9] at N9; clear e9; (try dsimp only); (try k_fold))))
local macro_rules | `(tactic| walk_at "eval ListComp") => `(tactic| (k_here; k_dflt (refine' comp_call (bn := PySem.Str.ofString "chr") (id := "chr") (x := PySem.Str.ofString "octet") (fun v y => ∃ c u t', v = .int c u ∧ y = .str ⟨#[c.toNat]⟩ t') (by k_asm) (Top.g (by assumption)) (Top.b (by assumption)) (mg_none_of (by k_asm) (Top.g (by assumption)) ?c1) ((Top.builtins (by assumption) _ ?c2).trans ?c3) ?c4 ?c5 rfl ?c6 ?c7 (fun _ => rfl) (fun _ => rfl) ?c8 ?c9 ?_; (case c1 => k_is); (case c2 => decide); (case c3 => decide +kernel); (case c4 => decide); (case c5 => decide); (case c6 => decide); (case c7 => rfl); (case c8 => decide); (case c9 => decide))))
local macro_rules | `(tactic| walk_at "pyIter bytes") => `(tactic| (k_here; (refine' iter_bytes_chr ?c1 ?c2 ?c3 ?c4 ?_; (case c1 => rfl); (case c2 => k_asm); (case c3 => k_asm); (case c4 => (rw [← KBw.ints_length]; rw [sizeLine_eq]; rename KBw.bInts _ = _ => hb8; rw [hb8]; refine Nat.le_trans (hexI_len 4 _ (by omega)) (by decide))); intro D' h' tk' ys' c' F' N' hS')))
theorem catS_chars (ks : List Int) : catS (ks.map fun k => ⟨#[k.toNat]⟩) = ks.map Int.toNat := by
  induction ks with
  | nil => rfl
  | cons k ks ih => simp [catS] at ih ⊢; exact ih
theorem join_chars {prog : Program} {w : World} {A : Around} {E : Value → Shared → Prop} {s : Shared} {h₀ : Heap} {L : Addr} {news : List (Addr × Obj)} {D : Addr} {ys : Array Value} {c : Nat} {t : Tok} {Q : Value → Shared → Prop} {ks : List Int}
    (N : News h₀ L s.heap ((D, listOf ys c) :: news)) (hS : StrsAre ys.toList (ks.map fun k => ⟨#[k.toNat]⟩)) (hlen : ks.length ≤ 1000) (h : ∀ t' k, Q (.str ⟨(ks.map Int.toNat).toArray⟩ t') { s with toks := k }) :
    wpAny (model prog w) A (call (.builtin "str.join") [.str (PySem.Str.ofString "") t, .ref D]) Q E s := by
  have e0 : PySem.Str.ofString "" = ⟨#[]⟩ := by decide +kernel
  rw [e0]
  have hc := join_empty (ks.map fun k => ⟨#[k.toNat]⟩)
  rw [catS_chars] at hc
  refine join_list ⟨_, (N _ (.head _)).1, rfl, c, rfl⟩ hS ?_ fun t' k => ?_
  · rw [sum_len_cat, catS_chars]
    show _ + _ * 0 ≤ _
    simp only [List.length_map]
    omega
  · generalize Txt.join ⟨#[]⟩ (ks.map fun k => ⟨#[k.toNat]⟩) = z at hc
    obtain ⟨z⟩ := z
    have : (⟨z⟩ : PySem.Str) = ⟨(ks.map Int.toNat).toArray⟩ := by rw [← hc]
    rw [this]
    exact h t' k
theorem join_hex {prog : Program} {w : World} {A : Around} {E : Value → Shared → Prop} {s : Shared} {h₀ : Heap} {L : Addr} {news : List (Addr × Obj)} {D : Addr} {ys : Array Value} {c : Nat} {t : Tok} {Q : Value → Shared → Prop} {b : Array UInt8} {n : Int}
    (N : News h₀ L s.heap ((D, listOf ys c) :: news)) (hS : StrsAre ys.toList ((KBw.bInts b).map fun k => ⟨#[k.toNat]⟩)) (hb : KBw.bInts b = hexI n.natAbs) (hn : -32768 ≤ n ∧ n ≤ 32768) (h : ∀ t' k, Q (.str ⟨((hexI n.natAbs).map Int.toNat).toArray⟩ t') { s with toks := k }) :
    wpAny (model prog w) A (call (.builtin "str.join") [.str (PySem.Str.ofString "") t, .ref D]) Q E s := by
  rw [hb] at hS
  exact join_chars N hS (Nat.le_trans (hexI_len 4 _ (by omega)) (by decide)) h
theorem word_len {n : Int} (hn : -32768 ≤ n ∧ n ≤ 32768) : (⟨((hexI n.natAbs).map Int.toNat).toArray⟩ : PySem.Str).length ≤ 4 := by
  have := hexI_len 4 n.natAbs (by omega)
  show ((hexI n.natAbs).map Int.toNat).toArray.size ≤ 4
  simpa using this
theorem mul_len {d : Int} (h1 : d ≤ 10) : (Txt.mul (PySem.Str.ofString ".") d).length ≤ 10 := len_mul_leN (L := 1) (N := 10) (by decide +kernel) h1
theorem three_len (k : Int) : (three k (PySem.Str.ofString "\n") (PySem.Str.ofString "\r") (PySem.Str.ofString "\r\n")).length ≤ 2 := by
  have h1 : (PySem.Str.ofString "\n").length ≤ 2 := by decide +kernel
  have h2 : (PySem.Str.ofString "\r").length ≤ 2 := by decide +kernel
  have h3 : (PySem.Str.ofString "\r\n").length ≤ 2 := by decide +kernel
  unfold three
  split
  · exact h1
  · split
    · exact h2
    · exact h3
local macro_rules | `(tactic| walk_at "call builtin:str.join") => `(tactic| (k_here; (refine' join_hex ?c1 ?c2 ?c3 ?c4 ?_; (case c1 => k_asm); (case c2 => assumption); (case c3 => assumption); (case c4 => omega)); intro t' k'))
local macro_rules | `(tactic| walk_at "binaryOp Add str str") => `(tactic| (k_here; (refine' SBL.add (hsz := ?hsz) ?_; (case hsz => (simp only [PySem.Str.length_append, PySem.sizeLine_eq]; omega))); intro _ _ _))
/-- one row of the mail -/
def rowS (d n : Int) : PySem.Str := Txt.mul (PySem.Str.ofString ".") d ++ (if n < 0 then PySem.Str.ofString "-" else PySem.Str.ofString "") ++ ⟨((hexI n.natAbs).map Int.toNat).toArray⟩ ++
  (if d = 0 then PySem.Str.ofString "\r" else three (n.fmod 3) (PySem.Str.ofString "\n") (PySem.Str.ofString "\r") (PySem.Str.ofString "\r\n"))
theorem row_c (w : World) (loose1 : List PySem.Str) (mean : ExcName → Option Value) (mg mb : PySem.Str → Option Value) (d n : Int) (t t2 : Tok) (news : List (Addr × Obj)) :
  MClaim w loose1 mean mg mb 72 8 news (0 ≤ d ∧ d ≤ 10 ∧ -32768 ≤ n ∧ n ≤ 32768) [.int d t2, .int n t] (fun led r => led = news ∧ ∃ t', r = .str (rowS d n) t') := by
  intro dp un gd cn cs a ccd cl outer A₀ base h₀ L m s Q E B F X N T hk hn hd hu hret
  have hq1 := mul_len hn.2.1
  have hq2 := word_len hn.2.2
  have hq3 := three_len (n.fmod 3)
  have hq4 : (PySem.Str.ofString "-").length ≤ 1 := by decide +kernel
  have hq5 : (PySem.Str.ofString "").length ≤ 1 := by decide +kernel
  have hq6 : (PySem.Str.ofString "\r").length ≤ 1 := by decide +kernel
  refine wpAny_call ?_
  k_dflt cell_enter
  k_steps
  all_goals (rename News _ _ _ _ => nE; refine hret _ news _ _ (by k_asm) (fun p hp => nE p (by first | exact hp | exact .tail _ hp | exact .tail _ (.tail _ hp) | exact .tail _ (.tail _ (.tail _ hp)))) (fun _ h9 => h9) ⟨rfl, _, congrArg (fun z => Value.str z _) ?_⟩)
  all_goals (unfold rowS; first
    | rw [if_pos (by first | assumption | omega), if_pos (by first | assumption | omega)]
    | rw [if_pos (by first | assumption | omega), if_neg (by first | assumption | omega)]
    | rw [if_neg (by first | assumption | omega), if_pos (by first | assumption | omega)]
    | rw [if_neg (by first | assumption | omega), if_neg (by first | assumption | omega)])
end Mine
-- part Size
namespace Mine
open PySem PySem.W PyProof.Rows
set_option maxRecDepth 100000
set_option maxHeartbeats 8000000
theorem fillS : (PySem.Challenge.rw_tx0001_01.writes = false ∧ ∀ P, hd.heap_39 P = hd.heap_39 P) := by
  w_top off
  k_with_none
  k_fill
  exact ⟨rfl, fun _ => rfl⟩
/-- what the figures of a word count -/
def sizeN (n : Nat) : Int := if h : n = 0 then 0 else ((n % 64 : Nat) : Int) - 1 + 16 * sizeN (n / 64)
termination_by n
decreasing_by omega
theorem sizeN_zero : sizeN 0 = 0 := by rw [sizeN]; rfl
theorem sizeN_pos {n : Nat} (h : n ≠ 0) : sizeN n = ((n % 64 : Nat) : Int) - 1 + 16 * sizeN (n / 64) := by rw [sizeN, dif_neg h]
theorem size_start {n : Int} (h : 0 ≤ n) : 0 ≤ n ∧ (0 : Int) + 1 * sizeN n.toNat = sizeN n.toNat := ⟨h, by omega⟩
theorem size_turn {n size place word : Int} (h0 : 0 ≤ word) (hp : 0 < word) (he : size + place * sizeN word.toNat = sizeN n.toNat) :
    0 ≤ word.fdiv 64 ∧ size + (word.fmod 64 - 1) * place + place * 16 * sizeN (word.fdiv 64).toNat = sizeN n.toNat := by
  obtain ⟨k, rfl⟩ := Int.eq_ofNat_of_zero_le h0
  have hk : k ≠ 0 := by omega
  have e1 : Int.fdiv (k : Int) 64 = ((k / 64 : Nat) : Int) := by rw [Int.fdiv_eq_ediv_of_nonneg _ (by decide)]; rfl
  have e2 : Int.fmod (k : Int) 64 = ((k % 64 : Nat) : Int) := by rw [Int.fmod_eq_emod_of_nonneg _ (by decide)]; rfl
  refine ⟨by omega, ?_⟩
  rw [e1, e2, ← he]
  show _ + _ + _ * sizeN (k / 64) = size + place * sizeN k
  rw [sizeN_pos hk]
  generalize sizeN (k / 64) = S
  generalize ((k % 64 : Nat) : Int) = r
  grind
theorem size_meas {word : Int} (hp : 0 < word) : (word.fdiv 64).toNat < word.toNat := by
  rw [Int.fdiv_eq_ediv_of_nonneg _ (by decide)]
  omega
theorem size_end {n size place word : Int} (h0 : 0 ≤ word) (hp : word ≤ 0) (he : size + place * sizeN word.toNat = sizeN n.toNat) : size = sizeN n.toNat := by
  have : word.toNat = 0 := by omega
  rw [this, sizeN_zero] at he
  omega
theorem size_c (w : World) (loose1 : List PySem.Str) (mean : ExcName → Option Value) (mg mb : PySem.Str → Option Value) (n : Int) (t : Tok) (news : List (Addr × Obj)) :
  MClaim w loose1 mean mg mb 84 4 news (0 ≤ n) [.int n t] (fun led r => led = news ∧ ∃ t', r = .int (sizeN n.toNat) t') := by
  intro dp un gd cn cs a ccd cl outer A₀ base h₀ L m s Q E B F X N T hk hn hd hu hret
  k_with "exec While Compare cons nil" => k_while (fun _ size place word => 0 ≤ word ∧ size + place * sizeN word.toNat = sizeN n.toNat) (fun _ size place word => word.toNat) "size" "place" "word"
  k_with "state" => (first | exact size_start (by assumption) | exact size_turn (by assumption) (by first | assumption | omega) (by assumption))
  k_with "measure" => exact size_meas (by first | assumption | omega)
  refine wpAny_call ?_
  k_dflt cell_enter
  k_steps
  refine hret _ news _ _ (by k_asm) (by k_asm) (fun _ h9 => h9) ⟨rfl, _, congrArg (fun z => Value.int z _) (size_end (by assumption) (by first | assumption | omega) (by assumption))⟩
end Mine
-- part Rows
namespace Mine
open PySem PySem.W PyProof.Rows
set_option maxRecDepth 100000
set_option maxHeartbeats 8000000
theorem fillRows : (PySem.Challenge.rw_tx0001_01.writes = false ∧ ∀ P, hd.heap_39 P = hd.heap_39 P) := by
  w_top off
  k_with_none
  k_fill
  exact ⟨rfl, fun _ => rfl⟩
abbrev RowsSt := List (Int × Int) × Int × Int × Int
def rowsStep (σ : RowsSt) (n : Int) : RowsSt :=
  if n = 46 then (σ.1, σ.2.1 + 1, σ.2.2.1, σ.2.2.2) else if n = 45 then (σ.1, σ.2.1, -1, σ.2.2.2) else if n = 10 then (σ.1 ++ [(σ.2.1, σ.2.2.1 * σ.2.2.2)], 0, 1, 0) else (σ.1, σ.2.1, σ.2.2.1, sizeN (n.fdiv 64).toNat)
def rowsOf (ns : List Int) : RowsSt := ns.foldl rowsStep ([], 0, 1, 0)
def datP (p : Int × Int) : Dat := .tuple [.int p.1, .int p.2]
def GoodN (n : Int) : Prop := 0 ≤ n ∧ (n = 46 ∨ n = 45 ∨ n = 10 ∨ n.fmod 64 = 13)
def AllGood (ns : List Int) : Prop := ∀ n ∈ ns, GoodN n
theorem rows_start : ([] : List Dat) = (rowsOf []).1.map datP ∧ ((0 : Int), (1 : Int), (0 : Int)) = (rowsOf []).2 ∧ (-1 : Int) ≤ 1 ∧ (1 : Int) ≤ 1 ∧ ([] : List Dat).length ≤ ([] : List Int).length := ⟨rfl, rfl, by decide, by decide, Nat.le_refl _⟩
local macro_rules | `(tactic| walk_at "call ref") => `(tactic| (k_here; (with_reducible show wpAny _ _ (call (Value.ref 84) _) _ _ _); k_dflt (refine' MClaim.use (size_c _ _ _ _ _ _ _ _) ?k1 ?k2 ?k3 ?k4 ?k5 ?k6 ?k7 ?k8 ?k9 ?_; (case k1 => k_asm); (case k2 => k_asm); (case k3 => k_asm); (case k4 => k_asm); (case k5 => k_asm); (case k6 => first | exact rfl | assumption); (case k7 => (rename AllGood _ => hG; have hg9 := (hG _ (by assumption)).1; rw [Int.fdiv_eq_ediv_of_nonneg _ (by decide)]; omega)); (case k8 => ktr_room); (case k9 => ktr_units); intro r9 tl9 h9 tk9 F9 N9 l9 p9; obtain ⟨e9, t9, e8⟩ := p9; subst e8; clear l9; rw [e9] at N9; clear e9; (try dsimp only); (try k_fold))))
theorem rowsOf_snoc (ns : List Int) (n : Int) : rowsOf (ns ++ [n]) = rowsStep (rowsOf ns) n := by unfold rowsOf; rw [List.foldl_append]; rfl
theorem rows_dot {pre : List Int} {n d t z : Int} (hn : n = 46) (h : (d, t, z) = (rowsOf pre).2) (h1 : -1 ≤ t) (h2 : t ≤ 1) (hl : ((rowsOf pre).1.map datP).length ≤ pre.length) :
    (rowsOf pre).1.map datP = (rowsOf (pre ++ [n])).1.map datP ∧ (d + 1, t, z) = (rowsOf (pre ++ [n])).2 ∧ -1 ≤ t ∧ t ≤ 1 ∧ ((rowsOf pre).1.map datP).length ≤ (pre ++ [n]).length := by
  rw [rowsOf_snoc]
  unfold rowsStep
  rw [if_pos hn, ← h]
  exact ⟨rfl, rfl, h1, h2, by rw [List.length_append]; omega⟩
theorem rows_turn {pre : List Int} {n d t z : Int} (h46 : n ≠ 46) (hn : n = 45) (h : (d, t, z) = (rowsOf pre).2) (hl : ((rowsOf pre).1.map datP).length ≤ pre.length) :
    (rowsOf pre).1.map datP = (rowsOf (pre ++ [n])).1.map datP ∧ (d, -1, z) = (rowsOf (pre ++ [n])).2 ∧ (-1 : Int) ≤ -1 ∧ (-1 : Int) ≤ 1 ∧ ((rowsOf pre).1.map datP).length ≤ (pre ++ [n]).length := by
  rw [rowsOf_snoc]
  unfold rowsStep
  rw [if_neg h46, if_pos hn, ← h]
  exact ⟨rfl, rfl, by decide, by decide, by rw [List.length_append]; omega⟩
theorem rows_feed {pre : List Int} {n d t z : Int} (h46 : n ≠ 46) (h45 : n ≠ 45) (hn : n = 10) (h : (d, t, z) = (rowsOf pre).2) (hl : ((rowsOf pre).1.map datP).length ≤ pre.length) :
    (rowsOf pre).1.map datP ++ [.tuple [.int d, .int (t * z)]] = (rowsOf (pre ++ [n])).1.map datP ∧ ((0 : Int), (1 : Int), (0 : Int)) = (rowsOf (pre ++ [n])).2 ∧ (-1 : Int) ≤ 1 ∧ (1 : Int) ≤ 1 ∧ ((rowsOf pre).1.map datP ++ [Dat.tuple [.int d, .int (t * z)]]).length ≤ (pre ++ [n]).length := by
  rw [rowsOf_snoc]
  unfold rowsStep
  rw [if_neg h46, if_neg h45, if_pos hn, ← h]
  refine ⟨?_, rfl, by decide, by decide, by rw [List.length_append, List.length_append]; simp; simpa using hl⟩
  rw [List.map_append]
  rfl
theorem rows_size {pre : List Int} {n d t z : Int} (h46 : n ≠ 46) (h45 : n ≠ 45) (h10 : n ≠ 10) (h : (d, t, z) = (rowsOf pre).2) (h1 : -1 ≤ t) (h2 : t ≤ 1) (hl : ((rowsOf pre).1.map datP).length ≤ pre.length) :
    (rowsOf pre).1.map datP = (rowsOf (pre ++ [n])).1.map datP ∧ (d, t, sizeN (n.fdiv 64).toNat) = (rowsOf (pre ++ [n])).2 ∧ -1 ≤ t ∧ t ≤ 1 ∧ ((rowsOf pre).1.map datP).length ≤ (pre ++ [n]).length := by
  rw [rowsOf_snoc]
  unfold rowsStep
  rw [if_neg h46, if_neg h45, if_neg h10, ← h]
  exact ⟨rfl, rfl, h1, h2, by rw [List.length_append]; omega⟩
theorem rows_never {ns : List Int} {n : Int} (hG : AllGood ns) (hm : n ∈ ns) (h46 : n ≠ 46) (h45 : n ≠ 45) (h10 : n ≠ 10) (h : n.fmod 64 ≠ 13) : False := by
  rcases (hG n hm).2 with e | e | e | e
  · exact h46 e
  · exact h45 e
  · exact h10 e
  · exact h e
theorem rows_c (w : World) (loose1 : List PySem.Str) (mean : ExcName → Option Value) (mg mb : PySem.Str → Option Value) (l : Addr) (vs : List Value) (ns : List Int) (nn : Nat) (news : List (Addr × Obj)) (hI : IntsAre vs ns) (hG : AllGood ns) (hlen : ns.length ≤ 100000) :
  MClaim w loose1 mean mg mb 91 8 ((l, listOf vs.toArray nn) :: news) True [.ref l] (fun led r => ∃ l' us c, r = .ref l' ∧ (l', listOf us.toArray c) ∈ led ∧ DatAll led us ((rowsOf ns).1.map datP)) := by
  intro dp un gd cn cs a ccd cl outer A₀ base h₀ L m s Q E B F X N T hk hn hd hu hret
  k_with "pyIter ref" => k_dat (fun pre out dots turn size => out = (rowsOf pre).1.map datP ∧ (dots, turn, size) = (rowsOf pre).2 ∧ -1 ≤ turn ∧ turn ≤ 1 ∧ out.length ≤ pre.length) "rows*" "dots" "turn" "size"
  k_with "state" => (first | exact rows_start | exact rows_dot (by assumption) (by assumption) (by assumption) (by assumption) (by assumption) | exact rows_turn (by assumption) (by assumption) (by assumption) (by assumption) | exact rows_feed (by assumption) (by assumption) (by assumption) (by assumption) (by assumption) | exact rows_size (by assumption) (by assumption) (by assumption) (by assumption) (by assumption) (by assumption) (by assumption))
  refine wpAny_call ?_
  k_dflt cell_enter
  k_steps
  · exact (rows_never hG (by assumption) (by assumption) (by assumption) (by assumption) (by assumption)).elim
  · rename DatAll _ _ _ => hDA
    refine hret _ _ _ _ (by k_asm) (by k_asm) (fun p hp => ?_) ⟨_, _, _, rfl, .head _, hDA.mono fun p hp => .tail _ hp⟩
    rcases List.mem_cons.mp hp with e | hp
    · rw [e]; exact .tail _ (.tail _ (.head _))
    · exact .tail _ (.tail _ (.tail _ (List.mem_append.mpr (.inl hp))))
end Mine
-- part Comp2
namespace Mine
open PySem PySem.W PyProof.Rows
set_option maxRecDepth 100000
set_option maxHeartbeats 200000
section
variable {prog : Program} {w : World} {A : Around} {E : Value → Shared → Prop} {s : Shared} {env : Env}

/-- all that stood stands -/
def Kept (h h' : Heap) : Prop := ∀ b o, h.get? b = some o → h'.get? b = some o
theorem Kept.trans {h h' h'' : Heap} (a : Kept h h') (b : Kept h' h'') : Kept h h'' := fun x o e => b x o (a x o e)

/-- what a turn of the comprehension does: the test, then the element or nothing -/
def PtTurn (prog : Program) (w : World) (A : Around) (env : Env) (c elt : Expr) (x x₂ : PySem.Str) (scope : Scope) (cl : List (PySem.Str × Addr)) (F : Option Value → Prop) (v1 v2 : Value) (s₁ : Shared) : Prop :=
  ∀ (C : Addr) (h : Heap) (m₃ : PySem.Str → Option Value) (tk : Nat) (E' : Value → Shared → Prop), s₁.heap.objs.size ≤ C → h.Ns C m₃ → m₃ x = some v1 → m₃ x₂ = some v2 → Kept s₁.heap h →
    wpAny (model prog w) A (isTrue c (compEnvC scope cl C env) (eval c (compEnvC scope cl C env))) (fun ok s₃ => ∃ h₃ tk₃, s₃ = { s₁ with heap := h₃, toks := tk₃ } ∧ Kept h h₃ ∧
      if ok = true then wpAny (model prog w) A (eval elt (compEnvC scope cl C env)) (fun y s₄ => F (some y) ∧ ∃ h₄ tk₄, s₄ = { s₁ with heap := h₄, toks := tk₄ } ∧ Kept h₃ h₄) E' s₃ else F none) E' { s₁ with heap := h, toks := tk }

theorem comp_pt {elt iter c : Expr} {x x₂ : PySem.Str} {px px₂ tp : Pos} {tk : Nat} {scope : Scope} {cl : List (PySem.Str × Addr)} {pos : Pos} {Q : Value → Shared → Prop} {its : Array Value} (F : Nat → Option Value → Prop)
    (hh : A.handled = none) (hclos : closureFor scope env = pure cl) (hcell : ∀ y ∈ scope.names, y.2 ≠ .cell) (hkind : scope.kind = .function)
    (hnames : ∀ y ∈ scope.names, y.2 = .local → scope.names.lookup y.1 = some .local) (hx : scope.names.lookup x = some .local) (hx₂ : scope.names.lookup x₂ = some .local) (hxx : x ≠ x₂)
    (h : wpAny (model prog w) A (eval iter env) (fun xv s₁ => ∃ ax, xv = .ref ax ∧ s₁.heap.IsList ax its ∧ its.size ≤ sizeLine ∧
      (∀ i v, its[i]? = some v → ∃ t v1 v2, v = .ref t ∧ IsTup s₁.heap t #[v1, v2] ∧ PtTurn prog w A env c elt x x₂ scope cl (F i) v1 v2 s₁) ∧
      (∀ D h' tk (os : List (Option Value)), s₁.heap.objs.size ≤ D → s₁.heap.get? D = none → h'.PlainList D (os.filterMap id).toArray → os.length = its.size → (∀ i o, os[i]? = some o → F i o) → Kept s₁.heap h' → Q (.ref D) { s₁ with heap := h', toks := tk })) E s)
    (hs : ∀ x, foldedSetIterable iter env x = pure x := by intro _; rfl) :
    wpAny (model prog w) A (eval (.ListComp elt [⟨.Tuple [.Name x px, .Name x₂ px₂] tk tp, iter, [c], 0⟩] scope pos) env) Q E s := by
  rw [eval_ListComp]
  refine wpAny_comprehension_free (use := none) rfl hs hclos hkind hnames (wpAny_mono h (fun xv s₁ h₁ => ?_) fun _ _ e => e)
  obtain ⟨ax, rfl, hl, hsz, hturn, hQ⟩ := h₁
  refine wpAny_pyIter_list hl ?_
  refine wpAny_newObj_type (wpAny_newFunctionEnv hcell (by intro y hy; simp at hy) (fun h₁ hns₁ hsb₁ => ?_) hkind)
  dsimp only at hns₁ hsb₁ ⊢
  obtain ⟨oax, hoax, _⟩ := id hl
  have haxlt : ax < s₁.heap.objs.size := Heap.lt_size hoax
  generalize hH1 : s₁.heap.push { cls := .type "list_iterator", data := .fields #[.ref ax, .int 0 0] } = H1 at hns₁ hsb₁ ⊢
  have hI : H1.objs.size = s₁.heap.objs.size + 1 := by rw [← hH1, Heap.size_push]
  generalize hH2 : H1.push { cls := .type "list", dict := none, data := .seq ([] : List Value).toArray } = H2 at hns₁ hsb₁ ⊢
  have hC : H2.objs.size = s₁.heap.objs.size + 2 := by rw [← hH2, Heap.size_push, hI]
  have lt₁ : ∀ {b o}, s₁.heap.get? b = some o → b < s₁.heap.objs.size := fun e => Heap.lt_size e
  have old : Kept s₁.heap h₁ := fun b o e => hsb₁.extBut b o (Nat.ne_of_lt (Nat.lt_of_lt_of_le (lt₁ e) (by rw [hC]; exact Nat.le_add_right _ _))) (Heap.get?_push_of_some _ (hH2 ▸ Heap.get?_push_of_some _ (hH1 ▸ Heap.get?_push_of_some _ e)))
  have hit₁ : h₁.IsListIter s₁.heap.objs.size ax 0 :=
    ⟨_, hsb₁.extBut _ _ (by rw [hC]; exact Nat.ne_of_lt (by omega)) (Heap.get?_push_of_some _ (hH2 ▸ Heap.get?_push_of_some _ (hH1 ▸ Heap.get?_push_size _ rfl))), rfl, rfl⟩
  have hacc₁ : h₁.PlainList H1.objs.size #[] := ⟨_, hsb₁.extBut _ _ (by rw [hC, hI]; exact Nat.ne_of_lt (by omega)) (Heap.get?_push_of_some _ (hH2 ▸ Heap.get?_push_size _ rfl))⟩
  have fresh : ∀ a, s₁.heap.objs.size ≤ a → s₁.heap.get? a = none := fun a ha => by
    cases e : s₁.heap.get? a with
    | none => rfl
    | some o' => exact absurd (Heap.lt_size e) (Nat.not_lt.mpr ha)
  have loop : ∀ s₃ : Shared, s₃ = { s₁ with heap := h₁, toks := s₁.toks + ([] : List (PySem.Str × Value)).length } →
      codeAny (model prog w) A (.compLoop (.ListComp elt [⟨.Tuple [.Name x px, .Name x₂ px₂] tk tp, iter, [c], 0⟩] scope pos) 0 (.ref s₁.heap.objs.size) (.ref H1.objs.size) (compEnvC scope cl H2.objs.size env))
        (compPost (model prog w) A E none Q (.ref H1.objs.size) H2.objs.size) s₃ := by
    rintro s₃ rfl
    refine kct_loop
      (fun k s' => ∃ h' tk i, ∃ os : List (Option Value), ∃ m', s' = { s₁ with heap := h', toks := tk } ∧ i ≤ its.size ∧ k = its.size + 1 - i ∧ os.length = i ∧ h'.IsListIter s₁.heap.objs.size ax i ∧ Kept s₁.heap h' ∧ h'.Ns H2.objs.size m' ∧
        h'.PlainList H1.objs.size (os.filterMap id).toArray ∧ ∀ j o, os[j]? = some o → F j o) ?_ (its.size + 1)
      ⟨h₁, _, 0, [], _, rfl, Nat.zero_le _, rfl, rfl, hit₁, old, hns₁, hacc₁, fun j o e => by simp at e⟩
    rintro k s' ⟨h', tk', i, os, m', rfl, hi, rfl, hlen, hit, hk, hn, hacc, hF⟩
    have hl' : h'.IsList ax its := hl.at fun o e => hk ax o e
    have ne1 : ∀ {b o}, s₁.heap.get? b = some o → b ≠ s₁.heap.objs.size := fun e => Nat.ne_of_lt (lt₁ e)
    have ne2 : ∀ {b o}, s₁.heap.get? b = some o → b ≠ H1.objs.size := fun e => Nat.ne_of_lt (Nat.lt_of_lt_of_le (lt₁ e) (by rw [hI]; exact Nat.le_add_right _ _))
    have ne3 : ∀ {b o}, s₁.heap.get? b = some o → b ≠ H2.objs.size := fun e => Nat.ne_of_lt (Nat.lt_of_lt_of_le (lt₁ e) (by rw [hC]; exact Nat.le_add_right _ _))
    have nIC : s₁.heap.objs.size ≠ H2.objs.size := by rw [hC]; exact Nat.ne_of_lt (by omega)
    have nID : s₁.heap.objs.size ≠ H1.objs.size := by rw [hI]; exact Nat.ne_of_lt (by omega)
    have nDC : H1.objs.size ≠ H2.objs.size := by rw [hC, hI]; exact Nat.ne_of_lt (by omega)
    by_cases hlt : i < its.size
    · have hv : its[i]? = some its[i] := by simp [hlt]
      refine wpAny_pyNext_list_item hit hl' hv fun h₂ hit₂ hs₂ => ?_
      obtain ⟨t, v1, v2, hvt, ht, hT⟩ := hturn i _ hv
      rw [hvt]
      have k₂ : Kept s₁.heap h₂ := fun b o e => hs₂.extBut b o (ne1 e) (hk b o e)
      have ht₂ : IsTup h₂ t #[v1, v2] := let ⟨o, ho, r⟩ := ht; ⟨o, k₂ _ _ ho, r⟩
      refine wpAny_letOwnedTupleGo_listiter hit₂ ?_
      refine assign_Tuple_tuple hh ht₂ rfl rfl fun h₅ he => ?_
      have he' : Kept h₂ h₅ := fun b o e => he b o (Nat.ne_of_lt (Heap.lt_size e)) e
      refine assignInOrder_cons (wpAny_assign_Name (wpAny_storeName_local (lookup_relabel_local hx) ((hn.sameBut hs₂ (Ne.symm nIC)).keeps he') (fun h₆ hn₆ hs₆ => ?_) (by simp [compEnvC, relabel, hkind])))
      refine assignInOrder_cons (wpAny_assign_Name (wpAny_storeName_local (lookup_relabel_local hx₂) hn₆ (fun h₇ hn₇ hs₇ => ?_) (by simp [compEnvC, relabel, hkind])))
      refine assignInOrder_nil ?_
      have up : ∀ b o, b ≠ H2.objs.size → h₂.get? b = some o → h₇.get? b = some o := fun b o hb e => hs₇.extBut b o hb (hs₆.extBut b o hb (he' b o e))
      have k₇ : Kept s₁.heap h₇ := fun b o e => up b o (ne3 e) (k₂ b o e)
      refine wpAny_mono (hT H2.objs.size h₇ _ _ _ (by rw [hC]; exact Nat.le_add_right _ _) hn₇ (by simp [hxx]) (by simp) k₇) (fun ok s₈ h₈ => ?_) fun _ _ e => e
      obtain ⟨h₃, tk₃, rfl, k₃, hok⟩ := h₈
      have hit₃ : h₃.IsListIter s₁.heap.objs.size ax (i + 1) := by
        obtain ⟨o, ho, r⟩ := hit₂
        exact ⟨o, k₃ _ _ (up _ _ nIC ho), r⟩
      have hacc₃ : h₃.PlainList H1.objs.size (os.filterMap id).toArray := hacc.at fun o e => k₃ _ _ (up _ _ nDC (hs₂.extBut _ _ (Ne.symm nID) e))
      have hn₃ := hn₇.keeps k₃
      have hF' : ∀ o', F i o' → ∀ j o, (os ++ [o'])[j]? = some o → F j o := fun o' ho' j o e => by
        rcases Nat.lt_trichotomy j os.length with hj | hj | hj
        · exact hF j o (by rwa [List.getElem?_append_left hj] at e)
        · subst hj; simp at e; subst e; rw [hlen]; exact ho'
        · rw [List.getElem?_eq_none (by rw [List.length_append, List.length_singleton]; omega)] at e; cases e
      cases ok with
      | false =>
        simp only [Bool.false_eq_true, if_false] at hok ⊢
        refine ⟨its.size + 1 - (i + 1), by omega, h₃, tk₃, i + 1, os ++ [none], _, rfl, hlt, rfl, by rw [List.length_append, List.length_singleton, hlen], hit₃, k₇.trans k₃, hn₃, ?_, hF' none hok⟩
        rw [List.filterMap_append]
        simpa using hacc₃
      | true =>
        simp only [if_true] at hok ⊢
        refine wpAny_mono hok (fun y s₉ h₉ => ?_) fun _ _ e => e
        obtain ⟨hy, h₄, tk₄, rfl, k₄⟩ := h₉
        have hfl : (os.filterMap id).length ≤ os.length := List.length_filterMap_le _ _
        refine wpAny_list_append_plain (hsz := by simp; omega) (hacc₃.at fun o e => k₄ _ o e) fun h₅ hl₅ hs₅ => ?_
        refine ⟨its.size + 1 - (i + 1), by omega, h₅, tk₄, i + 1, os ++ [some y], _, rfl, hlt, rfl, by rw [List.length_append, List.length_singleton, hlen], ?_, ?_, (hn₃.keeps k₄).sameBut hs₅ (Ne.symm nDC), ?_, hF' (some y) hy⟩
        · obtain ⟨o, ho, r⟩ := hit₃
          exact ⟨o, hs₅.extBut _ _ nID (k₄ _ _ ho), r⟩
        · exact fun b o e => hs₅.extBut b o (ne2 e) (k₄ b o (k₃ b o (k₇ b o e)))
        · rw [List.filterMap_append]
          simpa using hl₅
    · have hin : i = its.size := by omega
      refine wpAny_pyNext_list_end hh hit hl' (by rw [hin]; simp) fun h₂ he₂ => ?_
      refine ⟨m', hn.extBut he₂ (Ne.symm nIC), fun h'' hs'' => ?_⟩
      refine hQ H1.objs.size h'' tk' os (by rw [hI]; exact Nat.le_succ _) (fresh _ (by rw [hI]; exact Nat.le_succ _)) ?_ (by rw [hlen, hin]) hF ?_
      · exact hacc.at fun o e => hs''.extBut _ _ nDC (he₂ _ _ (Ne.symm nID) e)
      · exact fun b o e => hs''.extBut b o (ne3 e) (he₂ b o (ne1 e) (hk b o e))
  exact codeAny_compStart_list (loop _ rfl) (wpAny_pyIter_listiter hit₁ (loop _ rfl))
end
end Mine
-- part Elems
namespace Mine
open PySem PySem.W PyProof.Rows
set_option maxRecDepth 100000
set_option maxHeartbeats 200000
/-- the k-th of a list of numbers -/
def gi (ns : List Int) (k : Int) : Int := ns[k.toNat]?.getD 0
def dif (ns : List Int) (k : Int) : Int := gi ns k - gi ns (k - 1)
def pas (ns : List Int) (k : Int) : Int := gi ns k + gi ns (k + 1)
section
variable {prog : Program} {w : World} {A : Around} {E : Value → Shared → Prop} {s : Shared} {h₀ : Heap} {L : Addr} {m : PySem.Str → Option Value} {news : List (Addr × Obj)} {scope : Scope} {cl : List (PySem.Str × Addr)} {env : Env}

theorem gi_val {vs : List Value} {ns : List Int} (hI : IntsAre vs ns) {k : Int} (h0 : 0 ≤ k) (h1 : k < ns.length) : ∃ t, vs[k.toNat]? = some (.int (gi ns k) t) := by
  have hlt : k.toNat < ns.length := by omega
  have e : ns[k.toNat]? = some (gi ns k) := by unfold gi; rw [List.getElem?_eq_getElem hlt]; rfl
  exact hI.get _ _ e

/-- a place of a closed-over list -/
theorem item_cell {C W c : Addr} {oc : Obj} {y : PySem.Str} {p1 p2 : Pos} {sl : Expr} {vs : List Value} {ns : List Int} {n : Nat} {k : Int} {Q : Value → Shared → Prop}
    (h1 : (compEnvC scope cl C env).scope.kind = .function) (h2 : (compEnvC scope cl C env).kindOf y = some .cell) (hc : cl.lookup y = some c) (hb : (y == ("__debug__" : PySem.Str)) = false)
    (N : News h₀ L s.heap news) (hoc : (c, oc) ∈ news) (hcd : oc.data = .cell (some (.ref W))) (hW : (W, ({ cls := .type "list", data := .seq vs.toArray n } : Obj)) ∈ news) (hI : IntsAre vs ns)
    (h0 : 0 ≤ k) (hk : k < ns.length) (hf : ns.length ≤ 100000) (hsl : ∀ Q' : Value → Shared → Prop, (∀ u tk, Q' (.int k u) { s with toks := tk }) → wpAny (model prog w) A (eval sl (compEnvC scope cl C env)) Q' E s) (hQ : ∀ t tk, Q (.int (gi ns k) t) { s with toks := tk })
    (hs : ∀ u, subscripted sl false (.ref W) (.int k u) = operate [.ref W, .int k u] (getItem (.ref W) (.int k u)) := by intro u; with_unfolding_all rfl) :
    wpAny (model prog w) A (eval (.Subscript (.Name y p1) sl p2) (compEnvC scope cl C env)) Q E s := by
  refine Subscript_ (kcf_cell N hc hoc hcd (hsl _ fun u tk => ?_) h1 h2 hb)
  obtain ⟨t, ht⟩ := gi_val hI h0 hk
  exact item_listL ⟨_, (N _ hW).1, rfl, n, rfl⟩ h0 (by omega) ht (hQ t tk) (hs u)

theorem loc_name {C : Addr} {x : PySem.Str} {p : Pos} {m₂ : PySem.Str → Option Value} {v : Value} {Q : Value → Shared → Prop} (h1 : (compEnvC scope cl C env).scope.kind = .function) (h3 : (compEnvC scope cl C env).kindOf x = some .local)
    (hn : s.heap.Ns C m₂) (hx : m₂ x = some v) (hQ : Q v s) (hb : (x == ("__debug__" : PySem.Str)) = false := by decide) : wpAny (model prog w) A (eval (.Name x p) (compEnvC scope cl C env)) Q E s :=
  wpAny_Name (wpAny_loadName_local h1 h3 hn hx hQ) hb

theorem elem_diffs {I C D W c : Addr} {oI oC oc : Obj} {ys : List Value} {p1 p2 p3 p4 p5 p6 p7 p8 p9 : Pos} {z : Nat} {vs : List Value} {ns : List Int} {n : Nat} {k : Int} {t : Tok} {m₂ : PySem.Str → Option Value} {S : List (Addr × Obj) → Prop} {h : Heap} {tk : Nat} {gg : Array GenState} {dd : Drawn} {oo : OsState}
    (hI : IntsAre vs ns) (hW : (W, ({ cls := .type "list", data := .seq vs.toArray n } : Obj)) ∈ news) (hoc : (c, oc) ∈ news) (hcd : oc.data = .cell (some (.ref W))) (hc : cl.lookup (PySem.Str.ofString "values") = some c)
    (h1 : ∀ C, (compEnvC scope cl C env).scope.kind = .function) (h2 : ∀ C, (compEnvC scope cl C env).kindOf (PySem.Str.ofString "values") = some .cell) (h3 : ∀ C, (compEnvC scope cl C env).kindOf (PySem.Str.ofString "k") = some .local)
    (hlo : 1 ≤ k) (hhi : k < ns.length) (hsz : ns.length ≤ 100000) (hS : S news)
    (hC : LCg.NsObj oC m₂) (hx : m₂ (PySem.Str.ofString "k") = some (.int k t)) (F : Fr h₀ L h m) (N : News h₀ L h ((I, oI) :: (C, oC) :: (D, LCg.lst ys) :: news)) (off : LCg.Off3 I C D news) :
    wpAny (model prog w) A (eval (.BinOp (.Subscript (.Name (PySem.Str.ofString "values") p1) (.Name (PySem.Str.ofString "k") p2) p3) .Sub (.Subscript (.Name (PySem.Str.ofString "values") p4) (.BinOp (.Name (PySem.Str.ofString "k") p5) .Sub (.Constant (.int 1) z p6) p7) p8) p9) (compEnvC scope cl C env))
      (LCg.CompEnd h₀ L m ⟨h, gg, dd, tk, oo⟩ I oI C oC D (LCg.lst ys) S (fun y news' => KCfEl news (dif ns k) y news')) E ⟨h, gg, dd, tk, oo⟩ := by
  have N' : News h₀ L h news := fun p hp => N p (.tail _ (.tail _ (.tail _ hp)))
  have hn : h.Ns C m₂ := hC.ns (N _ (.tail _ (.head _))).1
  refine wpAny_BinOp (item_cell (h1 C) (h2 C) hc (by decide +kernel) N' hoc hcd hW hI (by omega) hhi hsz (fun Q' hq => loc_name (h1 C) (h3 C) hn hx (hq t _) (by decide +kernel)) (fun t1 tk1 => ?_))
  refine item_cell (k := k - 1) (h1 C) (h2 C) hc (by decide +kernel) N' hoc hcd hW hI (by omega) (by omega) hsz (fun Q' hq => ?_) (fun t2 tk2 => ?_)
  · refine wpAny_BinOp (loc_name (h1 C) (h3 C) hn hx ?_ (by decide +kernel))
    refine wpAny_Constant_int ?_
    exact sub_int (hq _ _)
  · refine sub_int ?_
    exact LCg.CompEnd.intro (s₁ := ⟨h, gg, dd, tk, oo⟩) F N news (fun p hp => hp) off hS ⟨rfl, _, rfl⟩

theorem elem_ways {I C D W c : Addr} {oI oC oc : Obj} {ys : List Value} {p1 p2 p3 p4 p5 p6 p7 p8 p9 : Pos} {z : Nat} {vs : List Value} {ns : List Int} {n : Nat} {k : Int} {t : Tok} {m₂ : PySem.Str → Option Value} {S : List (Addr × Obj) → Prop} {h : Heap} {tk : Nat} {gg : Array GenState} {dd : Drawn} {oo : OsState}
    (hI : IntsAre vs ns) (hW : (W, ({ cls := .type "list", data := .seq vs.toArray n } : Obj)) ∈ news) (hoc : (c, oc) ∈ news) (hcd : oc.data = .cell (some (.ref W))) (hc : cl.lookup (PySem.Str.ofString "ways") = some c)
    (h1 : ∀ C, (compEnvC scope cl C env).scope.kind = .function) (h2 : ∀ C, (compEnvC scope cl C env).kindOf (PySem.Str.ofString "ways") = some .cell) (h3 : ∀ C, (compEnvC scope cl C env).kindOf (PySem.Str.ofString "k") = some .local)
    (hlo : 0 ≤ k) (hhi : k + 1 < ns.length) (hsz : ns.length ≤ 100000) (hS : S news)
    (hC : LCg.NsObj oC m₂) (hx : m₂ (PySem.Str.ofString "k") = some (.int k t)) (F : Fr h₀ L h m) (N : News h₀ L h ((I, oI) :: (C, oC) :: (D, LCg.lst ys) :: news)) (off : LCg.Off3 I C D news) :
    wpAny (model prog w) A (eval (.BinOp (.Subscript (.Name (PySem.Str.ofString "ways") p1) (.Name (PySem.Str.ofString "k") p2) p3) .Add (.Subscript (.Name (PySem.Str.ofString "ways") p4) (.BinOp (.Name (PySem.Str.ofString "k") p5) .Add (.Constant (.int 1) z p6) p7) p8) p9) (compEnvC scope cl C env))
      (LCg.CompEnd h₀ L m ⟨h, gg, dd, tk, oo⟩ I oI C oC D (LCg.lst ys) S (fun y news' => KCfEl news (pas ns k) y news')) E ⟨h, gg, dd, tk, oo⟩ := by
  have N' : News h₀ L h news := fun p hp => N p (.tail _ (.tail _ (.tail _ hp)))
  have hn : h.Ns C m₂ := hC.ns (N _ (.tail _ (.head _))).1
  refine wpAny_BinOp (item_cell (h1 C) (h2 C) hc (by decide +kernel) N' hoc hcd hW hI (by omega) (by omega) hsz (fun Q' hq => loc_name (h1 C) (h3 C) hn hx (hq t _) (by decide +kernel)) (fun t1 tk1 => ?_))
  refine item_cell (k := k + 1) (h1 C) (h2 C) hc (by decide +kernel) N' hoc hcd hW hI (by omega) (by omega) hsz (fun Q' hq => ?_) (fun t2 tk2 => ?_)
  · refine wpAny_BinOp (loc_name (h1 C) (h3 C) hn hx ?_ (by decide +kernel))
    refine wpAny_Constant_int ?_
    exact add_int (hq _ _)
  · refine add_int ?_
    exact LCg.CompEnd.intro (s₁ := ⟨h, gg, dd, tk, oo⟩) F N news (fun p hp => hp) off hS ⟨rfl, _, rfl⟩

/-- the row's number of ways, or nothing -/
def wayF (ns : List Int) (p : Int × Int) : Option Int := if p.1 < ns.length then some (p.2 * gi ns p.1) else none
theorem turn_ways {c W : Addr} {oc : Obj} {vs : List Value} {ns : List Int} {n : Nat} {p1 p2 p3 p4 p5 p6 p7 p8 p9 p10 : Pos} {mg mb : PySem.Str → Option Value} {d st : Int} {td ts : Tok} {s₁ : Shared} {F : Option Value → Prop}
    (hI : IntsAre vs ns) (N : News h₀ L s₁.heap news) (hW : (W, ({ cls := .type "list", data := .seq vs.toArray n } : Obj)) ∈ news) (hoc : (c, oc) ∈ news) (hcd : oc.data = .cell (some (.ref W))) (hc : cl.lookup (PySem.Str.ofString "ways") = some c)
    (hg : h₀.Ns env.globals mg) (hbn : h₀.Ns env.builtins mb) (hmiss : mg (PySem.Str.ofString "len") = none) (hbl : mb (PySem.Str.ofString "len") = some (.builtin "len")) (Fr₀ : Fr h₀ L s₁.heap m)
    (h1 : ∀ C, (compEnvC scope cl C env).scope.kind = .function) (h2 : ∀ C, (compEnvC scope cl C env).kindOf (PySem.Str.ofString "ways") = some .cell) (h3 : ∀ C, (compEnvC scope cl C env).kindOf (PySem.Str.ofString "dots") = some .local) (h4 : ∀ C, (compEnvC scope cl C env).kindOf (PySem.Str.ofString "step") = some .local)
    (h5 : ∀ C, (compEnvC scope cl C env).kindOf (PySem.Str.ofString "len") = some .globalImplicit)
    (hd : 0 ≤ d) (hsz : ns.length ≤ 100000) (hm : ∀ x ∈ ns, IntMulOk st x) (hF : ∀ o : Option Value, (match wayF ns (d, st) with | some z => ∃ t, o = some (.int z t) | none => o = none) → F o) :
    PtTurn prog w A env (.Compare (.Name (PySem.Str.ofString "dots") p1) [.Lt] [.Call (.Name (PySem.Str.ofString "len") p2) [.Name (PySem.Str.ofString "ways") p3] [] p4] p5)
      (.BinOp (.Name (PySem.Str.ofString "step") p6) .Mult (.Subscript (.Name (PySem.Str.ofString "ways") p7) (.Name (PySem.Str.ofString "dots") p8) p9) p10) (PySem.Str.ofString "dots") (PySem.Str.ofString "step") scope cl F (.int d td) (.int st ts) s₁ := by
  intro C h m₃ tk E' hC hn hx hx₂ hk
  have N' : News h₀ L h news := fun p hp => ⟨hk _ _ (N p hp).1, (N p hp).2⟩
  have up : ∀ b o, h₀.get? b = some o → h.get? b = some o := fun b o e => hk b o (Fr₀.keep b o e)
  have hlen := hI.length
  refine wpAny_isTrue_Compare1 (loc_name (h1 C) (h3 C) hn hx ?_ (by decide +kernel)) (by with_unfolding_all rfl)
  refine Call_ ?_
  refine Calls.Name_function_global (h1 C) (h5 C) (Calls.loadGlobal_builtin (env := compEnvC scope cl C env) (hg.keeps up) hmiss (hbn.keeps up) hbl ?_) (by decide +kernel)
  refine callWith_method1 (args_cons (kcf_cell N' hc hoc hcd (args_nil ?_) (h1 C) (h2 C) (by decide +kernel)))
  refine Calls.call_len_list ⟨_, (N' _ hW).1, rfl, n, rfl⟩ (by rw [List.size_toArray, hlen]; omega) ?_
  refine lt_int (wpAny_truthy_bool ?_)
  refine ⟨h, tk + 1 + 1, rfl, fun _ _ e => e, ?_⟩
  rw [List.size_toArray, hlen]
  by_cases hlt : d < (ns.length : Int)
  · rw [if_pos (by simpa using hlt)]
    refine wpAny_BinOp (loc_name (h1 C) (h4 C) hn hx₂ ?_ (by decide +kernel))
    refine item_cell (news := news) (h1 C) (h2 C) hc (by decide +kernel) N' hoc hcd hW hI hd hlt hsz (fun Q' hq => loc_name (h1 C) (h3 C) hn hx (hq td _) (by decide +kernel)) (fun t2 tk2 => ?_)
    refine mul_int ⟨hF _ ?_, h, _, rfl, fun _ _ e => e⟩ (hm _ ?_)
    · unfold wayF; rw [if_pos hlt]; exact ⟨_, rfl⟩
    · have hl' : d.toNat < ns.length := by omega
      unfold gi; rw [List.getElem?_eq_getElem hl']; exact List.getElem_mem hl'
  · rw [if_neg (by simpa using hlt)]
    refine hF _ ?_
    unfold wayF; rw [if_neg hlt]
/-- what turn i leaves -/
def WayO (ns : List Int) (rows : List (Int × Int)) (i : Nat) (o : Option Value) : Prop :=
  ∃ p, rows[i]? = some p ∧ (match wayF ns p with | some z => ∃ t, o = some (.int z t) | none => o = none)
theorem ways_all (ns : List Int) : ∀ (rows : List (Int × Int)) (os : List (Option Value)), os.length = rows.length → (∀ i o, os[i]? = some o → WayO ns rows i o) → IntsAre (os.filterMap id) (rows.filterMap (wayF ns))
  | [], [], _, _ => .nil
  | p :: rows, o :: os, hl, h => by
    have ih := ways_all ns rows os (by simpa using hl) (fun i o' e => by
      obtain ⟨q, h1, h2⟩ := h (i + 1) o' (by simpa using e)
      exact ⟨q, by simpa using h1, h2⟩)
    obtain ⟨q, h1, h2⟩ := h 0 o (by simp)
    simp at h1
    subst h1
    cases hw : wayF ns p with
    | none =>
      rw [hw] at h2
      subst h2
      simpa [List.filterMap_cons, hw] using ih
    | some z =>
      rw [hw] at h2
      obtain ⟨t, rfl⟩ := h2
      simpa [List.filterMap_cons, hw] using IntsAre.cons z t ih
  | [], _ :: _, hl, _ => by simp at hl
  | _ :: _, [], hl, _ => by simp at hl
/-- the whole comprehension -/
theorem comp_ways {c W l : Addr} {oc : Obj} {vs us : List Value} {ns : List Int} {rows : List (Int × Int)} {n nn : Nat} {p1 p2 p3 p4 p5 p6 p7 p8 p9 p10 px px₂ tp pi pos : Pos} {tk : Nat} {mg mb : PySem.Str → Option Value} {led : List (Addr × Obj)} {Q : Value → Shared → Prop}
    (hh : A.handled = none) (hI : IntsAre vs ns) (Fr₀ : Fr h₀ L s.heap m) (N : News h₀ L s.heap news) (hW : (W, ({ cls := .type "list", data := .seq vs.toArray n } : Obj)) ∈ news) (hoc : (c, oc) ∈ news) (hcd : oc.data = .cell (some (.ref W))) (hc : cl.lookup (PySem.Str.ofString "ways") = some c)
    (hl : (l, ({ cls := .type "list", data := .seq us.toArray nn } : Obj)) ∈ news) (hD : DatAll led us (rows.map fun p => Dat.tuple [.int p.1, .int p.2])) (hled : ∀ p ∈ led, p ∈ news)
    (hg : h₀.Ns env.globals mg) (hbn : h₀.Ns env.builtins mb) (hmiss : mg (PySem.Str.ofString "len") = none) (hbl : mb (PySem.Str.ofString "len") = some (.builtin "len"))
    (hclos : closureFor scope env = pure cl) (hcell : ∀ y ∈ scope.names, y.2 ≠ .cell) (hkind : scope.kind = .function)
    (hnames : ∀ y ∈ scope.names, y.2 = .local → scope.names.lookup y.1 = some .local) (hx : scope.names.lookup (PySem.Str.ofString "dots") = some .local) (hx₂ : scope.names.lookup (PySem.Str.ofString "step") = some .local)
    (h1 : ∀ C, (compEnvC scope cl C env).scope.kind = .function) (h2 : ∀ C, (compEnvC scope cl C env).kindOf (PySem.Str.ofString "ways") = some .cell) (h3 : ∀ C, (compEnvC scope cl C env).kindOf (PySem.Str.ofString "dots") = some .local) (h4 : ∀ C, (compEnvC scope cl C env).kindOf (PySem.Str.ofString "step") = some .local)
    (h5 : ∀ C, (compEnvC scope cl C env).kindOf (PySem.Str.ofString "len") = some .globalImplicit)
    (hsz : ns.length ≤ 100000) (hsr : rows.length ≤ 100000) (hrow : ∀ p ∈ rows, 0 ≤ p.1 ∧ ∀ x ∈ ns, IntMulOk p.2 x)
    (hiter : ∀ (Q' : Value → Shared → Prop), Q' (.ref l) s → wpAny (model prog w) A (eval (.Name (PySem.Str.ofString "rows") pi) env) Q' E s)
    (hQ : ∀ D h' tk ys k, Fr h₀ L h' m → News h₀ L h' ((D, ({ cls := .type "list", data := .seq ys.toArray k } : Obj)) :: news) → IntsAre ys (rows.filterMap (wayF ns)) → (∀ p ∈ news, p.1 < D) → Q (.ref D) { s with heap := h', toks := tk }) :
    wpAny (model prog w) A (eval (.ListComp (.BinOp (.Name (PySem.Str.ofString "step") p6) .Mult (.Subscript (.Name (PySem.Str.ofString "ways") p7) (.Name (PySem.Str.ofString "dots") p8) p9) p10)
      [⟨.Tuple [.Name (PySem.Str.ofString "dots") px, .Name (PySem.Str.ofString "step") px₂] tk tp, .Name (PySem.Str.ofString "rows") pi, [.Compare (.Name (PySem.Str.ofString "dots") p1) [.Lt] [.Call (.Name (PySem.Str.ofString "len") p2) [.Name (PySem.Str.ofString "ways") p3] [] p4] p5], 0⟩] scope pos) env) Q E s := by
  have hul : us.length = rows.length := by rw [hD.length, List.length_map]
  refine comp_pt (its := us.toArray) (fun i o => WayO ns rows i o) hh hclos hcell hkind hnames hx hx₂ (by decide +kernel) (hiter _ ⟨l, rfl, ⟨_, (N _ hl).1, rfl, nn, rfl⟩, by rw [List.size_toArray, hul, sizeLine_eq]; omega, fun i v hv => ?_, fun D h' tk os hDs hD0 hp hlen hF hk => ?_⟩) (fun _ => rfl)
  · have hi : i < us.length := by
      rcases Nat.lt_or_ge i us.length with h | h
      · exact h
      · rw [List.getElem?_toArray, List.getElem?_eq_none h] at hv; cases hv
    obtain ⟨v', hv', hin⟩ := hD.get (k := i) (by rw [← hD.length]; exact hi)
    rw [List.getElem?_toArray] at hv
    rw [hv] at hv'
    cases hv'
    have hi' : i < rows.length := by omega
    rw [List.getElem_map] at hin
    cases hin with
    | tuple hmem hall =>
      rename_i a ws k
      cases hall with
      | cons e1 r1 =>
        cases r1 with
        | cons e2 r2 =>
          cases r2
          cases e1
          cases e2
          refine ⟨a, _, _, rfl, ⟨_, (N _ (hled _ hmem)).1, rfl, k, rfl⟩, ?_⟩
          have hr := hrow _ (List.getElem_mem hi')
          exact turn_ways hI N hW hoc hcd hc hg hbn hmiss hbl Fr₀ h1 h2 h3 h4 h5 hr.1 hsz hr.2 (fun o ho => ⟨_, List.getElem?_eq_getElem hi', ho⟩)
  · obtain ⟨k, hk'⟩ := hp
    have hDL : D ≠ L := by
      rintro rfl
      obtain ⟨o, _, _, ho, _⟩ := Fr₀.ns
      rw [hD0] at ho
      cases ho
    refine hQ D h' tk _ k ⟨Fr₀.ns.at' fun o e => hk L o e, fun b o e => hk b o (Fr₀.keep b o e), Fr₀.above⟩ (fun p hp => ?_) (ways_all ns rows os (by rw [hlen, List.size_toArray, hul]) hF) (fun p hp => Nat.lt_of_lt_of_le (Heap.lt_size (N p hp).1) hDs)
    rcases List.mem_cons.mp hp with rfl | hp
    · refine ⟨hk', hDL, ?_⟩
      cases e : h₀.get? D with
      | none => rfl
      | some o => have := Fr₀.keep D o e; rw [hD0] at this; cases this
    · exact ⟨hk p.1 p.2 (N p hp).1, (N p hp).2⟩
end
end Mine
-- part Plain
namespace Mine
open PySem PySem.W PyProof.Rows
set_option maxRecDepth 100000
set_option maxHeartbeats 200000
/-- a row's body: dots, hyphen, word -/
def bodyL (d : Nat) (n : Int) : List Nat := List.replicate d 46 ++ ((if n < 0 then [45] else []) ++ (hexI n.natAbs).map Int.toNat)
/-- what may stand in a body -/
def InBody (c : Nat) : Prop := c = 46 ∨ c = 45 ∨ (65 ≤ c ∧ c ≤ 80)
theorem hexI_mem : ∀ (n : Nat), ∀ c ∈ (hexI n).map Int.toNat, 65 ≤ c ∧ c ≤ 80 := by
  intro n
  induction n using Nat.strongRecOn with
  | _ n ih =>
    intro c hc
    by_cases h0 : n = 0
    · rw [h0, hexI_zero] at hc; cases hc
    · rw [hexI_pos h0, List.map_append] at hc
      rcases List.mem_append.mp hc with h | h
      · exact ih (n / 16) (by omega) c h
      · simp at h; omega
theorem body_mem {d : Nat} {n : Int} : ∀ c ∈ bodyL d n, InBody c := by
  intro c hc
  unfold bodyL at hc
  rcases List.mem_append.mp hc with h | h
  · exact .inl (List.eq_of_mem_replicate h)
  · rcases List.mem_append.mp h with h | h
    · split at h
      · exact .inr (.inl (List.mem_singleton.mp h))
      · cases h
    · exact .inr (.inr (hexI_mem _ c h))
theorem inBody_nl {c : Nat} (h : InBody c) : nl c = false ∧ (c == 10) = false ∧ c ≠ 13 := by
  rcases h with rfl | rfl | h
  · exact ⟨by decide, by decide, by decide⟩
  · exact ⟨by decide, by decide, by decide⟩
  · refine ⟨?_, by simp; omega, by omega⟩
    simp [nl]; omega
theorem norm_body : ∀ (b r : List Nat), (∀ c ∈ b, InBody c) → norm (b ++ r) = b ++ norm r
  | [], r, _ => rfl
  | c :: b, r, h => by
    show norm (c :: (b ++ r)) = _
    rw [norm_no (inBody_nl (h c (by simp))).1, norm_body b r (fun c hc => h c (by simp [hc]))]
    rfl
/-- the three ends of a line -/
def IsEnd (e : List Nat) : Prop := e = [13] ∨ e = [10] ∨ e = [13, 10]
theorem norm_end {e r : List Nat} (he : IsEnd e) (hr : r.head? ≠ some 10) : norm (e ++ r) = 13 :: 10 :: norm r := by
  rcases he with rfl | rfl | rfl
  · exact norm_one (by decide) (fun h => hr h.2)
  · exact norm_one (by decide) (fun h => by cases h.1)
  · exact norm_pair
theorem stuff_no : ∀ (b r : List Nat), (∀ c ∈ b, InBody c) → stuff false (b ++ 13 :: 10 :: r) = b ++ 13 :: 10 :: stuff true r
  | [], r, _ => by simp [stuff]
  | c :: b, r, h => by
    show stuff false (c :: (b ++ 13 :: 10 :: r)) = _
    have h2 := (inBody_nl (h c (by simp))).2.1
    rw [stuff]
    simp only [Bool.false_and, Bool.false_eq_true, if_false, h2]
    rw [stuff_no b r (fun c hc => h c (by simp [hc]))]
    rfl
def bump (p : Nat × Int) : Nat × Int := (if p.1 = 0 then 0 else p.1 + 1, p.2)
theorem stuff_body (d : Nat) (n : Int) (r : List Nat) : stuff true (bodyL d n ++ 13 :: 10 :: r) = bodyL (bump (d, n)).1 (bump (d, n)).2 ++ 13 :: 10 :: stuff true r := by
  cases d with
  | zero =>
    show _ = bodyL 0 n ++ _
    have hm : ∀ c ∈ bodyL 0 n, InBody c ∧ c ≠ 46 := by
      intro c hc
      refine ⟨body_mem c hc, ?_⟩
      unfold bodyL at hc
      rcases List.mem_append.mp hc with h | h
      · cases h
      · rcases List.mem_append.mp h with h | h
        · split at h
          · rw [List.mem_singleton.mp h]; decide
          · cases h
        · have := hexI_mem _ c h; omega
    generalize bodyL 0 n = b at hm
    cases b with
    | nil => simp [stuff]
    | cons c b =>
      have h1 := hm c (by simp)
      have h2 := (inBody_nl h1.1).2.1
      have h3 : (c == 46) = false := by simpa using h1.2
      show stuff true (c :: (b ++ 13 :: 10 :: r)) = _
      rw [stuff]
      simp only [h3, Bool.and_false, Bool.false_eq_true, if_false, h2]
      rw [stuff_no b r (fun c hc => (hm c (by simp [hc])).1)]
      rfl
  | succ d =>
    have e : bodyL (d + 1) n = 46 :: bodyL d n := by unfold bodyL; rw [List.replicate_succ]; rfl
    have e2 : bodyL (bump (d + 1, n)).1 (bump (d + 1, n)).2 = 46 :: 46 :: bodyL d n := by
      show bodyL (if d + 1 = 0 then 0 else d + 1 + 1) n = _
      rw [if_neg (by omega)]
      unfold bodyL; rw [List.replicate_succ, List.replicate_succ]; rfl
    rw [e, e2]
    show stuff true (46 :: (bodyL d n ++ 13 :: 10 :: r)) = _
    rw [stuff]
    simp only [beq_self_eq_true, Bool.and_self, if_true]
    rw [stuff_no _ r body_mem]
    rfl
/-- a mail as it goes out -/
def linesL (rows : List (Nat × Int)) : List Nat := rows.flatMap fun p => bodyL p.1 p.2 ++ [13, 10]
/-- a mail with ends of any kind -/
def roughL (e : Nat × Int → List Nat) (rows : List (Nat × Int)) : List Nat := rows.flatMap fun p => bodyL p.1 p.2 ++ e p
theorem rough_head {e : Nat × Int → List Nat} {rows : List (Nat × Int)} (he : ∀ p ∈ rows, IsEnd (e p)) (h0 : ∀ p ∈ rows, (bodyL p.1 p.2 ++ e p).head? ≠ some 10) : (roughL e rows).head? ≠ some 10 := by
  cases rows with
  | nil => simp [roughL]
  | cons p rows =>
    have h := h0 p (by simp)
    have e1 : roughL e (p :: rows) = (bodyL p.1 p.2 ++ e p) ++ roughL e rows := by simp [roughL]
    rw [e1, List.head?_append]
    cases hb : (bodyL p.1 p.2 ++ e p) with
    | nil =>
      have he' := he p (by simp)
      have := List.append_eq_nil_iff.mp hb
      rcases he' with x | x | x <;> rw [x] at this <;> cases this.2
    | cons c b => rw [hb] at h; simpa using h
theorem quote_rough {e : Nat × Int → List Nat} : ∀ {rows : List (Nat × Int)}, (∀ p ∈ rows, IsEnd (e p)) → (∀ p ∈ rows, (bodyL p.1 p.2 ++ e p).head? ≠ some 10) → quoteL (roughL e rows) = linesL (rows.map bump)
  | [], _, _ => by simp [roughL, linesL, quoteL, norm, stuff]
  | p :: rows, he, h0 => by
    have ih := quote_rough (e := e) (rows := rows) (fun q hq => he q (.tail _ hq)) (fun q hq => h0 q (.tail _ hq))
    have hh := rough_head (e := e) (rows := rows) (fun q hq => he q (.tail _ hq)) (fun q hq => h0 q (.tail _ hq))
    have e1 : roughL e (p :: rows) = bodyL p.1 p.2 ++ (e p ++ roughL e rows) := by simp [roughL]
    have e2 : linesL ((p :: rows).map bump) = bodyL (bump p).1 (bump p).2 ++ 13 :: 10 :: linesL (rows.map bump) := by simp [linesL]
    rw [e1, e2, ← ih]
    unfold quoteL
    rw [norm_body _ _ body_mem, norm_end (he p (by simp)) hh]
    exact stuff_body p.1 p.2 _
theorem head_body {d : Nat} {n : Int} {e : List Nat} (h : d ≠ 0 ∨ e = [13] ∨ e = [13, 10]) : (bodyL d n ++ e).head? ≠ some 10 := by
  rw [List.head?_append]
  cases hb : bodyL d n with
  | nil =>
    rcases h with h | rfl | rfl
    · unfold bodyL at hb
      have := (List.append_eq_nil_iff.mp hb).1
      cases d with
      | zero => exact absurd rfl h
      | succ d => rw [List.replicate_succ] at this; cases this
    · simp
    · simp
  | cons c b =>
    have := (inBody_nl (body_mem c (by rw [hb]; simp))).2.1
    simp at this ⊢
    exact this
theorem quote_lines (rows : List (Nat × Int)) : quoteL (linesL rows) = linesL (rows.map bump) :=
  quote_rough (e := fun _ => [13, 10]) (fun _ _ => .inr (.inr rfl)) (fun _ _ => head_body (.inr (.inr rfl)))

/-- what the varints of a tape are: b: within a number -/
def hear : Bool → Int → List Nat → List Int
  | _, _, [] => []
  | false, _, c :: r => if c / 64 % 2 = 1 then hear true ((c % 64 : Nat) : Int) r else ((c % 64 : Nat) : Int) :: hear false 0 r
  | true, v, c :: r => if c / 64 % 2 = 1 then hear true (v * 64 + ((c % 64 : Nat) : Int)) r else (v * 64 + ((c % 64 : Nat) : Int)) :: hear false 0 r
/-- the word of a number -/
def wv (n : Nat) : Nat := if h : n = 0 then 0 else wv (n / 16) * 64 + (n % 16 + 1)
termination_by n
decreasing_by omega
theorem wv_zero : wv 0 = 0 := by rw [wv]; rfl
theorem wv_pos {n : Nat} (h : n ≠ 0) : wv n = wv (n / 16) * 64 + (n % 16 + 1) := by rw [wv, dif_neg h]
theorem sizeN_wv : ∀ n : Nat, sizeN (wv n) = n := by
  intro n
  induction n using Nat.strongRecOn with
  | _ n ih =>
    by_cases h0 : n = 0
    · rw [h0, wv_zero, sizeN_zero]; rfl
    · rw [wv_pos h0, sizeN_pos (by omega)]
      have e1 : (wv (n / 16) * 64 + (n % 16 + 1)) / 64 = wv (n / 16) := by omega
      have e2 : (wv (n / 16) * 64 + (n % 16 + 1)) % 64 = n % 16 + 1 := by omega
      rw [e1, e2, ih (n / 16) (by omega)]
      omega
theorem hear_word : ∀ (ls r : List Nat) (v : Int), (∀ c ∈ ls, 65 ≤ c ∧ c ≤ 80) → hear true v (ls ++ 13 :: r) = (ls.foldl (fun v c => v * 64 + ((c % 64 : Nat) : Int)) v * 64 + 13) :: hear false 0 r
  | [], r, v, _ => by simp [hear]
  | c :: ls, r, v, h => by
    have hc := h c (by simp)
    show hear true v (c :: (ls ++ 13 :: r)) = _
    rw [hear, if_pos (by omega), hear_word ls r _ (fun c hc => h c (by simp [hc]))]
    rfl
theorem hear_word0 (ls r : List Nat) (v : Int) (h : ∀ c ∈ ls, 65 ≤ c ∧ c ≤ 80) : hear false v (ls ++ 13 :: r) = (ls.foldl (fun v c => v * 64 + ((c % 64 : Nat) : Int)) 0 * 64 + 13) :: hear false 0 r := by
  cases ls with
  | nil => simp [hear]
  | cons c ls =>
    have hc := h c (by simp)
    show hear false v (c :: (ls ++ 13 :: r)) = _
    rw [hear, if_pos (by omega), hear_word ls r _ (fun c hc => h c (by simp [hc]))]
    simp
theorem fold_word : ∀ n : Nat, ((hexI n).map Int.toNat).foldl (fun v c => v * 64 + ((c % 64 : Nat) : Int)) 0 = (wv n : Int) := by
  intro n
  induction n using Nat.strongRecOn with
  | _ n ih =>
    by_cases h0 : n = 0
    · rw [h0, hexI_zero, wv_zero]; rfl
    · rw [hexI_pos h0, wv_pos h0, List.map_append, List.foldl_append, ih (n / 16) (by omega)]
      simp only [List.map_cons, List.map_nil, List.foldl_cons, List.foldl_nil]
      omega
theorem hear_dots : ∀ (d : Nat) (r : List Nat) (v : Int), hear false v (List.replicate d 46 ++ r) = List.replicate d 46 ++ hear false (if d = 0 then v else 0) r
  | 0, r, v => by simp
  | d + 1, r, v => by
    rw [List.replicate_succ, List.replicate_succ]
    show hear false v (46 :: (List.replicate d 46 ++ r)) = _
    rw [hear, if_neg (by decide), hear_dots d r 0]
    simp
theorem hear_zero (v : Int) (r : List Nat) : hear false v r = hear false 0 r := by cases r <;> simp [hear]
/-- what one row of a mail tells -/
def toldL (d : Nat) (n : Int) : List Int := List.replicate d 46 ++ ((if n < 0 then [45] else []) ++ [(wv n.natAbs : Int) * 64 + 13, 10])
theorem hear_row (d : Nat) (n : Int) (r : List Nat) (v : Int) : hear false v (bodyL d n ++ 13 :: 10 :: r) = toldL d n ++ hear false 0 r := by
  unfold bodyL toldL
  rw [List.append_assoc, hear_dots, hear_zero, List.append_assoc]
  have key : hear false 0 ((hexI n.natAbs).map Int.toNat ++ 13 :: 10 :: r) = [(wv n.natAbs : Int) * 64 + 13, 10] ++ hear false 0 r := by
    rw [hear_word0 _ _ _ (hexI_mem _), fold_word]
    simp [hear]
  have key2 : hear false 0 (((if n < 0 then [45] else []) ++ (hexI n.natAbs).map Int.toNat) ++ 13 :: 10 :: r) = (if n < 0 then [45] else []) ++ ([(wv n.natAbs : Int) * 64 + 13, 10] ++ hear false 0 r) := by
    by_cases h : n < 0
    · rw [if_pos h, if_pos h, ← key]
      show hear false 0 (45 :: ((hexI n.natAbs).map Int.toNat ++ 13 :: 10 :: r)) = _
      rw [hear, if_neg (by decide)]
      rfl
    · rw [if_neg h, if_neg h, ← key]; rfl
  rw [List.append_assoc] at key2
  rw [key2]
  simp
theorem hear_lines : ∀ rows : List (Nat × Int), hear false 0 (linesL rows) = rows.flatMap fun p => toldL p.1 p.2
  | [] => by simp [linesL, hear]
  | p :: rows => by
    have e : linesL (p :: rows) = bodyL p.1 p.2 ++ 13 :: 10 :: linesL rows := by simp [linesL]
    rw [e, hear_row, hear_lines rows]
    simp
theorem told_good (d : Nat) (n : Int) : AllGood (toldL d n) := by
  intro x hx
  unfold toldL at hx
  rcases List.mem_append.mp hx with h | h
  · rw [List.eq_of_mem_replicate h]; exact ⟨by decide, .inl rfl⟩
  · rcases List.mem_append.mp h with h | h
    · split at h
      · rw [List.mem_singleton.mp h]; exact ⟨by decide, .inr (.inl rfl)⟩
      · cases h
    · simp at h
      rcases h with rfl | rfl
      · exact ⟨by omega, .inr (.inr (.inr (by rw [Int.fmod_eq_emod_of_nonneg _ (by decide)]; omega)))⟩
      · exact ⟨by decide, .inr (.inr (.inl rfl))⟩
theorem lines_good (rows : List (Nat × Int)) : AllGood (hear false 0 (linesL rows)) := by
  rw [hear_lines]
  intro x hx
  obtain ⟨p, _, h⟩ := List.mem_flatMap.mp hx
  exact told_good _ _ x h
theorem fold_dots : ∀ (k : Nat) (out : List (Int × Int)) (d t z : Int), (List.replicate k (46 : Int)).foldl rowsStep (out, d, t, z) = (out, d + k, t, z)
  | 0, out, d, t, z => by simp
  | k + 1, out, d, t, z => by
    rw [List.replicate_succ, List.foldl_cons]
    have e : rowsStep (out, d, t, z) 46 = (out, d + 1, t, z) := by simp [rowsStep]
    rw [e, fold_dots k]
    congr 2
    omega
theorem fold_told (d : Nat) (n : Int) (out : List (Int × Int)) : (toldL d n).foldl rowsStep (out, 0, 1, 0) = (out ++ [((d : Int), n)], 0, 1, 0) := by
  unfold toldL
  rw [List.foldl_append, fold_dots, List.foldl_append]
  have e1 : (if n < 0 then [(45 : Int)] else []).foldl rowsStep (out, 0 + (d : Int), 1, 0) = (out, (d : Int), if n < 0 then -1 else 1, 0) := by
    by_cases h : n < 0
    · simp [h, rowsStep]
    · simp [h]
  rw [e1]
  simp only [List.foldl_cons, List.foldl_nil]
  have e2 : ∀ t : Int, rowsStep (out, (d : Int), t, 0) ((wv n.natAbs : Int) * 64 + 13) = (out, (d : Int), t, (n.natAbs : Int)) := by
    intro t
    unfold rowsStep
    rw [if_neg (by omega), if_neg (by omega), if_neg (by omega)]
    have : (((wv n.natAbs : Int) * 64 + 13).fdiv 64).toNat = wv n.natAbs := by
      rw [Int.fdiv_eq_ediv_of_nonneg _ (by decide)]; omega
    rw [this, sizeN_wv]
  rw [e2]
  simp only [rowsStep]
  rw [if_neg (by decide), if_neg (by decide), if_pos trivial]
  have : (if n < 0 then (-1 : Int) else 1) * (n.natAbs : Int) = n := by split <;> omega
  rw [this]
theorem rows_lines (rows : List (Nat × Int)) : (rowsOf (hear false 0 (linesL rows))).1 = rows.map fun p => ((p.1 : Int), p.2) := by
  have key : ∀ (rows : List (Nat × Int)) (out : List (Int × Int)), (rows.flatMap fun p => toldL p.1 p.2).foldl rowsStep (out, 0, 1, 0) = (out ++ rows.map fun p => ((p.1 : Int), p.2), 0, 1, 0) := by
    intro rows
    induction rows with
    | nil => intro out; simp
    | cons p rows ih =>
      intro out
      rw [List.flatMap_cons, List.foldl_append, fold_told, ih]
      simp
  unfold rowsOf
  rw [hear_lines, key]
  simp
end Mine
-- part Iter
namespace Mine
open PySem PySem.W PyProof.Rows PySem.Spec PySem.Calls
set_option maxRecDepth 100000
set_option maxHeartbeats 200000
section
variable {prog : Program} {w : World} {A : Around} {E : Value → Shared → Prop} {s : Shared}
theorem list_iter {l : Addr} {items : Array Value} {Q : Value → Shared → Prop} (hl : s.heap.IsList l items)
    (h : Q (.ref s.heap.objs.size) { s with heap := s.heap.push { cls := .type "list_iterator", data := .fields #[.ref l, .int 0 0] } }) :
    wpAny (model prog w) A (call (.builtin "iter") [.ref l]) Q E s := by
  refine call_function_entry (by decide +kernel) (by decide +kernel) kdk_entry_iter (kdk_args_iter _) ?_
  unfold Builtin.«iter»
  refine wpAny_bind (m := someArgs "iter" 1 2 _) (wpAny_of_eq (a := [Value.ref l]) (by first | rfl | kernel_rfl!) ?_)
  show wpAny _ _ (pyIter (.ref l) >>= _) _ _ _
  refine wpAny_bind (wpAny_pyIter_list hl ?_)
  exact wpAny_pure ⟨_, rfl, h⟩
theorem special_item {it l : Addr} {i : Nat} {items : Array Value} {x : Value} {Q : Option Value → Shared → Prop} (hit : s.heap.IsListIter it l i) (hl : s.heap.IsList l items) (hx : items[i]? = some x)
    (hQ : ∀ h', h'.IsListIter it l (i + 1) → Heap.SameBut it s.heap h' → Q (some x) { s with heap := h' }) :
    wpAny (model prog w) A (callSpecial? (.ref it) (Str.ofString "__next__")) Q E s := by
  obtain ⟨o, ho, hc, hd⟩ := id hit
  obtain ⟨ol, hol, _, nl, hdl⟩ := hl
  refine wpAny_callSpecial?_slot (name := Str.ofString "__next__") hit.typeIs slot_listiter_next
    (wpAny_call_entry slot_listiter_next hit.typeIs entry_listiter_next ?_ (args_listiter_next _))
  show wpAny _ _ (field (.ref it) 0 >>= _) _ _ s
  refine wpAny_bind (wpAny_field ho hd (x := .ref l) rfl ?_)
  show wpAny _ _ (if (Value.ref l == Value.none) = true then _ else _) _ _ s
  rw [if_neg (show ¬ ((Value.ref l == Value.none) = true) from Bool.false_ne_true)]
  show wpAny _ _ (field (.ref it) 1 >>= _) _ _ s
  refine wpAny_bind (wpAny_field ho hd (x := .int i 0) rfl ?_)
  show wpAny _ _ (seqItems? (.ref l) >>= _) _ _ s
  refine wpAny_bind (wpAny_seqItems hol hdl ?_)
  simp only [Int.toNat_natCast, hx]
  refine wpAny_bind (wpAny_setField ho hd (by simp) (wpAny_pure ⟨x, rfl, hQ _ ?_ (Heap.SameBut.update ..)⟩))
  exact ⟨_, Heap.get?_update_self _ ho (Obj.isFreed_of_fields (Obj.data_mapFields hd _)), (Obj.cls_mapFields ..).trans hc, by
    rw [Obj.data_mapFields hd]; simp [rawInt]⟩
theorem special_end {it l : Addr} {i : Nat} {items : Array Value} {Q : Option Value → Shared → Prop} (hh : A.handled = none) (hit : s.heap.IsListIter it l i) (hl : s.heap.IsList l items) (hx : items[i]? = none)
    (hQ : ∀ h' (e : Addr) o, Heap.ExtBut it s.heap h' → s.heap.objs.size ≤ e → h'.get? e = some o → o.cls = .type "StopIteration" → E (.ref e) { s with heap := h' }) :
    wpAny (model prog w) A (callSpecial? (.ref it) (Str.ofString "__next__")) Q E s := by
  obtain ⟨o, ho, hc, hd⟩ := id hit
  obtain ⟨ol, hol, _, nl, hdl⟩ := hl
  refine wpAny_callSpecial?_slot (name := Str.ofString "__next__") hit.typeIs slot_listiter_next
    (wpAny_call_entry slot_listiter_next hit.typeIs entry_listiter_next ?_ (args_listiter_next _))
  show wpAny _ _ (field (.ref it) 0 >>= _) _ _ s
  refine wpAny_bind (wpAny_field ho hd (x := .ref l) rfl ?_)
  show wpAny _ _ (if (Value.ref l == Value.none) = true then _ else _) _ _ s
  rw [if_neg (show ¬ ((Value.ref l == Value.none) = true) from Bool.false_ne_true)]
  show wpAny _ _ (field (.ref it) 1 >>= _) _ _ s
  refine wpAny_bind (wpAny_field ho hd (x := .int i 0) rfl ?_)
  show wpAny _ _ (seqItems? (.ref l) >>= _) _ _ s
  refine wpAny_bind (wpAny_seqItems hol hdl ?_)
  simp only [Int.toNat_natCast, hx]
  refine wpAny_bind (wpAny_rule (wpAny_bind (wpAny_setField ho hd (by simp) ?_)))
  show wpAny _ _ (newExc (.type "StopIteration") [] >>= _) _ _ _
  refine wpAny_bind ?_
  simp only [newExc, newTuple]
  refine wpAny_bind (wpAny_newObj_type ?_ (by size_fits))
  refine wpAny_bind (m := firstArgMember _ _) (wpAny_of_eq (a := Value.none) (by first | rfl | (simp only [firstArgMember]; rfl)) ?_)
  refine wpAny_newObj_type ?_ (by size_fits)
  simp only [raiseNew]
  refine wpAny_bind (wpAny_handled ?_)
  rw [show A.in1.handled = none from hh]
  refine wpAny_bind (wpAny_pure (wpAny_throw ?_))
  refine hQ _ _ _ (((Heap.SameBut.update ..).extBut.push _).push _) ?_ (Heap.get?_push_size _ rfl) rfl
  show s.heap.objs.size ≤ _
  simp [Heap.size_push]
theorem next_item {it l : Addr} {i : Nat} {items : Array Value} {x : Value} {Q : Value → Shared → Prop} (hit : s.heap.IsListIter it l i) (hl : s.heap.IsList l items) (hx : items[i]? = some x)
    (hQ : ∀ h', h'.IsListIter it l (i + 1) → Heap.SameBut it s.heap h' → Q x { s with heap := h' }) : wpAny (model prog w) A (call (.builtin "next") [.ref it]) Q E s := by
  refine call_function_entry (by decide +kernel) (by decide +kernel) kdk_entry_next (kdk_args_next _) ?_
  unfold Builtin.«next»
  refine wpAny_bind (m := someArgs "next" 1 2 _) (wpAny_of_eq (a := [Value.ref it]) (by first | rfl | kernel_rfl!) ?_)
  dsimp only
  refine wpAny_bind (wpAny_specialOf (name := Str.ofString "__next__") hit.typeIs slot_listiter_next.lookup ?_)
  refine wpAny_ite_split (fun hab => absurd hab (by decide)) (fun _ => ?_)
  exact wpAny_bind (special_item hit hl hx fun h' hit' hs => wpAny_pure ⟨_, rfl, hQ h' hit' hs⟩)
theorem next_end {it l : Addr} {i : Nat} {items : Array Value} {Q : Value → Shared → Prop} (hh : A.handled = none) (hit : s.heap.IsListIter it l i) (hl : s.heap.IsList l items) (hx : items[i]? = none)
    (hQ : ∀ h' (e : Addr) o, Heap.ExtBut it s.heap h' → s.heap.objs.size ≤ e → h'.get? e = some o → o.cls = .type "StopIteration" → E (.ref e) { s with heap := h' }) : wpAny (model prog w) A (call (.builtin "next") [.ref it]) Q E s := by
  refine call_function_entry (by decide +kernel) (by decide +kernel) kdk_entry_next (kdk_args_next _) ?_
  unfold Builtin.«next»
  refine wpAny_bind (m := someArgs "next" 1 2 _) (wpAny_of_eq (a := [Value.ref it]) (by first | rfl | kernel_rfl!) ?_)
  dsimp only
  refine wpAny_bind (wpAny_specialOf (name := Str.ofString "__next__") hit.typeIs slot_listiter_next.lookup ?_)
  refine wpAny_ite_split (fun hab => absurd hab (by decide)) (fun _ => ?_)
  exact wpAny_bind (special_end hh hit hl hx hQ)
end
end Mine
-- part RngInv
namespace Mine
open PySem PySem.W PyProof.Rows PySem.Calls
set_option maxRecDepth 100000
set_option maxHeartbeats 200000
section
variable {prog : Program} {w : World} {A : Around} {E : Value → Shared → Prop} {s : Shared} {env : Env} {h₀ : Heap} {x : PySem.Str} {body : List Stmt} {Q : Flow → Shared → Prop}
/-- what stands behind a turn -/
def RiRest (J : Nat → List (Addr × Obj) → Prop) (x : PySem.Str) (I : Addr) (m₀ : PySem.Str → Option Value) (i : Nat) (m' : PySem.Str → Option Value) (nx : List (Addr × Obj)) : Prop :=
  (∃ u, m' = fun y => if y = x then u else m₀ y) ∧ J i nx ∧ ∀ p ∈ nx, p.1 ≠ I
theorem ri_all {I : Addr} {a : Int} {n : Nat} {m₀ : PySem.Str → Option Value} (J : Nat → List (Addr × Obj) → Prop)
    (turn : ∀ i t nx h tk, i < n → J i nx → (∀ p ∈ nx, p.1 ≠ I) → Fr h₀ env.locals h (fun y => if y = x then some (.int (a + (i : Int)) t) else m₀ y) →
      News h₀ env.locals h ((I, itR (a + ((i + 1 : Nat) : Int)) ((n : Int) - ((i + 1 : Nat) : Int))) :: nx) →
      wpAny (model prog w) A (execs body env) (UnrPost h₀ env.locals { s with heap := h, toks := tk } I (itR (a + ((i + 1 : Nat) : Int)) ((n : Int) - ((i + 1 : Nat) : Int))) (RiRest J x I m₀ (i + 1)) Q) E { s with heap := h, toks := tk })
    (done : ∀ u nx h tk, J n nx → Fr h₀ env.locals h (fun y => if y = x then u else m₀ y) → News h₀ env.locals h nx → Q .next { s with heap := h, toks := tk }) :
    ∀ (k i : Nat) (m : PySem.Str → Option Value) (nx : List (Addr × Obj)), i + k = n → RiRest J x I m₀ i m nx → RangeRest prog w A E h₀ env x body Q s I a n k i m nx
  | 0, i, m, nx, hi, ⟨⟨u, hm⟩, hJ, _⟩ => RangeRest.zero fun h tk F N => by
    subst hm
    have : i = n := by omega
    subst this
    exact done u nx h tk hJ F N
  | k + 1, i, m, nx, hi, ⟨⟨u, hm⟩, hJ, hoff⟩ => RangeRest.succ fun t h tk F N => by
    subst hm
    have e : (fun y => if y = x then some (Value.int (a + (i : Int)) t) else (if y = x then u else m₀ y)) = fun y => if y = x then some (Value.int (a + (i : Int)) t) else m₀ y := by
      funext y
      by_cases hy : y = x
      · simp [hy]
      · simp [hy]
    rw [e] at F
    refine wpAny_mono (turn i t nx h tk (by omega) hJ hoff F N) (fun f s₂ p => ?_) fun _ _ e => e
    have fin : UnrEnd h₀ env.locals { s with heap := h, toks := tk } I (itR (a + ((i + 1 : Nat) : Int)) ((n : Int) - ((i + 1 : Nat) : Int))) (RiRest J x I m₀ (i + 1)) s₂ →
        UnrEnd h₀ env.locals { s with heap := h, toks := tk } I (itR (a + ((i + 1 : Nat) : Int)) ((n : Int) - ((i + 1 : Nat) : Int))) (RangeRest prog w A E h₀ env x body Q s I a n k (i + 1)) s₂ := by
      rintro ⟨h', tk', m', news', e, F', N', ho, r⟩
      exact ⟨h', tk', m', news', e, F', N', ho, ri_all J turn done k (i + 1) m' news' (by omega) r⟩
    cases f with
    | ret v => exact p
    | brk => exact p
    | next => exact fin p
    | cont => exact fin p
theorem range_inv {r : Addr} {a₀ b₀ : Int} {t₀ u₀ v₀ : Tok} {n : Nat} {m₀ : PySem.Str → Option Value} {news : List (Addr × Obj)} (J : Nat → List (Addr × Obj) → Prop)
    (hh : A.handled = none) (hr : IsRange s.heap r a₀ b₀ 1 t₀ u₀ v₀) (hsmall : Builtin.Range.small a₀ b₀ 1 = true) (hn : Builtin.Range.rangeSize a₀ b₀ 1 = (n : Int)) (F : Fr h₀ env.locals s.heap m₀) (N : News h₀ env.locals s.heap news) (hj : J 0 news)
    (turn : ∀ I i t nx h tk, i < n → J i nx → (∀ p ∈ nx, p.1 ≠ I) → Fr h₀ env.locals h (fun y => if y = x then some (.int (a₀ + (i : Int)) t) else m₀ y) →
      News h₀ env.locals h ((I, itR (a₀ + ((i + 1 : Nat) : Int)) ((n : Int) - ((i + 1 : Nat) : Int))) :: nx) →
      wpAny (model prog w) A (execs body env) (UnrPost h₀ env.locals { s with heap := h, toks := tk } I (itR (a₀ + ((i + 1 : Nat) : Int)) ((n : Int) - ((i + 1 : Nat) : Int))) (RiRest J x I m₀ (i + 1)) Q) E { s with heap := h, toks := tk })
    (done : ∀ u nx h tk, J n nx → Fr h₀ env.locals h (fun y => if y = x then u else m₀ y) → News h₀ env.locals h nx → Q .next { s with heap := h, toks := tk }) :
    wpAny (model prog w) A (pyIter (.ref r)) (fun it s₂ => LoopAtV prog w A h₀ env x body Q E it s₂) E s := by
  refine iter_rangeUnr hh hr hsmall hn F N fun I hI => ?_
  refine ri_all J (fun i t nx h tk hi hJ ho F' N' => turn I i t nx h tk hi hJ ho F' N') done n 0 m₀ news (by omega) ⟨⟨m₀ x, ?_⟩, hj, fun p hp => Nat.ne_of_lt (hI p hp)⟩
  funext y
  by_cases hy : y = x
  · simp [hy]
  · simp [hy]
theorem range_inv0 {r : Addr} {t₀ u₀ v₀ : Tok} {n : Nat} {m₀ : PySem.Str → Option Value} {news : List (Addr × Obj)} (J : Nat → List (Addr × Obj) → Prop)
    (hh : A.handled = none) (hr : IsRange s.heap r 0 (n : Int) 1 t₀ u₀ v₀) (hsmall : Builtin.Range.small 0 (n : Int) 1 = true) (hn : Builtin.Range.rangeSize 0 (n : Int) 1 = (n : Int)) (F : Fr h₀ env.locals s.heap m₀) (N : News h₀ env.locals s.heap news) (hj : J 0 news)
    (turn : ∀ I i t nx h tk, i < n → J i nx → (∀ p ∈ nx, p.1 ≠ I) → Fr h₀ env.locals h (fun y => if y = x then some (.int (i : Int) t) else m₀ y) →
      (∀ it, News h₀ env.locals h ((I, it) :: nx) →
      wpAny (model prog w) A (execs body env) (UnrPost h₀ env.locals { s with heap := h, toks := tk } I it (RiRest J x I m₀ (i + 1)) Q) E { s with heap := h, toks := tk }))
    (done : ∀ u nx h tk, J n nx → Fr h₀ env.locals h (fun y => if y = x then u else m₀ y) → News h₀ env.locals h nx → Q .next { s with heap := h, toks := tk }) :
    wpAny (model prog w) A (pyIter (.ref r)) (fun it s₂ => LoopAtV prog w A h₀ env x body Q E it s₂) E s := by
  refine range_inv J hh hr hsmall hn F N hj (fun I i t nx h tk hi hJ ho F' N' => ?_) done
  rw [Int.zero_add] at F'
  exact turn I i t nx h tk hi hJ ho F' _ N'
theorem range_size0 (n : Nat) : Builtin.Range.rangeSize 0 (n : Int) 1 = (n : Int) := by
  unfold Builtin.Range.rangeSize
  rw [if_pos (by decide)]
  by_cases h : (0 : Int) < n
  · rw [if_pos h, Int.ediv_one]; omega
  · rw [if_neg h]; omega
theorem range_small0 {n : Nat} (h : n ≤ 1000) : Builtin.Range.small 0 (n : Int) 1 = true := by
  have fits : ∀ i : Int, -1000 ≤ i → i ≤ 1000 → Builtin.Range.rangeFitsLong i = true := by
    intro i h1 h2
    unfold Builtin.Range.rangeFitsLong
    simp
    omega
  unfold Builtin.Range.small
  rw [range_size0, fits 0 (by decide) (by decide), fits n (by omega) (by omega), fits 1 (by decide) (by decide), if_pos (by decide), fits _ (by omega) (by omega)]
  simp
end
end Mine
-- part Diff
namespace Mine
open PySem PySem.W PyProof.Rows
set_option maxRecDepth 100000
set_option maxHeartbeats 1000000
theorem fillD : (PySem.Challenge.rw_tx0001_01.writes = false ∧ ∀ P, hd.heap_39 P = hd.heap_39 P) := by
  w_top off
  k_with_none
  k_fill
  exact ⟨rfl, fun _ => rfl⟩
/-- the steps of a list of numbers -/
def stepsOf (ns : List Int) : List Int := (rangeKs 1 (ns.length - 1)).map (dif ns)
theorem stepsOf_len (ns : List Int) : (stepsOf ns).length = ns.length - 1 := by
  unfold stepsOf
  rw [List.length_map, rangeKs_length]
/-- the first of a list, of its steps, of their steps -/
def diffsL : Nat → List Int → List Int
  | 0, _ => []
  | _ + 1, [] => []
  | k + 1, a :: r => a :: diffsL k (stepsOf (a :: r))
def diffsOf (ns : List Int) : List Int := diffsL ns.length ns
theorem diffsOf_nil : diffsOf [] = [] := rfl
theorem diffsOf_cons (a : Int) (r : List Int) : diffsOf (a :: r) = a :: diffsOf (stepsOf (a :: r)) := by
  unfold diffsOf
  rw [stepsOf_len]
  rfl
def DifJ (FF C l : Addr) (us : List Value) (nn : Nat) (ns₀ : List Int) (news : List (Addr × Obj)) (n : Nat) (nx : List (Addr × Obj)) : Prop :=
  ∃ (vs fs : List Value) (ns gs : List Int) (kv kf : Nat) (W : Addr) (oc : Obj), nx = (W, listOf vs.toArray kv) :: (FF, listOf fs.toArray kf) :: (C, oc) :: (l, listOf us.toArray nn) :: news ∧ oc.data = .cell (some (.ref W)) ∧
    IntsAre vs ns ∧ IntsAre fs gs ∧ gs ++ diffsOf ns = diffsOf ns₀ ∧ n = ns.length ∧ ns.length ≤ 1000 ∧ gs.length + ns.length ≤ 1000 ∧ @Ne Nat W FF ∧ @Ne Nat W C
theorem range_size1 {k n : Nat} (h : k = n + 1) : Builtin.Range.rangeSize 1 (k : Int) 1 = (n : Int) := by
  unfold Builtin.Range.rangeSize
  rw [if_pos (by decide)]
  by_cases h' : (1 : Int) < k
  · rw [if_pos h', Int.ediv_one]; omega
  · rw [if_neg h']; omega
theorem range_small1 {k : Nat} (h : k ≤ 1000) : Builtin.Range.small 1 (k : Int) 1 = true := by
  have fits : ∀ i : Int, -1000 ≤ i → i ≤ 1000 → Builtin.Range.rangeFitsLong i = true := by
    intro i h1 h2
    unfold Builtin.Range.rangeFitsLong
    simp
    omega
  unfold Builtin.Range.small
  cases k with
  | zero => decide
  | succ n =>
    rw [range_size1 (n := n) rfl, fits 1 (by decide) (by decide), fits (n + 1 : Nat) (by omega) (by omega), fits n (by omega) (by omega), if_pos (by decide), fits _ (by omega) (by omega)]
    simp
section
variable {prog : Program} {w : World} {A : Around} {E : Value → Shared → Prop} {s : Shared} {env : Env} {h₀ : Heap} {L : Addr} {body : List Stmt} {test : PySem.Expr} {pos : Pos} {Q : Flow → Shared → Prop}
def DifM (m₀ : PySem.Str → Option Value) (FF C l : Addr) (us : List Value) (nn : Nat) (ns₀ : List Int) (news : List (Addr × Obj)) (n : Nat) (m : PySem.Str → Option Value) (nx : List (Addr × Obj)) : Prop :=
  m = m₀ ∧ DifJ FF C l us nn ns₀ news n nx
theorem diff_loop {FF C l : Addr} {nn kf : Nat} {us : List Value} {ns₀ : List Int} {m₀ : PySem.Str → Option Value} {news : List (Addr × Obj)} {oc : Obj}
    (F : Fr h₀ L s.heap m₀) (N : News h₀ L s.heap ((FF, listOf #[] kf) :: (C, oc) :: (l, listOf us.toArray nn) :: news)) (hd : oc.data = .cell (some (.ref l))) (hI : IntsAre us ns₀) (hl : ns₀.length ≤ 1000) (n1 : @Ne Nat l FF) (n2 : @Ne Nat l C)
    (turn : ∀ (a : Int) (t : Tok) (vs fs : List Value) (ns gs : List Int) (kv kf : Nat) (W : Addr) (oc : Obj) (h : Heap) (tk : Nat), oc.data = .cell (some (.ref W)) → IntsAre fs gs → IntsAre (.int a t :: vs) (a :: ns) → gs ++ diffsOf (a :: ns) = diffsOf ns₀ →
      (a :: ns).length ≤ 1000 → (a :: ns).length = ns.length + 1 → ns.length ≤ 1000 → (a :: ns).length ≤ 100000 → fs.length ≤ 1000 → gs.length + (a :: ns).length ≤ 1000 → @Ne Nat W FF → @Ne Nat W C →
      Fr h₀ L h m₀ → News h₀ L h ((W, listOf (Value.int a t :: vs).toArray kv) :: (FF, listOf fs.toArray kf) :: (C, oc) :: (l, listOf us.toArray nn) :: news) →
      wpAny (model prog w) A (isTrue test env (eval test env)) (fun b s₂ =>
        if b = true then wpAny (model prog w) A (execs body env) (WhileStep h₀ L s (DifM m₀ FF C l us nn ns₀ news) (ns.length + 1)) E s₂ else Q .next s₂) E { s with heap := h, toks := tk })
    (done : ∀ (fs : List Value) (kv kf : Nat) (W : Addr) (oc : Obj) (h : Heap) (tk : Nat), oc.data = .cell (some (.ref W)) → IntsAre fs (diffsOf ns₀) → IntsAre [] [] → @Ne Nat W FF → @Ne Nat W C →
      Fr h₀ L h m₀ → News h₀ L h ((W, listOf #[] kv) :: (FF, listOf fs.toArray kf) :: (C, oc) :: (l, listOf us.toArray nn) :: news) →
      wpAny (model prog w) A (isTrue test env (eval test env)) (fun b s₂ =>
        if b = true then wpAny (model prog w) A (execs body env) (WhileStep h₀ L s (DifM m₀ FF C l us nn ns₀ news) 0) E s₂ else Q .next s₂) E { s with heap := h, toks := tk })
    (hE : PassesOwn (model prog w) A env E := by passes_own) :
    wpAny (model prog w) A (exec (.While test body [] pos) env) Q E s := by
  have N' : News h₀ L s.heap ((l, listOf us.toArray nn) :: (FF, listOf #[] kf) :: (C, oc) :: (l, listOf us.toArray nn) :: news) := by
    intro p hp
    rcases List.mem_cons.mp hp with rfl | hp
    · exact N _ (.tail _ (.tail _ (.head _)))
    · exact N p hp
  refine While_inv (DifM m₀ FF C l us nn ns₀ news) (n₀ := ns₀.length) F N' ⟨rfl, us, [], ns₀, [], nn, kf, l, oc, rfl, hd, hI, .nil, rfl, rfl, hl, by simpa using hl, n1, n2⟩ (fun n m₁ nx h tk F₁ N₁ hJ => ?_) hE
  obtain ⟨rfl, vs, fs, ns, gs, kv, kf, W, oc, rfl, hcd, hv, hg, he, rfl, hb, hb2, l1, l2⟩ := hJ
  have e2 := hg.length
  have e3 := hv.length
  cases hv with
  | nil =>
    rw [diffsOf_nil, List.append_nil] at he
    rw [← he] at done
    exact done fs kv kf W oc h tk hcd hg .nil l1 l2 F₁ N₁
  | cons a t hv =>
    have e4 := hv.length
    rw [List.length_cons] at hb hb2
    exact turn a t _ fs _ gs kv kf W oc h tk hcd hg (.cons a t hv) he hb rfl (by omega) (by simp; omega) (by omega) (by simp; omega) l1 l2 F₁ N₁
end
theorem dif_end {h₀ h' : Heap} {L FF C l W' : Addr} {oc : Obj} {q1 q2 : Addr × Obj} {us ys fs : List Value} {ns₀ ns gs : List Int} {a : Int} {nn kf tk : Nat} {t : Tok} {news : List (Addr × Obj)} {s : Shared} {m₀ : PySem.Str → Option Value}
    (F : Fr h₀ L h' m₀) (N : News h₀ L h' ((W', LCg.lst ys) :: q1 :: q2 :: (FF, listOf (fs.toArray.push (.int ((a :: ns).getD (Int.toNat 0) 0) t)) kf) :: (C, oc) :: (l, listOf us.toArray nn) :: news))
    (hd : oc.data = .cell (some (.ref W'))) (hg : IntsAre fs gs) (he : gs ++ diffsOf (a :: ns) = diffsOf ns₀) (hy : IntsAre ys ((rangeKs 1 ns.length).map (dif (a :: ns)))) (hb : gs.length + (a :: ns).length ≤ 1000) (n1 : @Ne Nat W' FF) (n2 : @Ne Nat W' C) :
    WhileStep h₀ L s (DifM m₀ FF C l us nn ns₀ news) (ns.length + 1) .next { s with heap := h', toks := tk } := by
  rw [List.length_cons] at hb
  have hl : (stepsOf (a :: ns)).length = ns.length := by rw [stepsOf_len]; rfl
  refine WhileStep.intro (n' := ns.length) F (news₂ := (W', LCg.lst ys) :: (FF, listOf (fs.toArray.push (.int ((a :: ns).getD (Int.toNat 0) 0) t)) kf) :: (C, oc) :: (l, listOf us.toArray nn) :: news) (fun p hp => ?_) (Nat.lt_succ_self _)
    ⟨rfl, ys, fs ++ [.int a t], stepsOf (a :: ns), gs ++ [a], ys.length, kf, W', oc, ?_, hd, hy, hg.append (.cons _ _ .nil), ?_, hl.symm, by omega, ?_, n1, n2⟩
  · rcases List.mem_cons.mp hp with rfl | hp
    · exact N _ (.head _)
    · exact N _ (.tail _ (.tail _ (.tail _ hp)))
  · rw [List.push_toArray]
    rfl
  · rw [List.append_assoc, ← he, diffsOf_cons]
    rfl
  · rw [hl, List.length_append]
    simp
    omega
local macro_rules | `(tactic| walk_at "CompSrc") => `(tactic| (k_here; (k_dflt (refine LCg.CompSrc.range (by rfl) (by k_asm) (by k_asm) (by assumption) (by exact range_small1 (by assumption)) (by exact range_size1 (by assumption)) (by exact Nat.le_trans (by assumption) (by decide)) ?_; intro g'; refine' kcf_range (dif _) ?turn ?_; (case turn => (intro k' t' I' oI' C' oC' D' m' ys' h' tk' E' hlo' hhi' hC' hx' F' N' off' ne' hMark'; (refine' elem_diffs ?d1 ?d2 ?d3 ?d4 ?d5 ?d6 ?d7 ?d8 ?d9 ?d10 ?d11 ?d12 hC' hx' F' N' off'); (case d5 => rfl); (case d3 => k_mem); (case d4 => first | k_asm | rfl); (case d2 => k_mem); (case d1 => assumption); (case d6 => exact fun _ => rfl); (case d7 => exact fun _ => rfl); (case d8 => exact fun _ => rfl); (case d9 => exact hlo'); (case d10 => (simp only [List.length_cons]; omega)); (case d11 => assumption); (case d12 => trivial))); intro ys9 hys9))))
local macro_rules | `(tactic| walk_at "exec While Compare cons nil") => `(tactic| (k_here; k_dflt (rename Fr _ _ _ _ => lF9; rename News _ _ _ _ => lN9; rename IntsAre _ _ => hI9; rename List.length _ ≤ 1000 => hl9; refine' diff_loop lF9 lN9 ?hd hI9 hl9 ?n1 ?n2 (fun a t vs fs ns gs kv kf W oc h tk hcd hg hv he g1 g2 g3 g4 g5 g6 o1 o2 F' N' => ?_) (fun fs kv kf W oc h tk hcd hg hnil o1 o2 F' N' => ?_) ?hE; (case hd => assumption); (case n1 => exact neN (by omega)); (case n2 => exact neN (by omega)); (case hE => first | passes_own | with_unfolding_all passes_own); all_goals ((try dsimp only); (try k_fold)))))
theorem diff_c (w : World) (loose1 : List PySem.Str) (mean : ExcName → Option Value) (mg mb : PySem.Str → Option Value) (l : Addr) (us : List Value) (ns : List Int) (nn : Nat) (news : List (Addr × Obj)) (hI : IntsAre us ns) (hlen : ns.length ≤ 1000) :
  MClaim w loose1 mean mg mb 67 8 ((l, listOf us.toArray nn) :: news) True [.ref l] (fun led r => ∃ l' vs c, r = .ref l' ∧ (l', listOf vs.toArray c) ∈ led ∧ IntsAre vs (diffsOf ns)) := by
  intro dp un gd cn cs a ccd cl outer A₀ base h₀ L m s Q E B F X N T hk hn hd hu hret
  refine wpAny_call ?_
  k_dflt (refine' code_defC ?k1 ?k2 ?k3 ?k4 ?k5 ?kA ?kF ?kK ?k6 ?k7 ?k8 ?k9 ?kB ?kD ?_ ?c2 ?c3 ?c4; (case kA => exact rfl); (case kF => exact rfl); (case kK => assumption); (case k1 => k_asm); (case k2 => k_asm); (case k3 => k_asm); (case k4 => k_asm); (case k5 => k_asm); (case k6 => k_is); (case k7 => k_is); (case k8 => ktr_room); (case k9 => exact BindsTo.of_eq rfl); (case kB => exact rfl); (case kD => decide +kernel); (case c2 => exact rfl); (case c3 => exact rfl); (case c4 => exact rfl); k_whole; intro g' L' h' tk' cells' FG' F' N' Y' B' X' T' l1; (have hc1 : ∀ p ∈ news, p.1 < L' + 1 := fun p hp => Nat.lt_succ_of_lt (l1 p (.tail _ hp))); (have kMark := kstMark); (try k_lt l1); k_cells Y'; (try simp only [List.cons_append, List.nil_append] at N'); (try dsimp only); (try k_lift B'); (try k_fold))
  k_steps
  · rename decide (_ = _) = true => hx9
    simp at hx9
  · rename Fr _ _ _ _ => lF9
    rename News _ _ _ _ => lN9
    refine' dif_end lF9 lN9 ?d1 ?d2 ?d3 ?d4 ?d5 ?n1 ?n2
    case d1 => assumption
    case d2 => assumption
    case d3 => assumption
    case d4 => assumption
    case d5 => assumption
    case n1 => exact neN (by omega)
    case n2 => exact neN (by omega)
  · rename IntsAre _ (diffsOf _) => hvs9
    refine hret _ _ _ _ (by k_asm) (by k_asm) (fun p hp => ?_) ⟨_, _, _, rfl, by k_mem, hvs9⟩
    rcases List.mem_cons.mp hp with e | hp
    · rw [e]; k_mem
    · repeat apply List.Mem.tail
      exact hp
end Mine
-- part Vals
namespace Mine
open PySem PySem.W PyProof.Rows
set_option maxRecDepth 100000
set_option maxHeartbeats 2000000
theorem fillV : (PySem.Challenge.rw_tx0001_01.writes = false ∧ ∀ P, hd.heap_39 P = hd.heap_39 P) := by
  w_top off
  k_with_none
  k_fill
  exact ⟨rfl, fun _ => rfl⟩
theorem ints_bits {a : Int} (h1 : -(2:Int)^60 ≤ a) (h2 : a ≤ 2^60) : Builtin.Int.intBits a ≤ 64 := intBits_le_64 (Int.lt_of_lt_of_le (by decide) h1) (Int.lt_of_le_of_lt h2 (by decide))
def Few (n : Nat) : Prop := n ≤ 7
/-- a row of the numbers of ways -/
def wy : Nat → List Int
  | 0 => [1]
  | x + 1 => [1] ++ (rangeKs 0 x).map (pas (wy x)) ++ [1]
theorem wy_len : ∀ x, (wy x).length = x + 1
  | 0 => rfl
  | x + 1 => by
    show ([1] ++ (rangeKs 0 x).map (pas (wy x)) ++ [1]).length = _
    simp [rangeKs_length]
def valAt (rows : List (Int × Int)) (x : Nat) : Int := (rows.filterMap (wayF (wy x))).sum
def ValJ (V C l : Addr) (us : List Value) (nn : Nat) (rows : List (Int × Int)) (news : List (Addr × Obj)) (i : Nat) (nx : List (Addr × Obj)) : Prop :=
  ∃ (vs ws : List Value) (kv kw : Nat) (W : Addr) (oc : Obj), nx = (W, listOf ws.toArray kw) :: (V, listOf vs.toArray kv) :: (C, oc) :: (l, listOf us.toArray nn) :: news ∧ oc.data = .cell (some (.ref W)) ∧
    IntsAre vs ((List.range i).map (valAt rows)) ∧ IntsAre ws (wy i) ∧ @LT.lt Nat _ V W ∧ @LT.lt Nat _ C W ∧ @LT.lt Nat _ l W ∧ AllLt W news
theorem valJ_start {V C l W : Addr} {us : List Value} {nn : Nat} {rows : List (Int × Int)} {news : List (Addr × Obj)} {kv kw : Nat} {oc : Obj} {t : Tok} (h1 : oc.data = .cell (some (.ref W))) (h2 : @LT.lt Nat _ V W) (h3 : @LT.lt Nat _ C W) (h4 : @LT.lt Nat _ l W) (h5 : AllLt W news) :
    ValJ V C l us nn rows news 0 ((W, listOf #[.int 1 t] kw) :: (V, listOf #[] kv) :: (C, oc) :: (l, listOf us.toArray nn) :: news) :=
  ⟨[], [.int 1 t], kv, kw, W, oc, rfl, h1, .nil, .cons _ _ .nil, h2, h3, h4, h5⟩
/-- what a turn's start knows -/
theorem valJ_off {V C l I W : Addr} {oW oV oC ol : Obj} {news : List (Addr × Obj)} (h : ∀ p ∈ (W, oW) :: (V, oV) :: (C, oC) :: (l, ol) :: news, p.1 ≠ I) : (@Ne Nat W I ∧ @Ne Nat V I ∧ @Ne Nat C I ∧ @Ne Nat l I) ∧ OwnOff news [I] := by
  refine ⟨⟨h _ (.head _), h _ (.tail _ (.head _)), h _ (.tail _ (.tail _ (.head _))), h _ (.tail _ (.tail _ (.tail _ (.head _))))⟩, fun p hp b hb => ?_⟩
  rw [List.mem_singleton.mp hb]
  exact h _ (.tail _ (.tail _ (.tail _ (.tail _ hp))))
theorem valJ_end {h₀ h' : Heap} {L I V C l W W' : Addr} {it oc : Obj} {q1 q2 q3 q4 q5 : Addr × Obj} {oW : Obj} {us vs ws : List Value} {nn kv kw i tk : Nat} {t : Tok} {rows : List (Int × Int)} {news : List (Addr × Obj)} {s₁ : Shared} {x : PySem.Str} {u : Option Value} {m₀ : PySem.Str → Option Value}
    (F : Fr h₀ L h' (fun y => if y = x then u else m₀ y)) (N : News h₀ L h' ((W', listOf ws.toArray kw) :: q1 :: q2 :: q3 :: q4 :: q5 :: (I, it) :: (W, oW) :: (V, listOf (vs.toArray.push (.int (List.filterMap (wayF (wy i)) rows).sum t)) kv) :: (C, oc) :: (l, listOf us.toArray nn) :: news))
    (hd : oc.data = .cell (some (.ref W'))) (hv : IntsAre vs ((List.range i).map (valAt rows))) (hw : IntsAre ws ([1] ++ (rangeKs 0 i).map (pas (wy i)) ++ [1]))
    (g1 : @LT.lt Nat _ V W') (g2 : @LT.lt Nat _ C W') (g3 : @LT.lt Nat _ l W') (g4 : AllLt W' news) (n1 : @Ne Nat W' I) (n2 : @Ne Nat V I) (n3 : @Ne Nat C I) (n4 : @Ne Nat l I) (n5 : OwnOff news [I]) :
    UnrEnd h₀ L s₁ I it (RiRest (ValJ V C l us nn rows news) x I m₀ (i + 1)) { s₁ with heap := h', toks := tk } := by
  have off : ∀ p ∈ (W', listOf ws.toArray kw) :: (V, listOf (vs.toArray.push (.int (List.filterMap (wayF (wy i)) rows).sum t)) kv) :: (C, oc) :: (l, listOf us.toArray nn) :: news, p.1 ≠ I := by
    intro p hp
    rcases List.mem_cons.mp hp with rfl | hp
    · exact n1
    rcases List.mem_cons.mp hp with rfl | hp
    · exact n2
    rcases List.mem_cons.mp hp with rfl | hp
    · exact n3
    rcases List.mem_cons.mp hp with rfl | hp
    · exact n4
    · exact n5 p hp I (.head _)
  refine UnrEnd.intro F N ((W', listOf ws.toArray kw) :: (V, listOf (vs.toArray.push (.int (List.filterMap (wayF (wy i)) rows).sum t)) kv) :: (C, oc) :: (l, listOf us.toArray nn) :: news) (fun p hp => ?_) off ⟨⟨u, rfl⟩, ?_, off⟩
  · rcases List.mem_cons.mp hp with rfl | hp
    · exact .tail _ (.tail _ (.tail _ (.tail _ (.tail _ (.tail _ (.head _))))))
    rcases List.mem_cons.mp hp with rfl | hp
    · exact .head _
    · exact .tail _ (.tail _ (.tail _ (.tail _ (.tail _ (.tail _ (.tail _ (.tail _ hp)))))))
  · refine ⟨vs ++ [.int (valAt rows i) t], ws, kv, kw, W', oc, ?_, hd, ?_, hw, g1, g2, g3, g4⟩
    · unfold valAt
      rw [List.push_toArray]
    · rw [List.range_succ, List.map_append]
      exact hv.append (.cons _ _ .nil)
section
variable {prog : Program} {w : World} {A : Around} {E : Value → Shared → Prop} {s : Shared} {env : Env} {h₀ : Heap} {x : PySem.Str} {body : List Stmt} {Q : Flow → Shared → Prop}
theorem vals_loop {r V C l : Addr} {t₀ u₀ v₀ : Tok} {n nn : Nat} {us : List Value} {rows : List (Int × Int)} {m₀ : PySem.Str → Option Value} {news led : List (Addr × Obj)}
    (hh : A.handled = none) (hr : IsRange s.heap r 0 (n : Int) 1 t₀ u₀ v₀) (hf : Few n) (F : Fr h₀ env.locals s.heap m₀) (N : News h₀ env.locals s.heap led) (hj : ValJ V C l us nn rows news 0 led)
    (turn : ∀ (I : Addr) (i : Nat) (t : Tok) (vs ws : List Value) (kv kw : Nat) (W : Addr) (oc : Obj) (h : Heap) (tk : Nat) (it : Obj), i < n → oc.data = .cell (some (.ref W)) → IntsAre vs ((List.range i).map (valAt rows)) → IntsAre ws (wy i) →
      @LT.lt Nat _ V W → @LT.lt Nat _ C W → @LT.lt Nat _ l W → AllLt W news → @Ne Nat W I → @Ne Nat V I → @Ne Nat C I → @Ne Nat l I → OwnOff news [I] → (wy i).length ≤ 100000 → i ≤ 1000 → vs.length ≤ 1000 → ws.length ≤ 1000 →
      Fr h₀ env.locals h (fun y => if y = x then some (.int (i : Int) t) else m₀ y) → News h₀ env.locals h ((I, it) :: (W, listOf ws.toArray kw) :: (V, listOf vs.toArray kv) :: (C, oc) :: (l, listOf us.toArray nn) :: news) →
      wpAny (model prog w) A (execs body env) (UnrPost h₀ env.locals { s with heap := h, toks := tk } I it (RiRest (ValJ V C l us nn rows news) x I m₀ (i + 1)) Q) E { s with heap := h, toks := tk })
    (done : ∀ (u : Option Value) (vs ws : List Value) (kv kw : Nat) (W : Addr) (oc : Obj) (h : Heap) (tk : Nat), IntsAre vs ((List.range n).map (valAt rows)) → 
      @LT.lt Nat _ V W → @LT.lt Nat _ C W → @LT.lt Nat _ l W → AllLt W news →
      Fr h₀ env.locals h (fun y => if y = x then u else m₀ y) → News h₀ env.locals h ((W, listOf ws.toArray kw) :: (V, listOf vs.toArray kv) :: (C, oc) :: (l, listOf us.toArray nn) :: news) → Q .next { s with heap := h, toks := tk }) :
    wpAny (model prog w) A (pyIter (.ref r)) (fun it s₂ => LoopAtV prog w A h₀ env x body Q E it s₂) E s := by
  have hf' : n ≤ 7 := hf
  refine range_inv0 (ValJ V C l us nn rows news) hh hr (range_small0 (Nat.le_trans hf (by decide))) (range_size0 n) F N hj (fun I i t nx h tk hi hJ ho F' it N' => ?_) (fun u nx h tk hJ F' N' => ?_)
  · obtain ⟨vs, ws, kv, kw, W, oc, rfl, hcd, hvs, hws, l1, l2, l3, l4⟩ := hJ
    obtain ⟨⟨o1, o2, o3, o4⟩, o5⟩ := valJ_off ho
    have e1 := wy_len i
    have e2 := hvs.length
    have e3 := hws.length
    rw [List.length_map, List.length_range] at e2
    exact turn I i t vs ws kv kw W oc h tk it hi hcd hvs hws l1 l2 l3 l4 o1 o2 o3 o4 o5 (by omega) (by omega) (by omega) (by omega) F' N'
  · obtain ⟨vs, ws, kv, kw, W, oc, rfl, hcd, hvs, hws, l1, l2, l3, l4⟩ := hJ
    exact done u vs ws kv kw W oc h tk hvs l1 l2 l3 l4 F' N'
end
local macro_rules | `(tactic| walk_at "eval ListComp") => `(tactic| (k_here; k_dflt (refine LCg.ListComp_U (F₀ := by k_asm) (by with_unfolding_all rfl) (by decide) (by rfl) (by decide) (by rfl) ?_)))
local macro_rules | `(tactic| walk_at "eval ListComp") => `(tactic| (k_here; k_dflt (refine' comp_ways ?d1 ?d2 ?d3 ?d4 ?d5 ?d6 ?d7 ?d8 ?d9 (by assumption) ?d10 ?d11 ?d12 ?d13 ?d14 ?e1 ?e2 ?e3 ?e4 ?e5 ?e6 ?f1 ?f2 ?f3 ?f4 ?f5 ?g1 ?g2 ?g3 ?g4 ?_; (case d1 => rfl); (case e1 => with_unfolding_all rfl); (case d8 => rfl); (case d3 => k_asm); (case d4 => k_asm); (case d6 => k_mem); (case d7 => first | k_asm | rfl); (case d5 => k_mem); (case d2 => assumption); (case d9 => k_mem); (case d10 => (intro p9 hp9; (repeat apply List.Mem.tail); exact hp9)); (case d11 => exact (Top.g (by assumption))); (case d12 => exact (Top.b (by assumption))); (case d13 => exact (mg_none_of (by k_asm) (Top.g (by assumption)) (by k_is))); (case d14 => exact ((Top.builtins (by assumption) _ (by decide)).trans (by decide +kernel))); (case e2 => decide); (case e3 => rfl); (case e4 => decide); (case e5 => rfl); (case e6 => rfl); (case f1 => exact fun _ => rfl); (case f2 => exact fun _ => rfl); (case f3 => exact fun _ => rfl); (case f4 => exact fun _ => rfl); (case f5 => exact fun _ => rfl); (case g1 => assumption); (case g2 => assumption); (case g3 => (rename ∀ p ∈ _, 0 ≤ Prod.fst p ∧ _ => hr9; exact fun p hp => ⟨(hr9 p hp).1, fun x _ => IntMulOk.of_left (ints_bits (hr9 p hp).2.1 (hr9 p hp).2.2)⟩)); (case g4 => (intro Q8 hq8; k_steps; exact hq8)); intro D9 h9 tk9 ys9 k9 F9 N9 hI9 l9; (try k_lt l9); (try dsimp only); (try k_fold))))
local macro_rules | `(tactic| walk_at "CompSrc") => `(tactic| (k_here; (k_dflt (refine LCg.CompSrc.range (by rfl) (by k_asm) (by k_asm) (by assumption) (by exact range_small0 (by assumption)) (by exact range_size0 _) (by exact Nat.le_trans (by assumption) (by decide)) ?_; intro g'; refine' kcf_range (pas _) ?turn ?_; (case turn => (intro k' t' I' oI' C' oC' D' m' ys' h' tk' E' hlo' hhi' hC' hx' F' N' off' ne' hMark'; (refine' elem_ways ?d1 ?d2 ?d3 ?d4 ?d5 ?d6 ?d7 ?d8 ?d9 ?d10 ?d11 ?d12 hC' hx' F' N' off'); (case d5 => rfl); (case d3 => k_mem); (case d4 => first | k_asm | rfl); (case d2 => k_mem); (case d1 => assumption); (case d6 => exact fun _ => rfl); (case d7 => exact fun _ => rfl); (case d8 => exact fun _ => rfl); (case d9 => exact hlo'); (case d10 => (rw [wy_len]; omega)); (case d11 => assumption); (case d12 => trivial))); intro ys9 hys9))))
local macro_rules | `(tactic| walk_at "pyIter ref") => `(tactic| (k_here; k_dflt (rename IsRange _ _ _ _ _ _ _ _ => hR9; rename Fr _ _ _ _ => lF9; rename News _ _ _ _ => lN9; rename List (Int × Int) => rw9; refine' vals_loop (rows := rw9) ?hh hR9 ?hf lF9 lN9 ?hj (fun I i t vs ws kv kw W oc h tk it hi hcd hvs hws l1 l2 l3 l4 n1 n2 n3 n4 o5 g1 g2 g3 g4 F' N' => ?_) (fun u vs ws kv kw W oc h tk hvs l1 l2 l3 l4 F' N' => ?_); (case hh => rfl); (case hf => assumption); (case hj => ((with_reducible_and_instances refine' valJ_start ?h1 ?h2 ?h3 ?h4 ?h5); (case h1 => assumption); (case h2 => omega); (case h3 => omega); (case h4 => omega); (case h5 => (rename _ ∧ _ ∧ _ ∧ AllLt _ _ => q9; exact q9.2.2.2)))); all_goals ((try dsimp only); (try k_fold)))))
theorem vals_c (w : World) (loose1 : List PySem.Str) (mean : ExcName → Option Value) (mg mb : PySem.Str → Option Value) (l : Addr) (us : List Value) (rows : List (Int × Int)) (tc : Tok) (nn cnt : Nat) (hcnt : Few cnt) (news : List (Addr × Obj)) (hDA : DatAll news us (rows.map fun p => Dat.tuple [.int p.1, .int p.2])) (hlen : rows.length ≤ 100000) (hrow : ∀ p ∈ rows, 0 ≤ p.1 ∧ -(2:Int)^60 ≤ p.2 ∧ p.2 ≤ 2^60) :
  MClaim w loose1 mean mg mb 96 8 ((l, listOf us.toArray nn) :: news) True [.ref l, .int ((cnt : Nat) : Int) tc] (fun led r => ∃ l' vs c, r = .ref l' ∧ (l', listOf vs.toArray c) ∈ led ∧ IntsAre vs ((List.range cnt).map (valAt rows))) := by
  intro dp un gd cn cs a ccd cl outer A₀ base h₀ L m s Q E B F X N T hk hn hd hu hret
  refine wpAny_call ?_
  k_dflt (refine' code_defC ?k1 ?k2 ?k3 ?k4 ?k5 ?kA ?kF ?kK ?k6 ?k7 ?k8 ?k9 ?kB ?kD ?_ ?c2 ?c3 ?c4; (case kA => exact rfl); (case kF => exact rfl); (case kK => assumption); (case k1 => k_asm); (case k2 => k_asm); (case k3 => k_asm); (case k4 => k_asm); (case k5 => k_asm); (case k6 => k_is); (case k7 => k_is); (case k8 => ktr_room); (case k9 => exact BindsTo.of_eq rfl); (case kB => exact rfl); (case kD => decide +kernel); (case c2 => exact rfl); (case c3 => exact rfl); (case c4 => exact rfl); k_whole; intro g' L' h' tk' cells' FG' F' N' Y' B' X' T' l1; (have hc1 : ∀ p ∈ news, p.1 < L' + 1 := fun p hp => Nat.lt_succ_of_lt (l1 p (.tail _ hp))); (have kMark := kstMark); (try k_lt l1); k_cells Y'; (try simp only [List.cons_append, List.nil_append] at N'); (try dsimp only); (try k_lift B'); (try k_fold))
  k_steps
  · rename Fr _ _ _ _ => lF9
    rename News _ _ _ _ => lN9
    refine' valJ_end lF9 lN9 ?d1 ?d2 ?d3 ?g1 ?g2 ?g3 ?g4 ?n1 ?n2 ?n3 ?n4 ?n5
    case d1 => assumption
    case d2 => assumption
    case d3 => assumption
    case g1 => exact ltN (by omega)
    case g2 => exact ltN (by omega)
    case g3 => exact ltN (by omega)
    case g4 =>
      rename _ ∧ _ ∧ _ ∧ _ ∧ _ ∧ _ ∧ _ ∧ _ ∧ _ ∧ _ ∧ AllLt _ _ => q9
      exact q9.2.2.2.2.2.2.2.2.2.2
    case n1 => k_ne
    case n2 => k_ne
    case n3 => k_ne
    case n4 => k_ne
    case n5 => assumption
  · rename IntsAre _ _ => hvs9
    refine hret _ _ _ _ (by k_asm) (by k_asm) (fun p hp => ?_) ⟨_, _, _, rfl, by k_mem, hvs9⟩
    rcases List.mem_cons.mp hp with e | hp
    · rw [e]; k_mem
    · repeat apply List.Mem.tail
      exact hp
end Mine
-- part HearA
namespace Mine
open PySem PySem.W PyProof.Rows PySem.Spec PySem.Calls
set_option maxRecDepth 100000
set_option maxHeartbeats 200000
/-- one varint: what it counts and what is left -/
def vint : Bool → Int → List Nat → Option (Int × List Nat)
  | _, _, [] => none
  | false, _, c :: r => if c / 64 % 2 = 1 then vint true ((c % 64 : Nat) : Int) r else some (((c % 64 : Nat) : Int), r)
  | true, v, c :: r => if c / 64 % 2 = 1 then vint true (v * 64 + ((c % 64 : Nat) : Int)) r else some (v * 64 + ((c % 64 : Nat) : Int), r)
theorem hear_vint : ∀ (l : List Nat) (b : Bool) (v : Int), hear b v l = match vint b v l with
    | none => []
    | some (x, r) => x :: hear false 0 r
  | [], b, v => by cases b <;> rfl
  | c :: r, false, v => by
    rw [hear, vint]
    by_cases h : c / 64 % 2 = 1
    · rw [if_pos h, if_pos h]
      exact hear_vint r true _
    · rw [if_neg h, if_neg h]
  | c :: r, true, v => by
    rw [hear, vint]
    by_cases h : c / 64 % 2 = 1
    · rw [if_pos h, if_pos h]
      exact hear_vint r true _
    · rw [if_neg h, if_neg h]
theorem vint_less : ∀ (l : List Nat) (b : Bool) (v x : Int) (r : List Nat), vint b v l = some (x, r) → r.length < l.length
  | [], b, v, x, r, h => by cases b <;> cases h
  | c :: l, b, v, x, r, h => by
    cases b
    · unfold vint at h
      split at h
      · exact Nat.lt_succ_of_lt (vint_less l _ _ _ _ h)
      · cases h; exact Nat.lt_succ_self _
    · unfold vint at h
      split at h
      · exact Nat.lt_succ_of_lt (vint_less l _ _ _ _ h)
      · cases h; exact Nat.lt_succ_self _
/-- the iterator's object: what is left of the list -/
def ItAt (o : Obj) (T : Addr) (cps r : List Nat) : Prop := ∃ i : Nat, o.cls = .type "list_iterator" ∧ o.data = .fields #[.ref T, .int i 0] ∧ cps.drop i = r
theorem and63 (c : Nat) : Builtin.bitAnd (c : Int) 63 = ((c % 64 : Nat) : Int) := by
  rw [bitAnd_m6]; omega
theorem and64_yes {c : Nat} (h : c / 64 % 2 = 1) : Builtin.bitAnd (c : Int) 64 = 64 := by
  have := kbt_bit (c : Int) 6
  have e : (2 : Int) ^ 6 = 64 := by decide
  rw [e] at this
  rw [this]; omega
theorem and64_no {c : Nat} (h : ¬ c / 64 % 2 = 1) : Builtin.bitAnd (c : Int) 64 = 0 := by
  have := kbt_bit (c : Int) 6
  have e : (2 : Int) ^ 6 = 64 := by decide
  rw [e] at this
  rw [this]; omega
theorem or_low (n c : Nat) : Builtin.bitOr ((n : Int) * 2 ^ (6 : Int).toNat) ((c % 64 : Nat) : Int) = ((n * 64 + c % 64 : Nat) : Int) := by
  have e : (2 : Int) ^ (6 : Int).toNat = 64 := by decide
  rw [e]
  have hx := bitXor_and ((n : Int) * 64) ((c % 64 : Nat) : Int)
  unfold Builtin.bitXor at hx
  have ha : Builtin.bitAnd ((n : Int) * 64) ((c % 64 : Nat) : Int) = 0 := by
    have h1 : (n : Int) * 64 = ((n * 64 : Nat) : Int) := by omega
    rw [h1]
    have h2 : Builtin.bitAnd ((n * 64 : Nat) : Int) ((c % 64 : Nat) : Int) = (((n * 64) &&& (c % 64) : Nat) : Int) := by
      unfold Builtin.bitAnd
      rw [decide_eq_true (Int.natCast_nonneg _), decide_eq_true (Int.natCast_nonneg _)]
      rfl
    rw [h2]
    have h3 : (n * 64) &&& (c % 64) = 0 := by
      refine Nat.eq_of_testBit_eq fun i => ?_
      rw [Nat.testBit_and, Nat.zero_testBit]
      by_cases hi : i < 6
      · have : (n * 64).testBit i = false := by
          have e : n * 64 = n <<< 6 := by rw [Nat.shiftLeft_eq]
          rw [e, Nat.testBit_shiftLeft]
          simp [Nat.not_le.mpr hi]
        rw [this, Bool.false_and]
      · have : (c % 64).testBit i = false := by
          refine Nat.testBit_lt_two_pow (Nat.lt_of_lt_of_le (Nat.mod_lt c (by decide)) ?_)
          exact Nat.pow_le_pow_right (n := 2) (i := 6) (by decide) (Nat.not_lt.mp hi)
        rw [this, Bool.and_false]
    rw [h3]; rfl
  rw [ha] at hx
  omega
section
variable {prog : Program} {w : World} {A : Around} {E : Value → Shared → Prop} {s : Shared} {h₀ : Heap} {L : Addr} {m : PySem.Str → Option Value} {rest : List (Addr × Obj)}
theorem same_fr {h h' : Heap} {I : Addr} {o o' : Obj} (F : Fr h₀ L h m) (N : News h₀ L h ((I, o) :: rest)) (off : ∀ p ∈ rest, p.1 ≠ I) (hs : Heap.SameBut I h h') (ho : h'.get? I = some o') : Fr h₀ L h' m ∧ News h₀ L h' ((I, o') :: rest) := by
  have hI := N _ (.head _)
  have keep : ∀ b o, b ≠ I → h.get? b = some o → h'.get? b = some o := fun b o hb e => (hs.2 b hb).trans e
  refine ⟨⟨F.ns.at' fun o e => keep L o (fun q => hI.2.1 q.symm) e, fun b o e => keep b o (fun q => ?_) (F.keep b o e), F.above⟩, fun p hp => ?_⟩
  · subst q
    have := hI.2.2
    rw [e] at this
    cases this
  · rcases List.mem_cons.mp hp with rfl | hp
    · exact ⟨ho, hI.2⟩
    · exact ⟨keep _ _ (off p hp) (N p (.tail _ hp)).1, (N p (.tail _ hp)).2⟩
theorem ints_get : ∀ {vs : List Value} {cps : List Nat} {i : Nat} {c : Nat} {r : List Nat}, IntsAre vs (cps.map fun c => ((c : Nat) : Int)) → cps.drop i = c :: r → (∃ t, vs[i]? = some (.int (c : Nat) t)) ∧ cps.drop (i + 1) = r := by
  intro vs cps i c r hI hd
  have h1 : cps[i]? = some c := by
    have := congrArg List.head? hd
    rw [List.head?_drop] at this
    exact this
  have h2 : (cps.map fun c => ((c : Nat) : Int))[i]? = some ((c : Nat) : Int) := by rw [List.getElem?_map, h1]; rfl
  obtain ⟨t, ht⟩ := hI.get _ _ h2
  refine ⟨⟨t, ht⟩, ?_⟩
  have h3 : (cps.drop i).drop 1 = cps.drop (i + 1) := by rw [List.drop_drop]
  rw [hd] at h3
  exact h3.symm
theorem next_led {I T : Addr} {o : Obj} {vs : List Value} {n c : Nat} {cps r : List Nat} {Q : Value → Shared → Prop} (F : Fr h₀ L s.heap m) (N : News h₀ L s.heap ((I, o) :: rest)) (hat : ItAt o T cps (c :: r)) (hT : (T, ({ cls := .type "list", data := .seq vs.toArray n } : Obj)) ∈ rest) (hI : IntsAre vs (cps.map fun c => ((c : Nat) : Int))) (off : ∀ p ∈ rest, p.1 ≠ I)
    (hQ : ∀ o' h' t, ItAt o' T cps r → Fr h₀ L h' m → News h₀ L h' ((I, o') :: rest) → Q (.int (c : Nat) t) { s with heap := h' }) : wpAny (model prog w) A (call (.builtin "next") [.ref I]) Q E s := by
  obtain ⟨i, hc, hd, hr⟩ := hat
  obtain ⟨⟨t, ht⟩, hr'⟩ := ints_get hI hr
  refine next_item (i := i) (items := vs.toArray) ⟨o, (N _ (.head _)).1, hc, hd⟩ ⟨_, (N _ (.tail _ hT)).1, rfl, n, rfl⟩ (by rw [List.getElem?_toArray]; exact ht) fun h' hit hs => ?_
  obtain ⟨o', ho', hc', hd'⟩ := hit
  obtain ⟨F', N'⟩ := same_fr F N off hs ho'
  exact hQ o' h' t ⟨i + 1, hc', hd', hr'⟩ F' N'
theorem special_end2 {it l : Addr} {i : Nat} {items : Array Value} {Q : Option Value → Shared → Prop} (hh : A.handled = none) (hit : s.heap.IsListIter it l i) (hl : s.heap.IsList l items) (hx : items[i]? = none)
    (hQ : ∀ h₁ h' (e : Addr) o', Heap.SameBut it s.heap h₁ → h₁.get? it = some o' → Heap.NewExc h₁ h' e "StopIteration" → E (.ref e) { s with heap := h' }) :
    wpAny (model prog w) A (callSpecial? (.ref it) (Str.ofString "__next__")) Q E s := by
  obtain ⟨o, ho, hc, hd⟩ := id hit
  obtain ⟨ol, hol, _, nl, hdl⟩ := hl
  refine wpAny_callSpecial?_slot (name := Str.ofString "__next__") hit.typeIs slot_listiter_next
    (wpAny_call_entry slot_listiter_next hit.typeIs entry_listiter_next ?_ (args_listiter_next _))
  show wpAny _ _ (field (.ref it) 0 >>= _) _ _ s
  refine wpAny_bind (wpAny_field ho hd (x := .ref l) rfl ?_)
  show wpAny _ _ (if (Value.ref l == Value.none) = true then _ else _) _ _ s
  rw [if_neg (show ¬ ((Value.ref l == Value.none) = true) from Bool.false_ne_true)]
  show wpAny _ _ (field (.ref it) 1 >>= _) _ _ s
  refine wpAny_bind (wpAny_field ho hd (x := .int i 0) rfl ?_)
  show wpAny _ _ (seqItems? (.ref l) >>= _) _ _ s
  refine wpAny_bind (wpAny_seqItems hol hdl ?_)
  simp only [Int.toNat_natCast, hx]
  refine wpAny_bind (wpAny_rule (wpAny_bind (wpAny_setField ho hd (by simp) ?_)))
  show wpAny _ _ (newExc (.type "StopIteration") [] >>= _) _ _ _
  refine wpAny_bind ?_
  simp only [newExc, newTuple]
  refine wpAny_bind (wpAny_newObj_type ?_ (by size_fits))
  refine wpAny_bind (m := firstArgMember _ _) (wpAny_of_eq (a := Value.none) (by first | rfl | (simp only [firstArgMember]; rfl)) ?_)
  refine wpAny_newObj_type ?_ (by size_fits)
  simp only [raiseNew]
  refine wpAny_bind (wpAny_handled ?_)
  rw [show A.in1.handled = none from hh]
  refine wpAny_bind (wpAny_pure (wpAny_throw ?_))
  refine hQ _ _ _ _ (Heap.SameBut.update ..) (Heap.get?_update_self _ ho (Obj.isFreed_of_fields (Obj.data_mapFields hd _))) ⟨fun b o e => Heap.get?_push_of_some _ (Heap.get?_push_of_some _ e), ?_, ?_⟩
  · refine Heap.get?_none_of_le ?_
    simp [Heap.size_push]
  · exact ⟨_, _, Heap.get?_push_size _ rfl, rfl, rfl⟩
theorem next_stop {I T : Addr} {o : Obj} {vs : List Value} {n : Nat} {cps : List Nat} {Q : Value → Shared → Prop} (hh : A.handled = none) (F : Fr h₀ L s.heap m) (N : News h₀ L s.heap ((I, o) :: rest)) (hat : ItAt o T cps []) (hT : (T, ({ cls := .type "list", data := .seq vs.toArray n } : Obj)) ∈ rest) (hI : IntsAre vs (cps.map fun c => ((c : Nat) : Int))) (off : ∀ p ∈ rest, p.1 ≠ I)
    (hQ : ∀ o' h₁ h' e, Fr h₀ L h₁ m → News h₀ L h₁ ((I, o') :: rest) → Heap.NewExc h₁ h' e "StopIteration" → E (.ref e) { s with heap := h' }) : wpAny (model prog w) A (call (.builtin "next") [.ref I]) Q E s := by
  obtain ⟨i, hc, hd, hr⟩ := hat
  have hlen : cps.length ≤ i := by
    have := congrArg List.length hr
    rw [List.length_drop] at this
    simp at this
    omega
  have hit : s.heap.IsListIter I T i := ⟨o, (N _ (.head _)).1, hc, hd⟩
  have hx : vs.toArray[i]? = none := by
    rw [List.getElem?_toArray]
    refine List.getElem?_eq_none ?_
    rw [hI.length, List.length_map]
    exact hlen
  refine call_function_entry (by decide +kernel) (by decide +kernel) kdk_entry_next (kdk_args_next _) ?_
  unfold Builtin.«next»
  refine wpAny_bind (m := someArgs "next" 1 2 _) (wpAny_of_eq (a := [Value.ref I]) (by first | rfl | kernel_rfl!) ?_)
  dsimp only
  refine wpAny_bind (wpAny_specialOf (name := Str.ofString "__next__") hit.typeIs slot_listiter_next.lookup ?_)
  refine wpAny_ite_split (fun hab => absurd hab (by decide)) (fun _ => ?_)
  refine wpAny_bind (special_end2 hh hit ⟨_, (N _ (.tail _ hT)).1, rfl, n, rfl⟩ hx fun h₁ h' e o' hs ho' hx' => ?_)
  obtain ⟨F', N'⟩ := same_fr F N off hs ho'
  exact hQ o' h₁ h' e F' N' hx'
end
end Mine
-- part Vint
namespace Mine
open PySem PySem.W PyProof.Rows
set_option maxRecDepth 100000
set_option maxHeartbeats 1000000
theorem fillI : (PySem.Challenge.rw_tx0001_01.writes = false ∧ ∀ P, hd.heap_39 P = hd.heap_39 P) := by
  w_top off
  k_with_none
  k_fill
  exact ⟨rfl, fun _ => rfl⟩
section
variable {prog : Program} {w : World} {A : Around} {E : Value → Shared → Prop} {s : Shared} {env : Env} {h₀ : Heap} {L : Addr} {body : List Stmt} {test : PySem.Expr} {pos : Pos} {Q : Flow → Shared → Prop}
def VNext (h₀ : Heap) (L : Addr) (m₀ : PySem.Str → Option Value) (I T : Addr) (cps : List Nat) (rest : List (Addr × Obj)) (s : Shared) (n c : Nat) (r : List Nat) (s₂ : Shared) : Prop :=
  ∃ h' tk o' tv tb, s₂ = { s with heap := h', toks := tk } ∧ Fr h₀ L h' (fun y => if y = PySem.Str.ofString "val" then some (.int ((n : Nat) : Int) tv) else if y = PySem.Str.ofString "b" then some (.int ((c : Nat) : Int) tb) else m₀ y) ∧
    News h₀ L h' ((I, o') :: rest) ∧ ItAt o' T cps r
def VPost (h₀ : Heap) (L : Addr) (m₀ : PySem.Str → Option Value) (I T : Addr) (cps : List Nat) (rest : List (Addr × Obj)) (s : Shared) (n c : Nat) (r : List Nat) (Q : Flow → Shared → Prop) (f : Flow) (s₂ : Shared) : Prop :=
  match f with
  | .ret v => Q (.ret v) s₂
  | .brk => Q .next s₂
  | .next => VNext h₀ L m₀ I T cps rest s n c r s₂
  | .cont => VNext h₀ L m₀ I T cps rest s n c r s₂
theorem pow_step {n c j : Nat} (h : n < 2 ^ (6 * j)) : n * 64 + c % 64 < 2 ^ (6 * (j + 1)) := by
  have e : 2 ^ (6 * (j + 1)) = 2 ^ (6 * j) * 64 := by
    rw [Nat.mul_add, Nat.pow_add]
  rw [e]
  have : c % 64 < 64 := Nat.mod_lt _ (by decide)
  have h2 : n * 64 + 64 ≤ 2 ^ (6 * j) * 64 := by
    have : (n + 1) * 64 ≤ 2 ^ (6 * j) * 64 := Nat.mul_le_mul_right 64 h
    omega
  omega
theorem bits_of {n j : Nat} (h : n < 2 ^ (6 * j)) (hj : j ≤ 100001) : (Builtin.Int.intBits ((n : Nat) : Int) : Int) + 6 ≤ 2 ^ 27 := by
  have h1 : Builtin.Int.intBits ((n : Nat) : Int) ≤ 6 * j := intBits_le (by simpa using h)
  omega
theorem whlIf_map {b : Bool} {T T' F : Prop} (h : WhlIf b T F) (f : T → T') : WhlIf b T' F := by
  unfold WhlIf at *
  cases b
  · exact h
  · exact f h
theorem vint_loop {I T : Addr} {cps : List Nat} {rest : List (Addr × Obj)} {m₀ : PySem.Str → Option Value} (R₀ : Option (Int × List Nat)) (hlen : cps.length ≤ 100000) (hE : PassesOwn (model prog w) A env E)
    (item : ∀ (n c c' : Nat) (r' : List Nat) (tv tb : Tok) (o : Obj) (h : Heap) (tk : Nat), c / 64 % 2 = 1 → ItAt o T cps (c' :: r') → (Builtin.Int.intBits ((n : Nat) : Int) : Int) + 6 ≤ 2 ^ 27 →
      Fr h₀ L h (fun y => if y = PySem.Str.ofString "val" then some (.int ((n : Nat) : Int) tv) else if y = PySem.Str.ofString "b" then some (.int ((c : Nat) : Int) tb) else m₀ y) → News h₀ L h ((I, o) :: rest) →
      wpAny (model prog w) A (isTrue test env (eval test env)) (fun b s₂ => WhlIf b (wpAny (model prog w) A (execs body env) (VPost h₀ L m₀ I T cps rest s (n * 64 + c' % 64) c' r' Q) E s₂) (wpAny (model prog w) A (execs [] env) Q E s₂)) E { s with heap := h, toks := tk })
    (stop : ∀ (n c : Nat) (tv tb : Tok) (o : Obj) (h : Heap) (tk : Nat), c / 64 % 2 = 1 → ItAt o T cps [] → (Builtin.Int.intBits ((n : Nat) : Int) : Int) + 6 ≤ 2 ^ 27 → R₀ = none →
      Fr h₀ L h (fun y => if y = PySem.Str.ofString "val" then some (.int ((n : Nat) : Int) tv) else if y = PySem.Str.ofString "b" then some (.int ((c : Nat) : Int) tb) else m₀ y) → News h₀ L h ((I, o) :: rest) →
      wpAny (model prog w) A (isTrue test env (eval test env)) (fun b s₂ => WhlIf b (wpAny (model prog w) A (execs body env) (WhlPost prog w A E env test body [] Q 0) E s₂) (wpAny (model prog w) A (execs [] env) Q E s₂)) E { s with heap := h, toks := tk })
    (out : ∀ (n c : Nat) (r : List Nat) (tv tb : Tok) (o : Obj) (h : Heap) (tk : Nat), ¬ c / 64 % 2 = 1 → ItAt o T cps r → R₀ = some (((n : Nat) : Int), r) →
      Fr h₀ L h (fun y => if y = PySem.Str.ofString "val" then some (.int ((n : Nat) : Int) tv) else if y = PySem.Str.ofString "b" then some (.int ((c : Nat) : Int) tb) else m₀ y) → News h₀ L h ((I, o) :: rest) →
      wpAny (model prog w) A (isTrue test env (eval test env)) (fun b s₂ => WhlIf b (wpAny (model prog w) A (execs body env) (WhlPost prog w A E env test body [] Q 0) E s₂) (wpAny (model prog w) A (execs [] env) Q E s₂)) E { s with heap := h, toks := tk }) :
    ∀ (r : List Nat) (n c j : Nat) (tv tb : Tok) (o : Obj) (h : Heap) (tk : Nat), ItAt o T cps r → R₀ = (if c / 64 % 2 = 1 then vint true ((n : Nat) : Int) r else some (((n : Nat) : Int), r)) → n < 2 ^ (6 * j) → j + r.length ≤ cps.length + 1 →
      Fr h₀ L h (fun y => if y = PySem.Str.ofString "val" then some (.int ((n : Nat) : Int) tv) else if y = PySem.Str.ofString "b" then some (.int ((c : Nat) : Int) tb) else m₀ y) → News h₀ L h ((I, o) :: rest) →
      WhlRest prog w A E env test body [] Q 0 { s with heap := h, toks := tk } := by
  intro r
  induction r with
  | nil =>
    intro n c j tv tb o h tk hat hR hn hj F N
    refine whl_turn (k := 0) hE ?_
    by_cases hb : c / 64 % 2 = 1
    · rw [if_pos hb] at hR
      exact stop n c tv tb o h tk hb hat (bits_of hn (by omega)) hR F N
    · rw [if_neg hb] at hR
      exact out n c [] tv tb o h tk hb hat hR F N
  | cons c' r ih =>
    intro n c j tv tb o h tk hat hR hn hj F N
    refine whl_turn (k := 0) hE ?_
    by_cases hb : c / 64 % 2 = 1
    · rw [if_pos hb] at hR
      refine wpAny_mono (item n c c' r tv tb o h tk hb hat (bits_of hn (by omega)) F N) (fun b s₂ hw => whlIf_map hw fun hw => wpAny_mono hw (fun f s₃ h₃ => ?_) fun _ _ e => e) fun _ _ e => e
      have fin : VNext h₀ L m₀ I T cps rest s (n * 64 + c' % 64) c' r s₃ → WhlRest prog w A E env test body [] Q 0 s₃ := by
        rintro ⟨h', tk', o', tv', tb', rfl, F', N', hat'⟩
        refine ih (n * 64 + c' % 64) c' (j + 1) tv' tb' o' h' tk' hat' ?_ (pow_step hn) (by rw [List.length_cons] at hj; omega) F' N'
        rw [hR, vint]
        have e : ((n : Nat) : Int) * 64 + ((c' % 64 : Nat) : Int) = ((n * 64 + c' % 64 : Nat) : Int) := by omega
        rw [e]
      cases f with
      | next => exact fin h₃
      | cont => exact fin h₃
      | brk => exact h₃
      | ret v => exact h₃
    · rw [if_neg hb] at hR
      exact out n c _ tv tb o h tk hb hat hR F N
theorem vpost_next {I T : Addr} {cps r : List Nat} {n c : Nat} {o' : Obj} {tv tb : Tok} {rest : List (Addr × Obj)} {m₀ M : PySem.Str → Option Value} {h' : Heap} {tk : Nat} {s₂ : Shared}
    (F : Fr h₀ L h' M) (N : News h₀ L h' ((I, o') :: rest)) (hat : ItAt o' T cps r) (hs : s₂ = { s with heap := h', toks := tk })
    (hM : ∀ y, M y = if y = PySem.Str.ofString "val" then some (.int ((n : Nat) : Int) tv) else if y = PySem.Str.ofString "b" then some (.int ((c : Nat) : Int) tb) else m₀ y) : VPost h₀ L m₀ I T cps rest s n c r Q .next s₂ :=
  ⟨h', tk, o', tv, tb, hs, by rw [← funext hM]; exact F, N, hat⟩
theorem if_two {α : Type} {y v b : PySem.Str} {a₁ a₂ b₁ a₃ b₃ x : α} : (if y = v then a₁ else if y = b then b₁ else if y = v then a₂ else if y = v then a₃ else if y = b then b₃ else x) = if y = v then a₁ else if y = b then b₁ else x := by
  by_cases h1 : y = v
  · rw [if_pos h1, if_pos h1]
  · by_cases h2 : y = b
    · rw [if_neg h1, if_pos h2, if_neg h1, if_pos h2]
    · rw [if_neg h1, if_neg h2, if_neg h1, if_neg h1, if_neg h2, if_neg h1, if_neg h2]
theorem if_two' {α : Type} {y v b : PySem.Str} {a₁ a₂ b₁ b₃ x : α} : (if y = v then a₁ else if y = b then b₁ else if y = v then a₂ else if y = b then b₃ else x) = if y = v then a₁ else if y = b then b₁ else x := by
  by_cases h1 : y = v
  · rw [if_pos h1, if_pos h1]
  · by_cases h2 : y = b
    · rw [if_neg h1, if_pos h2, if_neg h1, if_pos h2]
    · rw [if_neg h1, if_neg h2, if_neg h1, if_neg h2, if_neg h1, if_neg h2]
theorem it_len {o : Obj} {T : Addr} {cps r : List Nat} (h : ItAt o T cps r) : r.length ≤ cps.length := by
  obtain ⟨i, _, _, rfl⟩ := h
  rw [List.length_drop]
  omega
theorem vint_start {I T : Addr} {cps r : List Nat} {c0 : Nat} {o : Obj} {tv tb : Tok} {rest : List (Addr × Obj)} {m₀ : PySem.Str → Option Value}
    (F : Fr h₀ L s.heap (fun y => if y = PySem.Str.ofString "val" then some (.int ((c0 % 64 : Nat) : Int) tv) else if y = PySem.Str.ofString "b" then some (.int ((c0 : Nat) : Int) tb) else m₀ y)) (N : News h₀ L s.heap ((I, o) :: rest)) (hat : ItAt o T cps r) (hlen : cps.length ≤ 100000) (hE : PassesOwn (model prog w) A env E)
    (item : ∀ (n c c' : Nat) (r' : List Nat) (tv tb : Tok) (o : Obj) (h : Heap) (tk : Nat), c / 64 % 2 = 1 → ItAt o T cps (c' :: r') → (Builtin.Int.intBits ((n : Nat) : Int) : Int) + 6 ≤ 2 ^ 27 →
      Fr h₀ L h (fun y => if y = PySem.Str.ofString "val" then some (.int ((n : Nat) : Int) tv) else if y = PySem.Str.ofString "b" then some (.int ((c : Nat) : Int) tb) else m₀ y) → News h₀ L h ((I, o) :: rest) →
      wpAny (model prog w) A (isTrue test env (eval test env)) (fun b s₂ => WhlIf b (wpAny (model prog w) A (execs body env) (VPost h₀ L m₀ I T cps rest s (n * 64 + c' % 64) c' r' Q) E s₂) (wpAny (model prog w) A (execs [] env) Q E s₂)) E { s with heap := h, toks := tk })
    (stop : ∀ (n c : Nat) (tv tb : Tok) (o : Obj) (h : Heap) (tk : Nat), c / 64 % 2 = 1 → ItAt o T cps [] → (Builtin.Int.intBits ((n : Nat) : Int) : Int) + 6 ≤ 2 ^ 27 → vint false 0 (c0 :: r) = none →
      Fr h₀ L h (fun y => if y = PySem.Str.ofString "val" then some (.int ((n : Nat) : Int) tv) else if y = PySem.Str.ofString "b" then some (.int ((c : Nat) : Int) tb) else m₀ y) → News h₀ L h ((I, o) :: rest) →
      wpAny (model prog w) A (isTrue test env (eval test env)) (fun b s₂ => WhlIf b (wpAny (model prog w) A (execs body env) (WhlPost prog w A E env test body [] Q 0) E s₂) (wpAny (model prog w) A (execs [] env) Q E s₂)) E { s with heap := h, toks := tk })
    (out : ∀ (n c : Nat) (r' : List Nat) (tv tb : Tok) (o : Obj) (h : Heap) (tk : Nat), ¬ c / 64 % 2 = 1 → ItAt o T cps r' → vint false 0 (c0 :: r) = some (((n : Nat) : Int), r') →
      Fr h₀ L h (fun y => if y = PySem.Str.ofString "val" then some (.int ((n : Nat) : Int) tv) else if y = PySem.Str.ofString "b" then some (.int ((c : Nat) : Int) tb) else m₀ y) → News h₀ L h ((I, o) :: rest) →
      wpAny (model prog w) A (isTrue test env (eval test env)) (fun b s₂ => WhlIf b (wpAny (model prog w) A (execs body env) (WhlPost prog w A E env test body [] Q 0) E s₂) (wpAny (model prog w) A (execs [] env) Q E s₂)) E { s with heap := h, toks := tk }) :
    wpAny (model prog w) A (exec (.While test body [] pos) env) Q E s := by
  refine whl_start 0 (vint_loop (s := s) (vint false 0 (c0 :: r)) hlen hE item stop out r (c0 % 64) c0 1 tv tb o s.heap s.toks hat ?_ (Nat.lt_of_lt_of_le (Nat.mod_lt c0 (by decide)) (by decide)) (by have := it_len hat; omega) F N)
  rw [vint]
end
/-- what _parse_varint says -/
abbrev VClaim (w : World) (loose : List PySem.Str) (mean : ExcName → Option Value) (mg mb : PySem.Str → Option Value) (k : Nat) (I T : Addr) (o : Obj) (cps r : List Nat) (rest : List (Addr × Obj)) : Prop :=
  ∀ (dp un : Nat) (gd : Option (List Code)) (cn : PySem.Str) (cs : Scope) (a : Addr) (ccd : Value) (cl : List (PySem.Str × Addr)) (outer : List Env) (A₀ : Around) (base h₀ : Heap) (L : Addr) (m : PySem.Str → Option Value) (s : Shared) (Q E : Value → Shared → Prop),
    Below A₀ base outer h₀ → Fr h₀ L s.heap m → (hd.heap_39 w.params).In h₀ → News h₀ L s.heap ((I, o) :: rest) → Top hd.view_39 loose mean mg mb h₀ → cs.kind = .function →
    dp + k < recursionLimit → un + 50 * k < cLine →
    (∀ x r' t o' h' tk', vint false 0 r = some (x, r') → ItAt o' T cps r' → Fr h₀ L h' m → News h₀ L h' ((I, o') :: rest) → Q (.int x t) { s with heap := h', toks := tk' }) →
    (∀ G e o' h' tk', vint false 0 r = none → Fr h₀ L G m → RaisedSN base G (envX cn cs L a ccd cl :: outer) e (.type "StopIteration") ((I, o') :: rest) h' → G.UpToSlots h' → E (.ref e) { s with heap := h', toks := tk' }) →
      wpAny (model PySem.Challenge.pw_tx0001_01 w) (ktrTop dp un gd cn cs L a ccd cl outer) (call (.ref 55) [.ref I]) Q E s
local macro_rules | `(tactic| walk_at "call builtin:next") => `(tactic| (k_here; k_dflt (rename ItAt _ _ _ _ => hat9; rename ∀ p ∈ _, Prod.fst p ≠ _ => off9; first | (refine' next_led ?k1 ?k2 hat9 ?k3 ?k4 off9 ?_; (case k1 => k_asm); (case k2 => k_asm); (case k3 => assumption); (case k4 => assumption); clear hat9; intro o9 h9 t9 hat9 F9 N9) | (refine' next_stop ?k0 ?k1 ?k2 hat9 ?k3 ?k4 off9 ?_; (case k0 => rfl); (case k1 => k_asm); (case k2 => k_asm); (case k3 => assumption); (case k4 => assumption); clear hat9; intro o9 h9 h8 e9 F9 N9 hx9))))
local macro_rules | `(tactic| walk_at "binaryOp BitAnd int int") => `(tactic| (k_here; k_dflt (refine and_int ?_; first | rw [and63] | rw [and64_yes (by assumption)] | rw [and64_no (by assumption)])))
local macro_rules | `(tactic| walk_at "inplaceOp LShift int int") => `(tactic| (k_here; k_dflt (refine ilshift_int (by decide) (by assumption) ?_)))
local macro_rules | `(tactic| walk_at "inplaceOp BitOr int int") => `(tactic| (k_here; k_dflt (refine ior_int ?_; rw [or_low])))
local macro_rules | `(tactic| walk_at "exec While") => `(tactic| (k_here; k_dflt (rename Fr _ _ _ _ => lF9; rename News _ _ _ _ => lN9; rename ItAt _ _ _ _ => hat9; refine' vint_start lF9 lN9 hat9 ?hlen ?hE (fun n c c' r' tv tb o h tk hb hat hbits F' N' => ?_) (fun n c tv tb o h tk hb hat hbits hR F' N' => ?_) (fun n c r' tv tb o h tk hb hat hR F' N' => ?_); (case hlen => assumption); (case hE => first | passes_own | with_unfolding_all passes_own); clear hat9; all_goals ((try dsimp only); (try k_fold)))))
local macro_rules | `(tactic| walk_at "leaving ref") => `(tactic| (k_here; (refine' leave_newS ?k1 ?k0 ?k2 ?k3 ?_; (case k0 => assumption); (case k2 => assumption); (case k1 => assumption); (case k3 => k_asm); k_whole; intro h' S' R' U'; (try dsimp only at S' R' U' ⊢))))
theorem vint_c (w : World) (loose1 : List PySem.Str) (mean : ExcName → Option Value) (mg mb : PySem.Str → Option Value) (I T : Addr) (o : Obj) (vs : List Value) (nn : Nat) (cps r : List Nat) (rest : List (Addr × Obj))
    (hat : ItAt o T cps r) (hT : (T, ({ cls := .type "list", data := .seq vs.toArray nn } : Obj)) ∈ rest) (hI : IntsAre vs (cps.map fun c => ((c : Nat) : Int))) (off : ∀ p ∈ rest, p.1 ≠ I) (hlen : cps.length ≤ 100000) :
  VClaim w loose1 mean mg mb 4 I T o cps r rest := by
  intro dp un gd cn cs a ccd cl outer A₀ base h₀ L m s Q E B F X N T' hk hd hu hret hexc
  cases r with
  | nil =>
    refine wpAny_call ?_
    k_dflt cell_enter
    k_steps
    exact hexc _ _ _ _ _ rfl (by assumption) (by assumption) (by assumption)
  | cons c r =>
    refine wpAny_call ?_
    k_dflt cell_enter
    k_steps
    · rename Fr _ _ _ _ => lF9
      rename News _ _ _ _ => lN9
      rename ItAt _ _ _ _ => hat9
      refine' vpost_next lF9 lN9 hat9 rfl ?hM
      case hM =>
        intro y
        first | exact if_two' | exact if_two
    · exact hexc _ _ _ _ _ (by assumption) (by assumption) (by assumption) (by assumption)
    · exact hret _ _ _ _ _ _ (by assumption) (by assumption) (by k_asm) (by k_asm)
end Mine
-- part Heard
namespace Mine
open PySem PySem.W PyProof.Rows
set_option maxRecDepth 100000
set_option maxHeartbeats 1000000
theorem fillH : (PySem.Challenge.rw_tx0001_01.writes = false ∧ ∀ P, hd.heap_39 P = hd.heap_39 P) := by
  w_top off
  k_with_none
  k_fill
  exact ⟨rfl, fun _ => rfl⟩
theorem stop_isExc : isSubtype (.type "StopIteration") (.type "BaseException") = pure true := by rw [isSubtype_type]; kernel_rfl
theorem stop_notTuple : isSubtype (.type ((Manifest.find? "StopIteration").elim "type" fun x => x.metatype)) (.type "tuple") = pure false := by
  rw [show ((Manifest.find? "StopIteration").elim "type" fun x => x.metatype) = "type" from by kernel_rfl, isSubtype_type]; kernel_rfl
theorem stop_self : isSubtype (.type "StopIteration") (.type "StopIteration") = pure true := by rw [isSubtype_type]; kernel_rfl
section
variable {prog : Program} {w : World} {A₀ A : Around} {s : Shared} {base h₀ : Heap} {L a : Addr} {m : PySem.Str → Option Value} {env : Env} {news : List (Addr × Obj)} {K : Frag} {p : Program} {loose : List PySem.Str} {mean : ExcName → Option Value} {mg mb : PySem.Str → Option Value}
    {R : Result → Shared → Prop} {name qual : PySem.Str} {params : Arguments} {body : List Stmt} {scope : Scope} {dV kV doc pm cdv ct oc : Value} {an od : Option Addr} {osl : Array (Option Value)} {f : Addr} {args : Args} {binds : List (PySem.Str × Value)}
/-- a def with a try in it, called from a frame that may hold cells -/
theorem enterS0 (B : Below A₀ base [] h₀) (F : Fr h₀ L s.heap m) (X₀ : K.In h₀) (N : News h₀ L s.heap news) (T : Top p loose mean mg mb h₀) (hA : A.frames = some [env]) (hf : env.frame = some L) (hke : env.scope.kind = .function)
    (ho : K.lookup f = some ⟨oc, od, .func (fnOf name qual params body scope dV kV doc pm an cdv ct), osl⟩) (hcd : codeIn K cdv qual = true) (hroom : A.depth < recursionLimit)
    (hbind : BindsTo s (fnOf name qual params body scope dV kV doc pm an cdv ct) args binds) (hloc : ∀ y ∈ binds, scope.names.lookup y.1 = some .local)
    (h : ∀ g L' h₁, Fr h₀ L g m → Fr g L' h₁ (fun y => binds.reverse.lookup y) → News g L' h₁ news → Below A base [env] g → K.In g → Top p loose mean mg mb g → KtsDicts ([env].filterMap (·.frame)) g → (∀ p ∈ news, p.1 < L') →
      wpAny (model prog w) (A.deeper (envOf qual scope L' f cdv)) (execs body (envOf qual scope L' f cdv))
        (fun fl s' => LeaveS0 ([env].filterMap (·.frame)) h₀ L m g R (match fl with | .ret v => v | _ => .none) s')
        (fun e s' => wpAny (model prog w) (A.deeper (envOf qual scope L' f cdv)) (leaving (envOf qual scope L' f cdv) e) (fun _ s'' => R (.error e) s'') (fun e' s'' => R (.error e') s'') s')
        { s with heap := h₁, toks := s.toks + binds.length })
    (hco : scope.isCoroutine = false) (hgen : scope.isGenerator = false) (hk : scope.kind = .function)
    (hcell : ∀ x ∈ scope.names, x.2 ≠ .cell) : codeAny (model prog w) A (.call (.ref f) args) R s := by
  obtain ⟨FG, BG, st, _⟩ := groundX (R := R) B F N hA hf hke
  obtain ⟨oL, es, ep, hLg, hLd, hLk, hLf⟩ := FG.ns
  have nL : h₀.get? L = none := kts_self F
  have hfs : ∀ b, b ∈ [env].filterMap (·.frame) → b = L := by
    intro b hb
    rw [show [env].filterMap (·.frame) = [L] from by simp [hf]] at hb
    exact List.mem_singleton.mp hb
  have X := X₀.keeps F.keep
  refine codeAny_call_def (fd := fnOf name qual params body scope dV kV doc pm an cdv ct) (body := body) (binds := binds) hroom (X _ _ ho) rfl (T.nolimit.keeps F.keep) (codeRec_of X hcd) rfl hbind hcell hloc (fun h₁ hns hk₁ => ?_) hco hgen hk
  refine wpAny_mono (h _ s.heap.objs.size h₁ ⟨⟨oL, es, ep, hLg, hLd, hLk, hLf⟩, st, F.above⟩ ⟨hns, fun b o e => hk₁ b o (of_hideAll _ e), Nat.le_of_eq (hideAll_size _ _)⟩
    (fun p hp => ⟨hk₁ _ _ (N p hp).1, Nat.ne_of_lt (Heap.lt_size (N p hp).1), hideAll_none _ (List.mem_map_of_mem hp)⟩) BG (X₀.keeps st) (T.keeps st)
    (fun b hb => by rw [hfs b hb]; exact ⟨oL, es, ep, hLg, hLd⟩) (fun p hp => Heap.lt_size (N p hp).1)) (fun fl s' hl => ?_) fun _ _ y => y
  obtain ⟨g', L', m', news', T', F', N', k⟩ := hl
  obtain ⟨sl, hs⟩ := T'.up hLg
  refine k ⟨⟨_, es, ep, F'.keep _ _ hs, hLd, hLk, hLf⟩, fun b o e => F'.keep b o (T'.other b o (st b o e) fun q => ?_), F.above⟩ fun p hp => ⟨(N' p hp).1, fun q => ?_, ?_⟩
  · rw [hfs b q, nL] at e
    cases e
  · have := (N' p hp).2.2; rw [q, hs] at this; cases this
  · cases q : h₀.get? p.1 with
    | none => rfl
    | some o =>
      obtain ⟨sl', hs'⟩ := T'.up (st _ _ q)
      have := (N' p hp).2.2
      rw [hs'] at this
      cases this
end
section
variable {prog : Program} {w : World} {A : Around} {E : Value → Shared → Prop} {s : Shared} {env : Env} {h₀ : Heap} {L a : Addr} {m : PySem.Str → Option Value} {body : List Stmt} {test : PySem.Expr} {pos : Pos} {cn : PySem.Str} {cs : Scope} {ccd : Value}
theorem iter_str_ord2 {x : PySem.Str} {t : Tok} {news : List (Addr × Obj)} {Q : Value → Shared → Prop} (hh : A.handled = none) (hF : Fr h₀ L s.heap m) (hN : News h₀ L s.heap news) (hsz : x.cps.size ≤ sizeLine)
    (hQ : ∀ D h' tk (vs : List Value) c, Fr h₀ L h' m → News h₀ L h' ((D, listOf vs.toArray c) :: news) → IntsAre vs (x.cps.toList.map fun c => ((c : Nat) : Int)) → Q (.ref D) { s with heap := h', toks := tk }) :
    wpAny (model prog w) A (pyIter (.str x t)) (CompIter prog w A h₀ L m "ord" (fun v y => ∃ c u t', v = Value.str ⟨#[c]⟩ u ∧ y = .int ((c : Nat) : Int) t') Q) E s := by
  refine iter_str_ord hh hF hN hsz fun D h' tk ys c F N hI => ?_
  have e : ys = ys.toList.toArray := by simp
  rw [e] at N
  exact hQ D h' tk ys.toList c F N hI
theorem iter_led {D : Addr} {vs : List Value} {c : Nat} {cps : List Nat} {news : List (Addr × Obj)} {Q : Value → Shared → Prop} (F : Fr h₀ L s.heap m) (N : News h₀ L s.heap ((D, listOf vs.toArray c) :: news)) (_hI : IntsAre vs (cps.map fun c => ((c : Nat) : Int)))
    (hQ : ∀ I o h', ItAt o D cps cps → (∀ p ∈ (D, listOf vs.toArray c) :: news, p.1 < I) → Fr h₀ L h' m → News h₀ L h' ((I, o) :: (D, listOf vs.toArray c) :: news) → Q (.ref I) { s with heap := h' }) :
    wpAny (model prog w) A (call (.builtin "iter") [.ref D]) Q E s := by
  refine list_iter ⟨_, (N _ (.head _)).1, rfl, c, rfl⟩ (hQ _ { cls := .type "list_iterator", data := .fields #[.ref D, .int 0 0] } _ ⟨0, rfl, rfl, rfl⟩ (fun p hp => Heap.lt_size (N p hp).1) (F.push _) fun p hp => ?_)
  rcases List.mem_cons.mp hp with rfl | hp
  · exact ⟨Heap.get?_push_size _ rfl, Nat.ne_of_gt F.ns.lt, next_is_new F⟩
  · exact ⟨Heap.get?_push_of_some _ (N p hp).1, (N p hp).2⟩
variable {Q : Flow → Shared → Prop}
def HNext (h₀ : Heap) (L : Addr) (m : PySem.Str → Option Value) (I HH T : Addr) (oT : Obj) (cps : List Nat) (rest : List (Addr × Obj)) (s : Shared) (r : List Nat) (s₂ : Shared) : Prop :=
  ∃ h' tk o' fs gs kf, s₂ = { s with heap := h', toks := tk } ∧ Fr h₀ L h' m ∧ News h₀ L h' ((I, o') :: (HH, listOf (List.toArray fs) kf) :: (T, oT) :: rest) ∧ ItAt o' T cps r ∧ IntsAre fs gs ∧ gs ++ hear false 0 r = hear false 0 cps ∧ gs.length + r.length ≤ cps.length
def HPost (h₀ : Heap) (L : Addr) (m : PySem.Str → Option Value) (I HH T : Addr) (oT : Obj) (cps : List Nat) (rest : List (Addr × Obj)) (s : Shared) (r : List Nat) (Q : Flow → Shared → Prop) (f : Flow) (s₂ : Shared) : Prop :=
  match f with
  | .ret v => Q (.ret v) s₂
  | .brk => Q .next s₂
  | .next => HNext h₀ L m I HH T oT cps rest s r s₂
  | .cont => HNext h₀ L m I HH T oT cps rest s r s₂
theorem heard_loop {I HH T : Addr} {oT : Obj} {cps : List Nat} {rest : List (Addr × Obj)} (hlen : cps.length ≤ 100000) (hE : PassesOwn (model prog w) A env E) (off : ∀ p ∈ rest, p.1 ≠ I) (n1 : @Ne Nat HH I) (n2 : @Ne Nat T I)
    (item : ∀ (r r' : List Nat) (x : Int) (fs : List Value) (gs : List Int) (kf : Nat) (o : Obj) (h : Heap) (tk : Nat), vint false 0 r = some (x, r') → ItAt o T cps r → IntsAre fs gs → gs ++ hear false 0 r = hear false 0 cps → gs.length + r.length ≤ cps.length → fs.length ≤ 100000 →
      (∀ p ∈ (HH, listOf (List.toArray fs) kf) :: (T, oT) :: rest, p.1 ≠ I) → Fr h₀ L h m → News h₀ L h ((I, o) :: (HH, listOf (List.toArray fs) kf) :: (T, oT) :: rest) →
      wpAny (model prog w) A (isTrue test env (eval test env)) (fun b s₂ => WhlIf b (wpAny (model prog w) A (execs body env) (HPost h₀ L m I HH T oT cps rest s r' Q) E s₂) (wpAny (model prog w) A (execs [] env) Q E s₂)) E { s with heap := h, toks := tk })
    (stop : ∀ (r : List Nat) (fs : List Value) (kf : Nat) (o : Obj) (h : Heap) (tk : Nat), vint false 0 r = none → ItAt o T cps r → IntsAre fs (hear false 0 cps) → 
      (∀ p ∈ (HH, listOf (List.toArray fs) kf) :: (T, oT) :: rest, p.1 ≠ I) → Fr h₀ L h m → News h₀ L h ((I, o) :: (HH, listOf (List.toArray fs) kf) :: (T, oT) :: rest) →
      wpAny (model prog w) A (isTrue test env (eval test env)) (fun b s₂ => WhlIf b (wpAny (model prog w) A (execs body env) (WhlPost prog w A E env test body [] Q 0) E s₂) (wpAny (model prog w) A (execs [] env) Q E s₂)) E { s with heap := h, toks := tk }) :
    ∀ (k : Nat) (r : List Nat) (fs : List Value) (gs : List Int) (kf : Nat) (o : Obj) (h : Heap) (tk : Nat), r.length ≤ k → ItAt o T cps r → IntsAre fs gs → gs ++ hear false 0 r = hear false 0 cps → gs.length + r.length ≤ cps.length →
      Fr h₀ L h m → News h₀ L h ((I, o) :: (HH, listOf (List.toArray fs) kf) :: (T, oT) :: rest) → WhlRest prog w A E env test body [] Q 0 { s with heap := h, toks := tk } := by
  intro k
  induction k with
  | zero =>
    intro r fs gs kf o h tk hk hat hI hg hl F N
    have : r = [] := List.length_eq_zero_iff.mp (Nat.le_zero.mp hk)
    subst this
    refine whl_turn (k := 0) hE ?_
    rw [show hear false 0 [] = [] from rfl, List.append_nil] at hg
    rw [hg] at hI
    exact stop [] fs kf o h tk rfl hat hI (List.forall_mem_cons.mpr ⟨n1, List.forall_mem_cons.mpr ⟨n2, off⟩⟩) F N
  | succ k ih =>
    intro r fs gs kf o h tk hk hat hI hg hl F N
    refine whl_turn (k := 0) hE ?_
    have hhv := hear_vint r false 0
    cases hv : vint false 0 r with
    | none =>
      rw [hv] at hhv
      simp only at hhv
      rw [hhv, List.append_nil] at hg
      rw [hg] at hI
      exact stop r fs kf o h tk hv hat hI (List.forall_mem_cons.mpr ⟨n1, List.forall_mem_cons.mpr ⟨n2, off⟩⟩) F N
    | some xr =>
      obtain ⟨x, r'⟩ := xr
      have hless := vint_less _ _ _ _ _ hv
      have e3 := hI.length
      refine wpAny_mono (item r r' x fs gs kf o h tk hv hat hI hg hl (by omega) (List.forall_mem_cons.mpr ⟨n1, List.forall_mem_cons.mpr ⟨n2, off⟩⟩) F N) (fun b s₂ hw => whlIf_map hw fun hw => wpAny_mono hw (fun f s₃ h₃ => ?_) fun _ _ e => e) fun _ _ e => e
      have fin : HNext h₀ L m I HH T oT cps rest s r' s₃ → WhlRest prog w A E env test body [] Q 0 s₃ := by
        rintro ⟨h', tk', o', fs', gs', kf', rfl, F', N', hat', hI', hg', hl'⟩
        exact ih r' fs' gs' kf' o' h' tk' (by omega) hat' hI' hg' hl' F' N'
      cases f with
      | next => exact fin h₃
      | cont => exact fin h₃
      | brk => exact h₃
      | ret v => exact h₃
theorem hpost_next {I HH T : Addr} {oT : Obj} {cps r r' : List Nat} {x : Int} {t : Tok} {fs : List Value} {gs : List Int} {kf : Nat} {o' : Obj} {rest : List (Addr × Obj)} {h' : Heap} {tk : Nat} {s₂ : Shared}
    (F : Fr h₀ L h' m) (N : News h₀ L h' ((I, o') :: (HH, listOf ((List.toArray fs).push (.int x t)) kf) :: (T, oT) :: rest)) (hat : ItAt o' T cps r') (hI : IntsAre fs gs) (hg : gs ++ hear false 0 r = hear false 0 cps) (hl : gs.length + r.length ≤ cps.length) (hv : vint false 0 r = some (x, r')) (hs : s₂ = { s with heap := h', toks := tk }) :
    HPost h₀ L m I HH T oT cps rest s r' Q .next s₂ := by
  have hhv := hear_vint r false 0
  rw [hv] at hhv
  simp only at hhv
  have hless := vint_less _ _ _ _ _ hv
  refine ⟨h', tk, o', fs ++ [.int x t], gs ++ [x], kf, hs, F, ?_, hat, hI.append (.cons _ _ .nil), ?_, by rw [List.length_append]; simp; omega⟩
  · rw [List.push_toArray] at N
    exact N
  · rw [List.append_assoc, ← hg, hhv]
    rfl
theorem heard_start {I HH T : Addr} {kf n : Nat} {o : Obj} {vs : List Value} {cps : List Nat} {rest : List (Addr × Obj)} (F : Fr h₀ L s.heap m) (N : News h₀ L s.heap ((HH, listOf #[] kf) :: (I, o) :: (T, listOf vs.toArray n) :: rest)) (hat : ItAt o T cps cps) (hlen : cps.length ≤ 100000) (hE : PassesOwn (model prog w) A env E) (off : ∀ p ∈ rest, p.1 ≠ I) (n1 : @Ne Nat HH I) (n2 : @Ne Nat T I)
    (item : ∀ (r r' : List Nat) (x : Int) (fs : List Value) (gs : List Int) (kf : Nat) (o : Obj) (h : Heap) (tk : Nat), vint false 0 r = some (x, r') → ItAt o T cps r → IntsAre fs gs → gs ++ hear false 0 r = hear false 0 cps → gs.length + r.length ≤ cps.length → fs.length ≤ 100000 →
      (∀ p ∈ (HH, listOf (List.toArray fs) kf) :: (T, listOf vs.toArray n) :: rest, p.1 ≠ I) → Fr h₀ L h m → News h₀ L h ((I, o) :: (HH, listOf (List.toArray fs) kf) :: (T, listOf vs.toArray n) :: rest) →
      wpAny (model prog w) A (isTrue test env (eval test env)) (fun b s₂ => WhlIf b (wpAny (model prog w) A (execs body env) (HPost h₀ L m I HH T (listOf vs.toArray n) cps rest s r' Q) E s₂) (wpAny (model prog w) A (execs [] env) Q E s₂)) E { s with heap := h, toks := tk })
    (stop : ∀ (r : List Nat) (fs : List Value) (kf : Nat) (o : Obj) (h : Heap) (tk : Nat), vint false 0 r = none → ItAt o T cps r → IntsAre fs (hear false 0 cps) → 
      (∀ p ∈ (HH, listOf (List.toArray fs) kf) :: (T, listOf vs.toArray n) :: rest, p.1 ≠ I) → Fr h₀ L h m → News h₀ L h ((I, o) :: (HH, listOf (List.toArray fs) kf) :: (T, listOf vs.toArray n) :: rest) →
      wpAny (model prog w) A (isTrue test env (eval test env)) (fun b s₂ => WhlIf b (wpAny (model prog w) A (execs body env) (WhlPost prog w A E env test body [] Q 0) E s₂) (wpAny (model prog w) A (execs [] env) Q E s₂)) E { s with heap := h, toks := tk }) :
    wpAny (model prog w) A (exec (.While test body [] pos) env) Q E s := by
  refine whl_start 0 (heard_loop (s := s) hlen hE off n1 n2 item stop cps.length cps [] [] kf o s.heap s.toks (Nat.le_refl _) hat .nil rfl (by simp) F fun p hp => ?_)
  rcases List.mem_cons.mp hp with rfl | hp
  · exact N _ (.tail _ (.head _))
  rcases List.mem_cons.mp hp with rfl | hp
  · exact N _ (.head _)
  · exact N _ (.tail _ (.tail _ hp))
end
theorem VClaim.item {w : World} {loose : List PySem.Str} {mean : ExcName → Option Value} {mg mb : PySem.Str → Option Value} {k : Nat} {I T : Addr} {o : Obj} {cps r r' : List Nat} {x : Int} {rest : List (Addr × Obj)}
    {dp un : Nat} {gd : Option (List Code)} {cn : PySem.Str} {cs : Scope} {a : Addr} {ccd : Value} {cl : List (PySem.Str × Addr)} {outer : List Env} {A₀ : Around} {base h₀ : Heap} {L : Addr} {m : PySem.Str → Option Value} {s : Shared} {Q E : Value → Shared → Prop}
    (C : VClaim w loose mean mg mb k I T o cps r rest) (hv : vint false 0 r = some (x, r')) (B : Below A₀ base outer h₀) (F : Fr h₀ L s.heap m) (X : (hd.heap_39 w.params).In h₀) (N : News h₀ L s.heap ((I, o) :: rest)) (T' : Top hd.view_39 loose mean mg mb h₀) (hk : cs.kind = .function)
    (hd : dp + k < recursionLimit) (hu : un + 50 * k < cLine)
    (ret : ∀ t o' h' tk', ItAt o' T cps r' → Fr h₀ L h' m → News h₀ L h' ((I, o') :: rest) → Q (.int x t) { s with heap := h', toks := tk' }) :
    wpAny (model PySem.Challenge.pw_tx0001_01 w) (ktrTop dp un gd cn cs L a ccd cl outer) (call (.ref 55) [.ref I]) Q E s :=
  C dp un gd cn cs a ccd cl outer A₀ base h₀ L m s Q E B F X N T' hk hd hu (fun x2 r2 t o' h' tk' hv2 => by rw [hv] at hv2; cases hv2; exact ret t o' h' tk') (fun _ _ _ _ _ hv2 => by rw [hv] at hv2; cases hv2)
theorem VClaim.stop {w : World} {loose : List PySem.Str} {mean : ExcName → Option Value} {mg mb : PySem.Str → Option Value} {k : Nat} {I T : Addr} {o : Obj} {cps r : List Nat} {rest : List (Addr × Obj)}
    {dp un : Nat} {gd : Option (List Code)} {cn : PySem.Str} {cs : Scope} {a : Addr} {ccd : Value} {cl : List (PySem.Str × Addr)} {outer : List Env} {A₀ : Around} {base h₀ : Heap} {L : Addr} {m : PySem.Str → Option Value} {s : Shared} {Q E : Value → Shared → Prop}
    (C : VClaim w loose mean mg mb k I T o cps r rest) (hv : vint false 0 r = none) (B : Below A₀ base outer h₀) (F : Fr h₀ L s.heap m) (X : (hd.heap_39 w.params).In h₀) (N : News h₀ L s.heap ((I, o) :: rest)) (T' : Top hd.view_39 loose mean mg mb h₀) (hk : cs.kind = .function)
    (hd : dp + k < recursionLimit) (hu : un + 50 * k < cLine)
    (exc : ∀ G e o' h' tk', Fr h₀ L G m → RaisedSN base G (envX cn cs L a ccd cl :: outer) e (.type "StopIteration") ((I, o') :: rest) h' → G.UpToSlots h' → E (.ref e) { s with heap := h', toks := tk' }) :
    wpAny (model PySem.Challenge.pw_tx0001_01 w) (ktrTop dp un gd cn cs L a ccd cl outer) (call (.ref 55) [.ref I]) Q E s :=
  C dp un gd cn cs a ccd cl outer A₀ base h₀ L m s Q E B F X N T' hk hd hu (fun x2 r2 t o' h' tk' hv2 => by rw [hv] at hv2; cases hv2) (fun G e o' h' tk' _ => exc G e o' h' tk')
/-- what _law_heard says: it is called from a frame with no other below it -/
abbrev HClaim (w : World) (loose : List PySem.Str) (mean : ExcName → Option Value) (mg mb : PySem.Str → Option Value) (k : Nat) (news : List (Addr × Obj)) (x : PySem.Str) (t : Tok) : Prop :=
  ∀ (dp un : Nat) (gd : Option (List Code)) (cn : PySem.Str) (cs : Scope) (a : Addr) (ccd : Value) (cl : List (PySem.Str × Addr)) (A₀ : Around) (base h₀ : Heap) (L : Addr) (m : PySem.Str → Option Value) (s : Shared) (Q E : Value → Shared → Prop),
    Below A₀ base [] h₀ → Fr h₀ L s.heap m → (hd.heap_39 w.params).In h₀ → (hd.heap_39 w.params).In base → News h₀ L s.heap news → Top hd.view_39 loose mean mg mb h₀ → Top hd.view_39 loose mean mg mb base → cs.kind = .function →
    dp + k < recursionLimit → un + 50 * k < cLine → MRet h₀ L m news s Q (fun led r => ∃ l' vs c, r = .ref l' ∧ (l', listOf (List.toArray vs) c) ∈ led ∧ IntsAre vs (hear false 0 x.cps.toList)) →
      wpAny (model PySem.Challenge.pw_tx0001_01 w) (ktrTop dp un gd cn cs L a ccd cl []) (call (.ref 77) [.str x t]) Q E s
local macro_rules | `(tactic| walk_at "eval ListComp") => `(tactic| (k_here; k_dflt (refine' comp_call (bn := PySem.Str.ofString "ord") (id := "ord") (x := PySem.Str.ofString "sign") (fun v y => ∃ c u t', v = Value.str ⟨#[c]⟩ u ∧ y = .int ((c : Nat) : Int) t') (by k_asm) (Top.g (by assumption)) (Top.b (by assumption)) (mg_none_of (by k_asm) (Top.g (by assumption)) ?c1) ((Top.builtins (by assumption) _ ?c2).trans ?c3) ?c4 ?c5 rfl ?c6 ?c7 (fun _ => rfl) (fun _ => rfl) ?c8 ?c9 ?_; (case c1 => k_is); (case c2 => decide); (case c3 => decide +kernel); (case c4 => decide); (case c5 => decide); (case c6 => decide); (case c7 => rfl); (case c8 => decide); (case c9 => decide))))
local macro_rules | `(tactic| walk_at "pyIter str") => `(tactic| (k_here; (refine' iter_str_ord2 ?c1 ?c2 ?c3 ?c4 ?_; (case c1 => rfl); (case c2 => k_asm); (case c3 => k_asm); (case c4 => assumption); intro D' h' tk' vs' c' F' N' hI')))
local macro_rules | `(tactic| walk_at "call builtin:iter") => `(tactic| (k_here; k_dflt (rename IntsAre _ _ => hI9; refine' iter_led ?c1 ?c2 hI9 ?_; (case c1 => k_asm); (case c2 => k_asm); intro I9 o9 h9 hat9 l9 F9 N9; (have l8 := l9); (try k_lt l8))))
local macro_rules | `(tactic| walk_at "exec While") => `(tactic| (k_here; k_dflt (rename Fr _ _ _ _ => lF9; rename News _ _ _ _ => lN9; rename ItAt _ _ _ _ => hat9; refine' heard_start lF9 lN9 hat9 ?hlen ?hE ?hoff ?n1 ?n2 (fun r r' x fs gs kf o h tk hv hat hI hg hl hl2 off F' N' => ?_) (fun r fs kf o h tk hv hat hI off F' N' => ?_); (case hlen => (simpa using (by assumption))); (case hE => first | passes_own | with_unfolding_all passes_own); (case hoff => (rename ∀ p ∈ _, Prod.fst p < _ => l9; exact fun p hp => Nat.ne_of_lt (l9 p (.tail _ hp)))); (case n1 => exact neN (by omega)); (case n2 => exact neN (by omega)); clear hat9; all_goals ((try dsimp only); (try k_fold)))))
local macro_rules | `(tactic| walk_at "call ref") => `(tactic| (k_here; (with_reducible show wpAny _ _ (call (Value.ref 55) _) _ _ _); k_dflt (rename ItAt _ _ _ _ => hat9; rename ∀ p ∈ _, Prod.fst p ≠ _ => off9; first | (refine' VClaim.item (vint_c _ _ _ _ _ _ _ _ _ _ _ _ _ hat9 ?hT ?hI off9 ?hlen) ?hv ?k1 ?k2 ?k3 ?k4 ?k5 ?k6 ?k8 ?k9 ?_; (case hv => assumption); (case k1 => k_asm); (case k2 => k_asm); (case k3 => k_asm); (case k4 => k_asm); (case k5 => k_asm); (case k6 => first | exact rfl | assumption); (case hT => k_mem); (case hI => assumption); (case hlen => (simpa using (by assumption))); (case k8 => ktr_room); (case k9 => ktr_units); clear hat9; intro t9 o9 h9 tk9 hat9 F9 N9; (try dsimp only); (try k_fold)) | (refine' VClaim.stop (vint_c _ _ _ _ _ _ _ _ _ _ _ _ _ hat9 ?hT ?hI off9 ?hlen) ?hv ?k1 ?k2 ?k3 ?k4 ?k5 ?k6 ?k8 ?k9 ?_; (case hv => assumption); (case k1 => k_asm); (case k2 => k_asm); (case k3 => k_asm); (case k4 => k_asm); (case k5 => k_asm); (case k6 => first | exact rfl | assumption); (case hT => k_mem); (case hI => assumption); (case hlen => (simpa using (by assumption))); (case k8 => ktr_room); (case k9 => ktr_units); clear hat9; intro G9 e9 o9 h9 tk9 F9 R9 U9; (try dsimp only); (try k_fold)))))
local macro_rules | `(tactic| walk_at "no such word") => `(tactic| skip)
local macro_rules | `(tactic| walk_at "noteFrame ref") => `(tactic| (k_here; k_dflt (refine' caught_SN0 (T' := "StopIteration") ?R ?F ?K ?U ?XB ?TB ?D ?T0 ?ex PyProof.Rows.Boot.«StopIteration» ?hn stop_isExc stop_notTuple stop_self ?_; (case R => assumption); (case F => assumption); (case K => assumption); (case U => assumption); (case XB => assumption); (case TB => assumption); (case D => assumption); (case T0 => first | assumption | exact KtsTurn.refl); (case ex => k_is); (case hn => decide); k_whole); intro h' g' T' F' N' K' X' P' D'; (try k_lift K'); (try k_sweep)))
theorem heard_c (w : World) (loose1 : List PySem.Str) (mean : ExcName → Option Value) (mg mb : PySem.Str → Option Value) (news : List (Addr × Obj)) (x : PySem.Str) (t : Tok) (hlen : x.cps.size ≤ 100000) (hsz : x.cps.size ≤ sizeLine) : HClaim w loose1 mean mg mb 8 news x t := by
  intro dp un gd cn cs a ccd cl A₀ base h₀ L m s Q E B F X XB N T TB hk hd hu hret
  have kMark := kstMark
  refine wpAny_call ?_
  k_dflt (refine' enterS0 ?k1 ?k2 ?k3 ?k4 ?k5 ?kA ?kF ?kK ?k6 ?k7 ?k8 ?k9 ?kB ?_ ?c2 ?c3 ?c4 ?c5; (case kA => exact rfl); (case kF => exact rfl); (case kK => assumption); (case k1 => k_asm); (case k2 => k_asm); (case k3 => k_asm); (case k4 => k_asm); (case k5 => k_asm); (case k6 => k_is); (case k7 => k_is); (case k8 => ktr_room); (case k9 => exact BindsTo.of_eq rfl); (case c5 => decide); (case kB => exact locs rfl); (case c2 => exact rfl); (case c3 => exact rfl); (case c4 => exact rfl); k_whole; intro g' L' h' FG' F' N' B' X' T' D' l1; (try k_lt l1); (try dsimp only); (try k_lift B'); (try k_fold))
  k_steps
  · rename Fr _ _ _ _ => lF9
    rename News _ _ _ _ => lN9
    rename ItAt _ _ _ _ => hat9
    exact hpost_next lF9 lN9 hat9 (by assumption) (by assumption) (by assumption) (by assumption) rfl
  · rename IntsAre _ (hear _ _ _) => hvs9
    rename News _ _ _ _ => nE
    refine hret _ _ _ _ (by k_asm) nE (fun p hp => ?_) ⟨_, _, _, rfl, by k_mem, hvs9⟩
    repeat apply List.Mem.tail
    exact hp
end Mine
-- part CompW
namespace Mine
open PySem PySem.W PyProof.Rows
set_option maxRecDepth 100000
set_option maxHeartbeats 200000
section
variable {prog : Program} {w : World} {A : Around} {E : Value → Shared → Prop} {s : Shared} {env : Env} {h₀ : Heap} {L : Addr} {m : PySem.Str → Option Value}
theorem fr_wr {h h' : Heap} {wr : List Addr} (F : Fr h₀ L h m) (hk : ∀ b o, b ∉ wr → h.get? b = some o → h'.get? b = some o) (hw : ∀ b ∈ wr, h₀.get? b = none ∧ b ≠ L) : Fr h₀ L h' m :=
  ⟨F.ns.at' fun o e => hk L o (fun q => (hw L q).2 rfl) e, fun b o e => hk b o (fun q => by rw [(hw b q).1] at e; cases e) (F.keep b o e), F.above⟩
theorem news_wr {h h' : Heap} {wr : List Addr} {news : List (Addr × Obj)} (N : News h₀ L h news) (hk : ∀ b o, b ∉ wr → h.get? b = some o → h'.get? b = some o) (hw : ∀ b ∈ wr, ∀ p ∈ news, p.1 ≠ b) : News h₀ L h' news :=
  fun p hp => ⟨hk _ _ (fun q => hw _ q p hp rfl) (N p hp).1, (N p hp).2⟩
/-- one element: from any ledger that holds what stood, the same ledger -/
def EltTurn (prog : Program) (w : World) (A : Around) (env : Env) (h₀ : Heap) (L : Addr) (m : PySem.Str → Option Value) (news : List (Addr × Obj)) (elt : Expr) (x x₂ : PySem.Str) (scope : Scope) (cl : List (PySem.Str × Addr)) (F : Value → Prop) (v1 v2 : Value) (s₁ : Shared) : Prop :=
  ∀ (C : Addr) (oC : Obj) (X : List (Addr × Obj)) (h : Heap) (m₃ : PySem.Str → Option Value) (tk : Nat) (E' : Value → Shared → Prop), h.Ns C m₃ → m₃ x = some v1 → m₃ x₂ = some v2 → Fr h₀ L h m → News h₀ L h ((C, oC) :: (X ++ news)) →
    wpAny (model prog w) A (eval elt (compEnvC scope cl C env)) (fun y s₄ => F y ∧ ∃ h₄ tk₄, s₄ = { s₁ with heap := h₄, toks := tk₄ } ∧ Fr h₀ L h₄ m ∧ News h₀ L h₄ ((C, oC) :: (X ++ news))) E' { s₁ with heap := h, toks := tk }
/-- what the fp objects of a walk are -/
def fpX (h₀ h : Heap) (fp : List Addr) : List (Addr × Obj) := fp.filterMap fun b => if (h₀.get? b).isNone = true then (h.get? b).map fun o => (b, o) else none
theorem fpX_mem {h : Heap} {fp : List Addr} {b : Addr} {o : Obj} (hb : b ∈ fp) (h1 : h₀.get? b = none) (h2 : h.get? b = some o) : (b, o) ∈ fpX h₀ h fp :=
  List.mem_filterMap.mpr ⟨b, hb, by rw [h1, h2]; rfl⟩
theorem fpX_of {h : Heap} {fp : List Addr} {p : Addr × Obj} (hp : p ∈ fpX h₀ h fp) : p.1 ∈ fp ∧ h₀.get? p.1 = none ∧ h.get? p.1 = some p.2 := by
  obtain ⟨b, hb, e⟩ := List.mem_filterMap.mp hp
  cases q : h₀.get? b with
  | some o => rw [q] at e; cases e
  | none =>
    rw [q] at e
    cases q2 : h.get? b with
    | none => rw [q2] at e; cases e
    | some o => rw [q2] at e; cases e; exact ⟨hb, q, q2⟩
theorem wt_block {elt iter : Expr} {x x₂ : PySem.Str} {px px₂ tp : Pos} {tk : Nat} {scope : Scope} {cl : List (PySem.Str × Addr)} {pos : Pos} {s₁ : Shared} {e : Addr} {fp wr : List Addr} {n : Nat} {Pt : Nat → Array Value → Prop} {St : Nat → Heap → Prop} {Mid : Nat → Addr → Heap → Prop} {news : List (Addr × Obj)} {RR : Value → Addr → Result → Shared → Prop} (Fi : Nat → Value → Prop)
    (hh : A.handled = none) (hcell : ∀ y ∈ scope.names, y.2 ≠ .cell) (hkind : scope.kind = .function) (hx : scope.names.lookup x = some .local) (hx₂ : scope.names.lookup x₂ = some .local) (hxx : x ≠ x₂)
    (W : WalksT prog w A e fp wr n Pt St Mid) (hsz : n ≤ sizeLine) (hst : St 0 s₁.heap) (hfp : ∀ b ∈ fp, b < s₁.heap.objs.size ∧ b ≠ L) (hF : Fr h₀ L s₁.heap m) (hN : News h₀ L s₁.heap news)
    (hw : ∀ b ∈ wr, h₀.get? b = none ∧ ∀ p ∈ news, p.1 ≠ b)
    (hturn : ∀ i vals, Pt i vals → i < n → ∃ v1 v2, vals = #[v1, v2] ∧ EltTurn prog w A env h₀ L m news elt x x₂ scope cl (Fi i) v1 v2 s₁)
    (hRR : ∀ D C h' tk m' (ys : List Value) c, Fr h₀ L h' m → News h₀ L h' ((D, ({ cls := .type "list", data := .seq ys.toArray c } : Obj)) :: news) → h'.Ns C m' → h₀.get? C = none → C ≠ L → C ≠ D → (∀ p ∈ news, p.1 ≠ C) → ys.length = n → (∀ j y, ys[j]? = some y → Fi j y) → (∀ p ∈ news, p.1 < D) → RR (.ref D) C (.ok .next) { s₁ with heap := h', toks := tk }) :
    wpAny (model prog w) A (newList []) (fun acc s₃ => wpAny (model prog w) A (newFunctionEnv scope env.globals cl [] env.qual none .none (some env)) (fun cenv s₄ =>
      codeAny (model prog w) A (.compStart (.ListComp elt [⟨.Tuple [.Name x px, .Name x₂ px₂] tk tp, iter, [], 0⟩] scope pos) 0 (.ref e) acc { cenv with scope := relabel scope env }) (RR acc cenv.locals) s₄) E s₃) E s₁ := by
  refine wpAny_newObj_type (wpAny_newFunctionEnv hcell (by intro y hy; simp at hy) (fun h₁ hns₁ hsb₁ => ?_) hkind)
  dsimp only at hns₁ hsb₁ ⊢
  generalize hH2 : s₁.heap.push { cls := .type "list", dict := none, data := .seq ([] : List Value).toArray } = H2 at hns₁ hsb₁ ⊢
  have hC : H2.objs.size = s₁.heap.objs.size + 1 := by rw [← hH2, Heap.size_push]
  have lt₁ : ∀ {b o}, s₁.heap.get? b = some o → b < s₁.heap.objs.size := fun e => Heap.lt_size e
  have hLlt : L < s₁.heap.objs.size := hF.ns.lt
  have old : ∀ b o, s₁.heap.get? b = some o → h₁.get? b = some o := fun b o e => hsb₁.extBut b o (Nat.ne_of_lt (Nat.lt_of_lt_of_le (lt₁ e) (by rw [hC]; exact Nat.le_succ _))) (Heap.get?_push_of_some _ (hH2 ▸ Heap.get?_push_of_some _ e))
  have hacc₁ : h₁.PlainList s₁.heap.objs.size #[] := ⟨_, hsb₁.extBut _ _ (by rw [hC]; exact Nat.ne_of_lt (by omega)) (Heap.get?_push_of_some _ (hH2 ▸ Heap.get?_push_size _ rfl))⟩
  have fresh : ∀ a, s₁.heap.objs.size ≤ a → h₀.get? a = none := fun a ha => by
    cases e : h₀.get? a with
    | none => rfl
    | some o' => exact absurd (Heap.lt_size (hF.keep _ _ e)) (Nat.not_lt.mpr ha)
  have nDC : s₁.heap.objs.size ≠ H2.objs.size := by rw [hC]; exact Nat.ne_of_lt (by omega)
  have nlt : ∀ p ∈ news, p.1 < s₁.heap.objs.size := fun p hp => Heap.lt_size (hN p hp).1
  have wlt : ∀ b ∈ wr, b < s₁.heap.objs.size ∧ b ≠ L := fun b hb => hfp b (W.sub b hb)
  have F₁ : Fr h₀ L h₁ m := ⟨hF.ns.at' fun o e => old L o e, fun b o e => old b o (hF.keep b o e), hF.above⟩
  have N₁ : News h₀ L h₁ news := fun p hp => ⟨old _ _ (hN p hp).1, (hN p hp).2⟩
  have st₁ : St 0 h₁ := W.frame _ _ _ hst fun b _ o e => old b o e
  have loop : ∀ s₃ : Shared, s₃ = { s₁ with heap := h₁, toks := s₁.toks + ([] : List (PySem.Str × Value)).length } →
      codeAny (model prog w) A (.compLoop (.ListComp elt [⟨.Tuple [.Name x px, .Name x₂ px₂] tk tp, iter, [], 0⟩] scope pos) 0 (.ref e) (.ref s₁.heap.objs.size) (compEnvC scope cl H2.objs.size env))
        (RR (.ref s₁.heap.objs.size) H2.objs.size) s₃ := by
    rintro s₃ rfl
    refine PyProof.Rows.LCp.codeAny_compLoop_pair
      (fun k s' => ∃ h' tk i, ∃ ys : List Value, ∃ m', s' = { s₁ with heap := h', toks := tk } ∧ i ≤ n ∧ k = n + 1 - i ∧ ys.length = i ∧ St i h' ∧ Fr h₀ L h' m ∧ News h₀ L h' news ∧ h'.Ns H2.objs.size m' ∧
        h'.PlainList s₁.heap.objs.size ys.toArray ∧ ∀ j y, ys[j]? = some y → Fi j y) ?_ (n + 1)
      ⟨h₁, _, 0, [], _, rfl, Nat.zero_le _, rfl, rfl, st₁, F₁, N₁, hns₁, hacc₁, fun j y e => by simp at e⟩
    rintro k s' ⟨h', tk', i, ys, m', rfl, hi, rfl, hlen, hst', hF', hN', hn, hacc, hFi⟩
    have hws : ∀ b ∈ wr, h₀.get? b = none ∧ b ≠ L := fun b hb => ⟨(hw b hb).1, (wlt b hb).2⟩
    have hwC : H2.objs.size ∉ wr := fun q => absurd (wlt _ q).1 (by rw [hC]; exact Nat.not_lt.mpr (Nat.le_succ _))
    have hwD : s₁.heap.objs.size ∉ wr := fun q => Nat.lt_irrefl _ (wlt _ q).1
    by_cases hlt : i < n
    · refine W.item i _ _ _ hlt hst' fun T vals h₂ tk₂ hP hTs hT hMid hk₂ => ?_
      obtain ⟨v1, v2, rfl, hE⟩ := hturn i vals hP hlt
      have hTw := W.apart _ _ _ hMid
      refine W.go _ _ _ i T _ _ _ hMid fun h₃ hst₃ hk₃ => ?_
      have hT₃ : IsTup h₃ T #[v1, v2] := let ⟨o, ho, r⟩ := hT; ⟨o, hk₃ _ _ hTw ho, r⟩
      have k₃ : ∀ b o, b ∉ wr → h'.get? b = some o → h₃.get? b = some o := fun b o hb e => hk₃ b o hb (hk₂ b o hb e)
      have F₃ := fr_wr hF' k₃ hws
      have N₃ := news_wr hN' k₃ fun b hb => (hw b hb).2
      have hn₃ : h₃.Ns H2.objs.size m' := hn.at' fun o e => k₃ _ o hwC e
      have hacc₃ : h₃.PlainList s₁.heap.objs.size ys.toArray := hacc.at fun o e => k₃ _ o hwD e
      refine assign_Tuple_tuple hh hT₃ rfl rfl fun h₅ he => ?_
      have he' : ∀ b o, h₃.get? b = some o → h₅.get? b = some o := fun b o e => he b o (Nat.ne_of_lt (Heap.lt_size e)) e
      refine assignInOrder_cons (wpAny_assign_Name (wpAny_storeName_local (lookup_relabel_local hx) (hn₃.keeps he') (fun h₆ hn₆ hs₆ => ?_) (by simp [compEnvC, relabel, hkind])))
      refine assignInOrder_cons (wpAny_assign_Name (wpAny_storeName_local (lookup_relabel_local hx₂) hn₆ (fun h₇ hn₇ hs₇ => ?_) (by simp [compEnvC, relabel, hkind])))
      refine assignInOrder_nil ?_
      have up : ∀ b o, b ≠ H2.objs.size → h₃.get? b = some o → h₇.get? b = some o := fun b o hb e => hs₇.extBut b o hb (hs₆.extBut b o hb (he' b o e))
      have nC : ∀ {b : Addr}, b < s₁.heap.objs.size → b ≠ H2.objs.size := fun hb => by rw [hC]; exact Nat.ne_of_lt (Nat.lt_succ_of_lt hb)
      have F₇ : Fr h₀ L h₇ m := ⟨F₃.ns.at' fun o e => up L o (nC hLlt) e, fun b o e => up b o (nC (Heap.lt_size (hF.keep b o e))) (F₃.keep b o e), F₃.above⟩
      have N₇ : News h₀ L h₇ news := fun p hp => ⟨up _ _ (nC (nlt p hp)) (N₃ p hp).1, (N₃ p hp).2⟩
      have st₇ : St (i + 1) h₇ := W.frame _ _ _ hst₃ fun b hb o e => up b o (nC (hfp b hb).1) e
      have hacc₇ : h₇.PlainList s₁.heap.objs.size ys.toArray := hacc₃.at fun o e => up _ _ nDC e
      obtain ⟨cD, hD⟩ := hacc₇
      obtain ⟨oC, esC, epC, hCget, rC⟩ := id hn₇
      have NX : News h₀ L h₇ ((H2.objs.size, oC) :: (((s₁.heap.objs.size, { cls := .type "list", dict := none, data := .seq ys.toArray cD }) :: fpX h₀ h₇ fp) ++ news)) := by
        intro p hp
        rcases List.mem_cons.mp hp with rfl | hp
        · exact ⟨hCget, (nC hLlt).symm, fresh _ (by rw [hC]; exact Nat.le_succ _)⟩
        rcases List.mem_append.mp hp with hp | hp
        · rcases List.mem_cons.mp hp with rfl | hp
          · exact ⟨hD, Nat.ne_of_gt hLlt, fresh _ (Nat.le_refl _)⟩
          · obtain ⟨q1, q2, q3⟩ := fpX_of hp
            exact ⟨q3, (hfp _ q1).2, q2⟩
        · exact N₇ p hp
      refine wpAny_mono (hE H2.objs.size oC _ h₇ _ _ _ hn₇ (by simp [hxx]) (by simp) F₇ NX) (fun y s₈ h₈ => ?_) fun _ _ e => e
      obtain ⟨hy, h₄, tk₄, rfl, F₄, N₄⟩ := h₈
      have hD₄ : h₄.PlainList s₁.heap.objs.size ys.toArray := ⟨cD, (N₄ _ (.tail _ (.head _))).1⟩
      have hn₄ : ∃ m'', h₄.Ns H2.objs.size m'' := ⟨_, oC, esC, epC, (N₄ _ (.head _)).1, rC⟩
      obtain ⟨m'', hn₄⟩ := hn₄
      have st₄ : St (i + 1) h₄ := W.frame _ _ _ st₇ fun b hb o e => by
        cases q : h₀.get? b with
        | none => exact (N₄ _ (.tail _ (.tail _ (List.mem_append_left _ (fpX_mem hb q e))))).1
        | some o' =>
          have := F₇.keep b o' q
          rw [e] at this
          cases this
          exact F₄.keep b o q
      refine wpAny_list_append_plain (hsz := by simp; omega) hD₄ fun h₅' hl₅ hs₅ => ?_
      have k₅ : ∀ b o, b ∉ [s₁.heap.objs.size] → h₄.get? b = some o → h₅'.get? b = some o := fun b o hb e => hs₅.extBut b o (fun q => hb (List.mem_singleton.mpr q)) e
      have w₅ : ∀ b ∈ [s₁.heap.objs.size], h₀.get? b = none ∧ b ≠ L := fun b hb => by rw [List.mem_singleton.mp hb]; exact ⟨fresh _ (Nat.le_refl _), Nat.ne_of_gt hLlt⟩
      refine ⟨n + 1 - (i + 1), by omega, h₅', tk₄, i + 1, ys ++ [y], m'', rfl, hlt, rfl, by rw [List.length_append, List.length_singleton, hlen], ?_, fr_wr F₄ k₅ w₅, ?_, ?_, ?_, ?_⟩
      · exact W.frame _ _ _ st₄ fun b hb o e => hs₅.extBut b o (Nat.ne_of_lt (hfp b hb).1) e
      · exact news_wr (fun p hp => N₄ p (.tail _ (.tail _ (List.mem_append_right _ hp)))) k₅ fun b hb p hp => by rw [List.mem_singleton.mp hb]; exact Nat.ne_of_lt (nlt p hp)
      · exact hn₄.sameBut hs₅ (Ne.symm nDC)
      · simpa using hl₅
      · intro j z e
        rcases Nat.lt_trichotomy j ys.length with hj | hj | hj
        · exact hFi j z (by rwa [List.getElem?_append_left hj] at e)
        · subst hj; simp at e; subst e; rw [hlen]; exact hy
        · rw [List.getElem?_eq_none (by rw [List.length_append, List.length_singleton]; omega)] at e; cases e
    · have hin : i = n := by omega
      subst hin
      refine W.done _ _ _ hst' fun h₂ tk₂ hk₂ => ?_
      have F'' : Fr h₀ L h₂ m := fr_wr hF' hk₂ hws
      obtain ⟨c, hD⟩ := hacc.at fun o e => hk₂ _ _ hwD e
      refine hRR s₁.heap.objs.size H2.objs.size h₂ tk₂ m' ys c F'' (fun p hp => ?_) (hn.at' fun o e => hk₂ _ o hwC e) (fresh _ (by rw [hC]; exact Nat.le_succ _)) (by rw [hC]; exact Nat.ne_of_gt (Nat.lt_succ_of_lt hLlt)) (Ne.symm nDC) (fun p hp => by rw [hC]; exact Nat.ne_of_lt (Nat.lt_succ_of_lt (nlt p hp))) hlen hFi nlt
      rcases List.mem_cons.mp hp with rfl | hp
      · exact ⟨hD, Nat.ne_of_gt hLlt, fresh _ (Nat.le_refl _)⟩
      · exact news_wr hN' hk₂ (fun b hb => (hw b hb).2) p hp
  exact codeAny_compStart_list (loop _ rfl) (W.self 0 _ _ _ st₁ (loop _ rfl))
/-- what a source of pairs brings -/
def WtSrc (prog : Program) (w : World) (A : Around) (env : Env) (h₀ : Heap) (L : Addr) (m : PySem.Str → Option Value) (elt : Expr) (x x₂ : PySem.Str) (scope : Scope) (cl : List (PySem.Str × Addr)) (Fi : Nat → Value → Prop) (m' : Value → PySem.Str → Option Value) (Q : Value → Shared → Prop) (xv : Value) (s₁ : Shared) : Prop :=
  ∃ e fp wr n Pt St Mid news, xv = .ref e ∧ WalksT prog w A e fp wr n Pt St Mid ∧ n ≤ sizeLine ∧ St 0 s₁.heap ∧ (∀ b ∈ fp, b < s₁.heap.objs.size ∧ b ≠ L) ∧ Fr h₀ L s₁.heap m ∧ News h₀ L s₁.heap news ∧
      (∀ b ∈ wr, h₀.get? b = none ∧ ∀ p ∈ news, p.1 ≠ b) ∧
      (∀ i vals, Pt i vals → i < n → ∃ v1 v2, vals = #[v1, v2] ∧ EltTurn prog w A env h₀ L m news elt x x₂ scope cl (Fi i) v1 v2 s₁) ∧
      (∀ D h' tk (ys : List Value) c, Fr h₀ L h' (m' (.ref D)) → News h₀ L h' ((D, ({ cls := .type "list", data := .seq ys.toArray c } : Obj)) :: news) → ys.length = n → (∀ j y, ys[j]? = some y → Fi j y) → (∀ p ∈ news, p.1 < D) → Q (.ref D) { s₁ with heap := h', toks := tk })
theorem assign_wt {elt iter : Expr} {x x₂ y : PySem.Str} {px px₂ tp py : Pos} {tk : Nat} {scope : Scope} {cl : List (PySem.Str × Addr)} {pos spos : Pos} {Q : Flow → Shared → Prop} (Fi : Nat → Value → Prop) (hLe : env.locals = L)
    (hh : A.handled = none) (hsw : swapsWith (.ListComp elt [⟨.Tuple [.Name x px, .Name x₂ px₂] tk tp, iter, [], 0⟩] scope pos) (some (.Name y py)) spos.line env = pure true)
    (hclos : closureFor scope env = pure cl) (hcell : ∀ z ∈ scope.names, z.2 ≠ .cell) (hkind : scope.kind = .function)
    (hnames : ∀ z ∈ scope.names, z.2 = .local → scope.names.lookup z.1 = some .local) (hx : scope.names.lookup x = some .local) (hx₂ : scope.names.lookup x₂ = some .local) (hxx : x ≠ x₂)
    (hy : env.kindOf y = some .local) (hp : (env.scope.kind == .class || (env.scope.kind == .module && env.locals != env.globals)) = false) (hs : ∀ x, foldedSetIterable iter env x = pure x)
    (h : wpAny (model prog w) A (eval iter env) (WtSrc prog w A env h₀ L m elt x x₂ scope cl Fi (fun v z => if z = y then some v else m z) (fun _ s => Q .next s)) E s) :
    wpAny (model prog w) A (exec (.Assign [.Name y py] (.ListComp elt [⟨.Tuple [.Name x px, .Name x₂ px₂] tk tp, iter, [], 0⟩] scope pos) spos) env) Q E s := by
  subst hLe
  rw [exec_Assign_Name_used _ _ _ _ hsw]
  refine wpAny_bind (wpAny_standAt (wpAny_bind ?_))
  show wpAny _ A (do let _ ← comprehension (.ListComp elt [⟨.Tuple [.Name x px, .Name x₂ px₂] tk tp, iter, [], 0⟩] scope pos) scope env _ (newList []) false (eval iter env) (some (assign (.Name y py) env))) _ _ s
  refine wpAny_bind (wpAny_mono (wpAny_comprehension_free (use := some (assign (.Name y py) env)) (Q := fun _ s' => Q .next s') rfl hs hclos hkind hnames
    (wpAny_mono h (fun xv s₁ h₁ => ?_) fun _ _ e => e)) (fun _ s' hq => wpAny_pure (wpAny_pure hq)) fun _ _ e => e)
  obtain ⟨e, fp, wr, n, Pt, St, Mid, news, rfl, W, hsz, hst, hfp, hF, hN, hw, hturn, hQ⟩ := h₁
  refine W.self 0 _ _ _ hst ?_
  refine wt_block Fi hh hcell hkind hx hx₂ hxx W hsz hst hfp hF hN hw hturn ?_
  intro D C h' tk m' ys c F' N' hn hC₀ hCL hCD offC hl hFi hlt
  show wpAny _ A (assign (.Name y py) env (.ref D)) _ _ _
  refine wpAny_assign_Name (wpAny_storeName_local hy F'.ns (fun h₂ hn₂ hs₂ => ?_) hp)
  have hL₀ : h₀.get? env.locals = none := Heap.get?_none_of_le F'.above
  have F₂ : Fr h₀ env.locals h₂ (fun z => if z = y then some (.ref D) else m z) := ⟨hn₂, fun b o e => hs₂.extBut b o (fun q => by rw [q, hL₀] at e; cases e) (F'.keep b o e), F'.above⟩
  refine ⟨m', hn.sameBut hs₂ hCL, fun h'' hs'' => hQ D h'' _ ys c (fr_wr F₂ (wr := [C]) (fun b o hb e => hs''.extBut b o (fun q => hb (List.mem_singleton.mpr q)) e) fun b hb => by rw [List.mem_singleton.mp hb]; exact ⟨hC₀, hCL⟩) (fun p hp => ?_) hl hFi hlt⟩
  have z : h₂.get? p.1 = some p.2 := hs₂.extBut _ _ (N' p hp).2.1 (N' p hp).1
  refine ⟨hs''.extBut _ _ ?_ z, (N' p hp).2⟩
  rcases List.mem_cons.mp hp with rfl | hp
  · exact Ne.symm hCD
  · exact offC p hp
end
end Mine
-- part LawA
namespace Mine
open PySem PySem.W PyProof.Rows PySem.Spec PySem.Calls
set_option maxRecDepth 100000
set_option maxHeartbeats 200000
section
variable {prog : Program} {w : World} {A : Around} {E : Value → Shared → Prop} {s : Shared}
theorem nextOf_tup_item {it l : Addr} {i : Nat} {items : Array Value} {x : Value} {Q : Value → Shared → Prop} (hit : s.heap.IsTupleIter it l i) (hl : s.heap.IsTuple l items) (hx : items[i]? = some x)
    (hQ : ∀ h', h'.IsTupleIter it l (i + 1) → Heap.SameBut it s.heap h' → Q x { s with heap := h' }) : wpAny (model prog w) A (Builtin.SmallTypes.nextOf (.ref it)) Q E s := by
  obtain ⟨o, ho, hc, hd⟩ := id hit
  obtain ⟨ol, hol, _, nl, hdl⟩ := hl
  unfold Builtin.SmallTypes.nextOf
  refine wpAny_bind (wpAny_callSpecial?_slot (name := Str.ofString "__next__") hit.typeIs F.slot_tuple_iterator_next
    (wpAny_call_entry F.slot_tuple_iterator_next hit.typeIs F.entry_tuple_iterator_next ?_ (F.args_tuple_iterator_next_1 _)))
  show wpAny _ _ (field (.ref it) 0 >>= _) _ _ s
  refine wpAny_bind (wpAny_field ho hd (x := .ref l) rfl ?_)
  show wpAny _ _ (if (Value.ref l == Value.none) = true then _ else _) _ _ s
  rw [if_neg (show ¬ ((Value.ref l == Value.none) = true) from Bool.false_ne_true)]
  show wpAny _ _ (field (.ref it) 1 >>= _) _ _ s
  refine wpAny_bind (wpAny_field ho hd (x := .int i 0) rfl ?_)
  show wpAny _ _ (seqItems? (.ref l) >>= _) _ _ s
  refine wpAny_bind (wpAny_seqItems hol hdl ?_)
  simp only [Int.toNat_natCast, hx]
  refine wpAny_bind (wpAny_setField ho hd (by simp) (wpAny_pure ⟨x, rfl, wpAny_pure (hQ _ ?_ (Heap.SameBut.update ..))⟩))
  exact ⟨_, Heap.get?_update_self _ ho (Obj.isFreed_of_fields (Obj.data_mapFields hd _)), (Obj.cls_mapFields ..).trans hc, by
    rw [Obj.data_mapFields hd]; simp [rawInt]⟩
theorem nextOf_tup_end {it l : Addr} {i : Nat} {items : Array Value} {Q : Value → Shared → Prop} (hh : A.handled = none) (hit : s.heap.IsTupleIter it l i) (hl : s.heap.IsTuple l items) (hx : items[i]? = none)
    (hE : ∀ h' e, Heap.ExtBut it s.heap h' → (∃ o, h'.get? e = some o ∧ o.cls = .type "StopIteration") → E (.ref e) { s with heap := h' }) : wpAny (model prog w) A (Builtin.SmallTypes.nextOf (.ref it)) Q E s := by
  obtain ⟨o, ho, hc, hd⟩ := id hit
  obtain ⟨ol, hol, _, nl, hdl⟩ := hl
  unfold Builtin.SmallTypes.nextOf
  refine wpAny_bind (wpAny_callSpecial?_slot (name := Str.ofString "__next__") hit.typeIs F.slot_tuple_iterator_next
    (wpAny_call_entry F.slot_tuple_iterator_next hit.typeIs F.entry_tuple_iterator_next ?_ (F.args_tuple_iterator_next_1 _)))
  show wpAny _ _ (field (.ref it) 0 >>= _) _ _ s
  refine wpAny_bind (wpAny_field ho hd (x := .ref l) rfl ?_)
  show wpAny _ _ (if (Value.ref l == Value.none) = true then _ else _) _ _ s
  rw [if_neg (show ¬ ((Value.ref l == Value.none) = true) from Bool.false_ne_true)]
  show wpAny _ _ (field (.ref it) 1 >>= _) _ _ s
  refine wpAny_bind (wpAny_field ho hd (x := .int i 0) rfl ?_)
  show wpAny _ _ (seqItems? (.ref l) >>= _) _ _ s
  refine wpAny_bind (wpAny_seqItems hol hdl ?_)
  simp only [Int.toNat_natCast, hx]
  refine wpAny_bind (wpAny_rule (wpAny_bind (wpAny_setField ho hd (by simp) ?_)))
  show wpAny _ _ (newExc (.type "StopIteration") [] >>= _) _ _ _
  refine wpAny_bind ?_
  simp only [newExc, newTuple]
  refine wpAny_bind (wpAny_newObj_type ?_ (by size_fits))
  refine wpAny_bind (m := firstArgMember _ _) (wpAny_of_eq (a := Value.none) (by first | rfl | (simp only [firstArgMember]; rfl)) ?_)
  refine wpAny_newObj_type ?_ (by size_fits)
  simp only [raiseNew]
  refine wpAny_bind (wpAny_handled ?_)
  first | rw [show A.in1.handled = none from hh] | rw [hh]
  refine wpAny_bind (wpAny_pure (wpAny_throw ?_))
  exact hE _ _ (((Heap.SameBut.update ..).extBut.push _).push _) ⟨_, Heap.get?_push_size _ rfl, rfl⟩
end
theorem drawsTup {prog : Program} {w : World} {A : Around} (hh : A.handled = none) (it l : Addr) (hne : l ≠ it) (items : Array Value) :
    Draws prog w A it [it, l] items.size (fun i v => items[i]? = some v) (fun i h => h.IsTupleIter it l i ∧ h.IsTuple l items) where
  live := fun _ _ st => let ⟨o, ho, _⟩ := st.1; ⟨o, ho⟩
  frame := fun _ _ _ st hk => ⟨(let ⟨o, ho, r⟩ := st.1; ⟨o, hk it (by simp) o ho, r⟩), (let ⟨o, ho, r⟩ := st.2; ⟨o, hk l (by simp) o ho, r⟩)⟩
  item := fun i s Q E hi st hQ => by
    refine nextOf_tup_item st.1 st.2 (x := items[i]) (by simp [hi]) fun h' hit' hs' => ?_
    exact hQ _ h' s.toks (by simp [hi]) ⟨hit', st.2.extBut hs'.extBut hne⟩ hs'
  done := fun s Q E st hE => nextOf_tup_end hh st.1 st.2 (by simp) hE
theorem meets_enum_tup (l : Addr) (items : Array Value) (n : Nat) (dct : Option Addr) (sl : Array (Option Value)) :
    Meets (Builtin.«enumerate.__new__» ⟨[.type "enumerate", .ref l], []⟩) (fun _ R s => s.heap.get? l = some { cls := .type "tuple", dict := dct, data := .seq items n, slots := sl } ∧
      R (.ok (.ret (.ref (s.heap.push { cls := .type "tuple_iterator", data := .fields #[.ref l, .int 0 0] }).objs.size)))
        { s with heap := (s.heap.push { cls := .type "tuple_iterator", data := .fields #[.ref l, .int 0 0] }).push { cls := .type "enumerate", data := .fields #[.none, .bool false, .ref s.heap.objs.size, rawInt 0, .none, .none] } }) :=
  .of_wp fun prog w A R s h => by
    obtain ⟨hp, g, d, tk, os⟩ := s; obtain ⟨hl, h⟩ := h
    have hsub := sub_enumerate
    have hL : Heap.IsTuple (Shared.heap ⟨hp, g, d, tk, os⟩) l items := ⟨_, hl, rfl, n, rfl⟩
    wp_walk using AutoSeq1.wpAny_loadPart' hl
    refine wpAny_stack_any fun st => wpAny_pure ?_
    split
    · rename_i c _ _ _ _ _
      cases (c == Value.type "enumerate")
      · wp_walk using AutoSeq1.wpAny_loadPart' hl, wpAny_pyIter_tuple hL
        exact ⟨_, rfl, h⟩
      · wp_walk using AutoSeq1.wpAny_loadPart' hl, wpAny_pyIter_tuple hL
        exact ⟨_, rfl, h⟩
    · wp_walk using AutoSeq1.wpAny_loadPart' hl, wpAny_pyIter_tuple hL
      exact ⟨_, rfl, h⟩
section
variable {prog : Program} {w : World} {A : Around} {E : Value → Shared → Prop} {s : Shared}
theorem call_enum_tup {l : Addr} {items : Array Value} {Q : Value → Shared → Prop} (hL : s.heap.IsTuple l items)
    (h : ∀ h', IsEnum h' (s.heap.objs.size + 1) s.heap.objs.size 0 .none → h'.IsTupleIter s.heap.objs.size l 0 → h'.objs.size = s.heap.objs.size + 2 →
      (∀ b o, s.heap.get? b = some o → h'.get? b = some o) → Q (.ref (s.heap.objs.size + 1)) { s with heap := h' }) :
    wpAny (model prog w) A (call (.type "enumerate") [.ref l]) Q E s := by
  obtain ⟨⟨c, dct, dt, sl⟩, hl, hc, n, hd⟩ := hL
  replace hc : c = .type "tuple" := hc
  replace hd : dt = .seq items n := hd
  subst hc hd
  refine callType_new F.called_enumerate (by decide) (F.typeCall_enumerate_1 _) (F.newCall_enumerate_1 _) (fun obj => F.args_object_init_2 obj _) F.entry_enumerate_new
    (meets_enum_tup l items n dct sl) ⟨hl, ?_⟩
  have hz : (s.heap.push { cls := .type "tuple_iterator", data := .fields #[.ref l, .int 0 0] }).objs.size = s.heap.objs.size + 1 := Heap.size_push ..
  show _ ∧ _
  rw [hz]
  have he : IsEnum ((s.heap.push { cls := .type "tuple_iterator", data := .fields #[.ref l, .int 0 0] }).push
      { cls := .type "enumerate", data := .fields #[.none, .bool false, .ref s.heap.objs.size, rawInt 0, .none, .none] }) (s.heap.objs.size + 1) s.heap.objs.size 0 .none := by
    have := Heap.get?_push_size (s.heap.push { cls := .type "tuple_iterator", data := .fields #[.ref l, .int 0 0] })
      (o := { cls := .type "enumerate", data := .fields #[.none, .bool false, .ref s.heap.objs.size, rawInt 0, .none, .none] }) rfl
    rw [hz] at this; exact this
  refine ⟨⟨_, he, rfl⟩, h _ he ⟨_, Heap.get?_push_of_some _ (Heap.get?_push_size _ rfl), rfl, rfl⟩ (by rw [Heap.size_push, hz]) fun b o x => Heap.get?_push_of_some _ (Heap.get?_push_of_some _ x)⟩
end
theorem ints_some : ∀ (zs : List Value), (∀ v ∈ zs, ∃ z t, v = Value.int z t) → ∃ ms, IntsAre zs ms
  | [], _ => ⟨[], .nil⟩
  | v :: zs, h => by
    obtain ⟨z, t, rfl⟩ := h v (.head _)
    obtain ⟨ms, hm⟩ := ints_some zs fun v hv => h v (.tail _ hv)
    exact ⟨_, .cons z t hm⟩
theorem ints_mem : ∀ {vs : List Value} {ns : List Int}, IntsAre vs ns → ∀ v ∈ vs, ∃ z t, v = Value.int z t
  | _, _, .nil, _, hv => nomatch hv
  | _, _, .cons z t r, v, hv => by
    rcases List.mem_cons.mp hv with rfl | hv
    · exact ⟨z, t, rfl⟩
    · exact ints_mem r v hv
theorem pick_ints {vs : List Value} {ns : List Int} (hi : IntsAre vs ns) (lo hi' st : Option Int) : ∃ ms, IntsAre (slicePick vs.toArray lo hi' st).toList ms := by
  refine ints_some _ fun v hv => ints_mem hi v ?_
  unfold slicePick at hv
  rw [List.toList_toArray] at hv
  obtain ⟨i, _, e⟩ := List.mem_filterMap.mp hv
  rw [List.getElem?_toArray] at e
  exact List.mem_of_getElem? e
/-- a small number -/
def SmallI (y : Value) : Prop := ∃ z t, y = Value.int z t ∧ -2048 ≤ z ∧ z ≤ 2047
section
variable {prog : Program} {w : World} {A : Around} {E : Value → Shared → Prop} {s : Shared} {env : Env} {h₀ : Heap} {L : Addr} {m : PySem.Str → Option Value} {news : List (Addr × Obj)} {scope : Scope} {cl : List (PySem.Str × Addr)}
theorem elt_first {c l : Addr} {oc : Obj} {vs : List Value} {ns : List Int} {p1 p2 p3 p4 p5 p6 p7 p8 p9 p10 p11 p12 p13 p14 p15 : Pos} {z1 z2 z3 z4 : Nat} {mg mb : PySem.Str → Option Value} {k st : Int} {tk0 ts : Tok} {s₁ : Shared}
    (hI : IntsAre vs ns) (hl : h₀.IsList l vs.toArray) (hoc : (c, oc) ∈ news) (hcd : oc.data = .cell (some (.ref l))) (hc : cl.lookup (PySem.Str.ofString "script") = some c) (hh : A.handled = none)
    (hg : h₀.Ns env.globals mg) (hbn : h₀.Ns env.builtins mb) (hmiss : mg (PySem.Str.ofString "sum") = none) (hbl : mb (PySem.Str.ofString "sum") = some (.builtin "sum"))
    (h1 : ∀ C, (compEnvC scope cl C env).scope.kind = .function) (h2 : ∀ C, (compEnvC scope cl C env).kindOf (PySem.Str.ofString "script") = some .cell) (h3 : ∀ C, (compEnvC scope cl C env).kindOf (PySem.Str.ofString "k") = some .local) (h4 : ∀ C, (compEnvC scope cl C env).kindOf (PySem.Str.ofString "start") = some .local)
    (h5 : ∀ C, (compEnvC scope cl C env).kindOf (PySem.Str.ofString "sum") = some .globalImplicit) (hsz : vs.length ≤ 1000) :
    EltTurn prog w A env h₀ L m news
      (.BinOp (.BinOp (.BinOp (.BinOp (.Name (PySem.Str.ofString "start") p1) .Add (.Call (.Name (PySem.Str.ofString "sum") p2) [.Subscript (.Name (PySem.Str.ofString "script") p3) (.Slice (some (.Name (PySem.Str.ofString "k") p4)) none (some (.Constant (.int 5) z1 p5)) p6) p7] [] p8) p9) .Add (.Constant (.int 2048) z2 p10) p11) .Mod (.Constant (.int 4096) z3 p12) p13) .Sub (.Constant (.int 2048) z4 p14) p15)
      (PySem.Str.ofString "k") (PySem.Str.ofString "start") scope cl SmallI (.int k tk0) (.int st ts) s₁ := by
  intro C oC X h m₃ tk E' hn hx hx₂ F N
  have up : ∀ b o, h₀.get? b = some o → h.get? b = some o := F.keep
  have hoc' : (c, oc) ∈ (C, oC) :: (X ++ news) := .tail _ (List.mem_append_right _ hoc)
  have hl' : h.IsList l vs.toArray := hl.at fun o e => up _ o e
  refine wpAny_BinOp (wpAny_BinOp (wpAny_BinOp (wpAny_BinOp (loc_name (h1 C) (h4 C) hn hx₂ ?_ (by decide +kernel)))))
  refine Call_ ?_
  refine Calls.Name_function_global (h1 C) (h5 C) (Calls.loadGlobal_builtin (env := compEnvC scope cl C env) (hg.keeps up) hmiss (hbn.keeps up) hbl ?_) (by decide +kernel)
  refine callWith_method1 (args_cons (Subscript_ (kcf_cell N hc hoc' hcd ?_ (h1 C) (h2 C) (by decide +kernel))))
  refine wpAny_Slice ?_
  show wpAny _ _ (eval (.Name (PySem.Str.ofString "k") p4) _) _ _ _
  refine loc_name (h1 C) (h3 C) hn hx ?_ (by decide +kernel)
  show wpAny _ _ (pure Value.none) _ _ _
  refine wpAny_pure ?_
  show wpAny _ _ (eval (.Constant (.int 5) z1 p5) _) _ _ _
  refine wpAny_Constant_int ?_
  refine kmk_slice3_lit (s := { s₁ with heap := h, toks := tk + 1 }) (lo := some k) (hi := none) (st := some 5) F N hl' (.int _ _) .none (.int _ _) (by decide) rfl (fun D h' F' N' _ => ?_) (by with_unfolding_all rfl) (by intro r; rfl) (by rw [List.size_toArray]; exact Nat.le_trans hsz (by decide))
  refine args_nil ?_
  obtain ⟨ms, hm⟩ := pick_ints hI (some k) none (some 5)
  refine PyProof.Rows.LSm.sum_ints F' N' hh ⟨_, (N' _ (.head _)).1, rfl, _, rfl⟩ hm fun h'' tk'' t'' F'' N'' => ?_
  refine add_int ?_
  refine wpAny_Constant_int ?_
  refine add_int ?_
  refine wpAny_Constant_int ?_
  refine mod_int (by decide) ?_
  refine wpAny_Constant_int ?_
  refine sub_int ?_
  refine ⟨⟨_, _, rfl, ?_, ?_⟩, h'', _, rfl, F'', fun p hp => N'' p (.tail _ hp)⟩
  · have := Int.fmod_nonneg_of_pos (st + ms.sum + 2048) (b := 4096) (by decide)
    omega
  · have := Int.fmod_lt_of_pos (st + ms.sum + 2048) (b := 4096) (by decide)
    omega
end
end Mine
-- part LawS
namespace Mine
open PySem PySem.W PyProof.Rows PySem.Spec PySem.Calls
set_option maxRecDepth 100000
set_option maxHeartbeats 200000
section
variable {prog : Program} {w : World} {A : Around} {E : Value → Shared → Prop} {s : Shared} {env : Env} {h₀ : Heap} {L : Addr} {m : PySem.Str → Option Value} {news : List (Addr × Obj)}
theorem src_tup {T : Addr} {ot : Obj} {items : Array Value} {nt : Nat} {elt : Expr} {x x₂ : PySem.Str} {scope : Scope} {cl : List (PySem.Str × Addr)} {Fi : Nat → Value → Prop} {m' : Value → PySem.Str → Option Value} {Q : Value → Shared → Prop}
    (hh : A.handled = none) (F : Fr h₀ L s.heap m) (N : News h₀ L s.heap ((T, ot) :: news)) (hc : ot.cls = .type "tuple") (hd : ot.data = .seq items nt) (hsz : items.size ≤ sizeLine)
    (turn : ∀ i v t (s₁ : Shared), items[i]? = some v → EltTurn prog w A env h₀ L m ((T, ot) :: news) elt x x₂ scope cl (Fi i) (.int (i : Int) t) v s₁)
    (done : ∀ D h' tk (ys : List Value) c, Fr h₀ L h' (m' (.ref D)) → News h₀ L h' ((D, ({ cls := .type "list", data := .seq ys.toArray c } : Obj)) :: (T, ot) :: news) → ys.length = items.size → (∀ j y, ys[j]? = some y → Fi j y) → (∀ p ∈ (T, ot) :: news, p.1 < D) → Q (.ref D) { s with heap := h', toks := tk }) :
    wpAny (model prog w) A (call (.type "enumerate") [.ref T]) (WtSrc prog w A env h₀ L m elt x x₂ scope cl Fi m' Q) E s := by
  have hT : s.heap.IsTuple T items := ⟨ot, (N _ (.head _)).1, hc, nt, hd⟩
  have hlt : T < s.heap.objs.size := Heap.lt_size (N _ (.head _)).1
  refine call_enum_tup hT fun h' he hit hsz' hk => ?_
  have hL := F.ns.lt
  have ne1 : s.heap.objs.size + 1 ≠ s.heap.objs.size := Nat.succ_ne_self _
  have ne2 : T ≠ s.heap.objs.size := Nat.ne_of_lt hlt
  have ne3 : s.heap.objs.size + 1 ≠ T := Nat.ne_of_gt (Nat.lt_succ_of_lt hlt)
  have fresh : ∀ a, s.heap.objs.size ≤ a → h₀.get? a = none := fun a ha => by
    cases e : h₀.get? a with
    | none => rfl
    | some o' => exact absurd (Heap.lt_size (F.keep _ _ e)) (Nat.not_lt.mpr ha)
  refine ⟨s.heap.objs.size + 1, _, _, items.size, _, _, _, (T, ot) :: news, rfl, WalksT.enumerateD (drawsTup (A := A.in1) hh s.heap.objs.size T ne2 items) (s.heap.objs.size + 1) ne1 (by simp [ne1, ne3]) (by simp), hsz,
    ⟨⟨.none, he⟩, hit, (let ⟨o, ho, r⟩ := hT; ⟨o, hk _ _ ho, r⟩)⟩, fun b hb => ?_, F.keeps hk, fun p hp => ⟨hk _ _ (N p hp).1, (N p hp).2⟩, fun b hb => ?_, fun i vals hP hi => ?_, fun D h'' tk ys c F' N' hl hFi hD => done D h'' tk ys c F' N' hl hFi hD⟩
  · show b < h'.objs.size ∧ _
    rw [hsz']
    simp only [List.mem_cons, List.not_mem_nil, or_false] at hb
    rcases hb with rfl | rfl | rfl
    · exact ⟨Nat.lt_succ_self _, Nat.ne_of_gt (Nat.lt_succ_of_lt hL)⟩
    · exact ⟨Nat.lt_succ_of_lt (Nat.lt_succ_self _), Nat.ne_of_gt hL⟩
    · exact ⟨Nat.lt_succ_of_lt (Nat.lt_succ_of_lt hlt), (N _ (.head _)).2.1⟩
  · have hb' : s.heap.objs.size ≤ b := by
      simp only [List.mem_cons, List.not_mem_nil, or_false] at hb
      rcases hb with rfl | rfl
      · exact Nat.le_succ _
      · exact Nat.le_refl _
    exact ⟨fresh _ hb', fun p hp => Nat.ne_of_lt (Nat.lt_of_lt_of_le (Heap.lt_size (N p hp).1) hb')⟩
  · obtain ⟨t, v, hv, rfl⟩ := hP
    exact ⟨_, _, rfl, turn i v t _ hv⟩
theorem src_list {T : Addr} {vs : List Value} {ns : List Int} {nt : Nat} {elt : Expr} {x x₂ : PySem.Str} {scope : Scope} {cl : List (PySem.Str × Addr)} {Fi : Nat → Value → Prop} {m' : Value → PySem.Str → Option Value} {Q : Value → Shared → Prop}
    (hh : A.handled = none) (F : Fr h₀ L s.heap m) (N : News h₀ L s.heap news) (hm : (T, ({ cls := .type "list", data := .seq vs.toArray nt } : Obj)) ∈ news) (hI : IntsAre vs ns) (hsz : ns.length ≤ sizeLine)
    (turn : ∀ (i : Nat) z t t' (s₁ : Shared), i < ns.length → ns[i]? = some z → EltTurn prog w A env h₀ L m news elt x x₂ scope cl (Fi i) (.int (i : Int) t) (.int z t') s₁)
    (done : ∀ D h' tk (ys : List Value) c, Fr h₀ L h' (m' (.ref D)) → News h₀ L h' ((D, ({ cls := .type "list", data := .seq ys.toArray c } : Obj)) :: news) → ys.length = ns.length → (∀ j y, ys[j]? = some y → Fi j y) → (∀ p ∈ news, p.1 < D) → Q (.ref D) { s with heap := h', toks := tk }) :
    wpAny (model prog w) A (call (.type "enumerate") [.ref T]) (WtSrc prog w A env h₀ L m elt x x₂ scope cl Fi m' Q) E s := by
  have hT : s.heap.IsList T vs.toArray := ⟨_, (N _ hm).1, rfl, nt, rfl⟩
  have hlt : T < s.heap.objs.size := Heap.lt_size (N _ hm).1
  have hlen : vs.toArray.size = ns.length := by rw [List.size_toArray, hI.length]
  refine call_enumerate_list hT fun h' he hit hsz' hk => ?_
  have hL := F.ns.lt
  have ne1 : s.heap.objs.size + 1 ≠ s.heap.objs.size := Nat.succ_ne_self _
  have ne2 : T ≠ s.heap.objs.size := Nat.ne_of_lt hlt
  have ne3 : s.heap.objs.size + 1 ≠ T := Nat.ne_of_gt (Nat.lt_succ_of_lt hlt)
  have fresh : ∀ a, s.heap.objs.size ≤ a → h₀.get? a = none := fun a ha => by
    cases e : h₀.get? a with
    | none => rfl
    | some o' => exact absurd (Heap.lt_size (F.keep _ _ e)) (Nat.not_lt.mpr ha)
  refine ⟨s.heap.objs.size + 1, _, _, vs.toArray.size, _, _, _, news, rfl, WalksT.enumerateD (Draws.list (A := A.in1) hh s.heap.objs.size T ne2 vs.toArray) (s.heap.objs.size + 1) ne1 (by simp [ne1, ne3]) (by simp), by rw [hlen]; exact hsz,
    ⟨⟨.none, he⟩, hit, hT.at fun o e => hk _ o e⟩, fun b hb => ?_, F.keeps hk, fun p hp => ⟨hk _ _ (N p hp).1, (N p hp).2⟩, fun b hb => ?_, fun i vals hP hi => ?_, fun D h'' tk ys c F' N' hl hFi hD => done D h'' tk ys c F' N' (hl.trans hlen) hFi hD⟩
  · show b < h'.objs.size ∧ _
    rw [hsz']
    simp only [List.mem_cons, List.not_mem_nil, or_false] at hb
    rcases hb with rfl | rfl | rfl
    · exact ⟨Nat.lt_succ_self _, Nat.ne_of_gt (Nat.lt_succ_of_lt hL)⟩
    · exact ⟨Nat.lt_succ_of_lt (Nat.lt_succ_self _), Nat.ne_of_gt hL⟩
    · exact ⟨Nat.lt_succ_of_lt (Nat.lt_succ_of_lt hlt), (N _ hm).2.1⟩
  · have hb' : s.heap.objs.size ≤ b := by
      simp only [List.mem_cons, List.not_mem_nil, or_false] at hb
      rcases hb with rfl | rfl
      · exact Nat.le_succ _
      · exact Nat.le_refl _
    exact ⟨fresh _ hb', fun p hp => Nat.ne_of_lt (Nat.lt_of_lt_of_le (Heap.lt_size (N p hp).1) hb')⟩
  · obtain ⟨t, v, hv, rfl⟩ := hP
    rw [List.getElem?_toArray] at hv
    have hi' : i < ns.length := by rw [hlen] at hi; exact hi
    have hz : ns[i]? = some ns[i] := List.getElem?_eq_getElem hi'
    obtain ⟨t', ht'⟩ := hI.get _ _ hz
    rw [hv] at ht'
    cases ht'
    exact ⟨_, _, rfl, turn i _ t t' _ hi' hz⟩
theorem assign_wtF {elt iter : Expr} {x x₂ y : PySem.Str} {px px₂ tp py : Pos} {tk : Nat} {scope : Scope} {cl : List (PySem.Str × Addr)} {pos spos : Pos} {Q : Flow → Shared → Prop} (_F : Fr h₀ L s.heap m) (Fi : Nat → Value → Prop) (hLe : env.locals = L)
    (hh : A.handled = none) (hsw : swapsWith (.ListComp elt [⟨.Tuple [.Name x px, .Name x₂ px₂] tk tp, iter, [], 0⟩] scope pos) (some (.Name y py)) spos.line env = pure true)
    (hclos : closureFor scope env = pure cl) (hcell : ∀ z ∈ scope.names, z.2 ≠ .cell) (hkind : scope.kind = .function)
    (hnames : ∀ z ∈ scope.names, z.2 = .local → scope.names.lookup z.1 = some .local) (hx : scope.names.lookup x = some .local) (hx₂ : scope.names.lookup x₂ = some .local) (hxx : x ≠ x₂)
    (hy : env.kindOf y = some .local) (hp : (env.scope.kind == .class || (env.scope.kind == .module && env.locals != env.globals)) = false) (hs : ∀ x, foldedSetIterable iter env x = pure x)
    (h : wpAny (model prog w) A (eval iter env) (WtSrc prog w A env h₀ L m elt x x₂ scope cl Fi (fun v z => if z = y then some v else m z) (fun _ s => Q .next s)) E s) :
    wpAny (model prog w) A (exec (.Assign [.Name y py] (.ListComp elt [⟨.Tuple [.Name x px, .Name x₂ px₂] tk tp, iter, [], 0⟩] scope pos) spos) env) Q E s :=
  assign_wt Fi hLe hh hsw hclos hcell hkind hnames hx hx₂ hxx hy hp hs h
theorem small_five {ys : List Value} {n : Nat} (hn : n = 5) (hl : ys.length = n) (h : ∀ (j : Nat) y, ys[j]? = some y → SmallI y) : ∃ a0 a1 a2 a3 a4 : Int, ∃ t0 t1 t2 t3 t4 : Tok, ys = [.int a0 t0, .int a1 t1, .int a2 t2, .int a3 t3, .int a4 t4] ∧ (-2048 ≤ a0 ∧ a0 ≤ 2047) ∧ (-2048 ≤ a1 ∧ a1 ≤ 2047) ∧ (-2048 ≤ a2 ∧ a2 ≤ 2047) ∧ (-2048 ≤ a3 ∧ a3 ≤ 2047) ∧ (-2048 ≤ a4 ∧ a4 ≤ 2047) := by
  subst hn
  match ys, hl, h with
  | [y0, y1, y2, y3, y4], _, h =>
    obtain ⟨a0, t0, rfl, b0, c0⟩ := h 0 _ rfl
    obtain ⟨a1, t1, rfl, b1, c1⟩ := h 1 _ rfl
    obtain ⟨a2, t2, rfl, b2, c2⟩ := h 2 _ rfl
    obtain ⟨a3, t3, rfl, b3, c3⟩ := h 3 _ rfl
    obtain ⟨a4, t4, rfl, b4, c4⟩ := h 4 _ rfl
    exact ⟨a0, a1, a2, a3, a4, t0, t1, t2, t3, t4, rfl, ⟨b0, c0⟩, ⟨b1, c1⟩, ⟨b2, c2⟩, ⟨b3, c3⟩, ⟨b4, c4⟩⟩
end
end Mine
-- part LawU
namespace Mine
open PySem PySem.W PyProof.Rows
set_option maxRecDepth 100000
set_option maxHeartbeats 200000
/-- the five numbers -/
def Five (ns : List Int) : Prop := ∃ a0 a1 a2 a3 a4 : Int, ns = [a0, a1, a2, a3, a4] ∧ (-2048 ≤ a0 ∧ a0 ≤ 2047) ∧ (-2048 ≤ a1 ∧ a1 ≤ 2047) ∧ (-2048 ≤ a2 ∧ a2 ≤ 2047) ∧ (-2048 ≤ a3 ∧ a3 ≤ 2047) ∧ (-2048 ≤ a4 ∧ a4 ≤ 2047)
theorem diffs_five (a0 a1 a2 a3 a4 : Int) : diffsOf [a0, a1, a2, a3, a4] = [a0, a1 - a0, (a2 - a1) - (a1 - a0), ((a3 - a2) - (a2 - a1)) - ((a2 - a1) - (a1 - a0)), (((a4 - a3) - (a3 - a2)) - ((a3 - a2) - (a2 - a1))) - (((a3 - a2) - (a2 - a1)) - ((a2 - a1) - (a1 - a0)))] := rfl
theorem five_len {ns : List Int} (h : Five ns) : (diffsOf ns).length = 5 := by
  obtain ⟨a0, a1, a2, a3, a4, rfl, _⟩ := h
  rw [diffs_five]; rfl
theorem five_bound {ns : List Int} (h : Five ns) {i : Nat} {z : Int} (hz : (diffsOf ns)[i]? = some z) : (0 : Int) ≤ (i : Int) ∧ (i : Int) ≤ 10 ∧ -32768 ≤ z ∧ z ≤ 32768 := by
  obtain ⟨a0, a1, a2, a3, a4, rfl, b0, b1, b2, b3, b4⟩ := h
  rw [diffs_five] at hz
  match i, hz with
  | 0, hz => cases hz; omega
  | 1, hz => cases hz; omega
  | 2, hz => cases hz; omega
  | 3, hz => cases hz; omega
  | 4, hz => cases hz; omega
  | (i + 5), hz => cases hz
def RowFi (ns : List Int) (i : Nat) (y : Value) : Prop := ∃ n t, (diffsOf ns)[i]? = some n ∧ y = .str (rowS (i : Int) n) t
theorem nsobj_of {h : Heap} {C : Addr} {o : Obj} {m : PySem.Str → Option Value} (x : h.Ns C m) (e : h.get? C = some o) : LCg.NsObj o m := by
  obtain ⟨o', es, ep, e', r⟩ := x
  rw [e] at e'
  cases e'
  exact ⟨es, ep, r⟩
section
variable {w : World} {loose : List PySem.Str} {mean : ExcName → Option Value} {mg mb : PySem.Str → Option Value} {f : Addr} {k : Nat} {news : List (Addr × Obj)} {pre : Prop} {vs : List Value}
    {dp un : Nat} {gd : Option (List Code)} {cn : PySem.Str} {cs : Scope} {a : Addr} {ccd : Value} {cl : List (PySem.Str × Addr)} {outer : List Env} {A₀ : Around} {base h₀ : Heap} {L : Addr} {m : PySem.Str → Option Value} {s : Shared} {Q E : Value → Shared → Prop}
theorem MClaim.useL {Pv : List Value → Prop} (C : MClaim w loose mean mg mb f k news pre vs (fun led r => ∃ l' us c, r = .ref l' ∧ (l', listOf (List.toArray us) c) ∈ led ∧ Pv us)) (B : Below A₀ base outer h₀) (F : Fr h₀ L s.heap m) (X : (hd.heap_39 w.params).In h₀) (N : News h₀ L s.heap news) (T : Top hd.view_39 loose mean mg mb h₀) (hk : cs.kind = .function)
    (hp : pre) (hd : dp + k < recursionLimit) (hu : un + 50 * k < cLine)
    (ret : ∀ l' us c h' tk', Fr h₀ L h' m → News h₀ L h' ((l', listOf (List.toArray us) c) :: news) → Pv us → Q (.ref l') { s with heap := h', toks := tk' }) :
    wpAny (model PySem.Challenge.pw_tx0001_01 w) (ktrTop dp un gd cn cs L a ccd cl outer) (call (.ref f) vs) Q E s :=
  MClaim.use C B F X N T hk hp hd hu fun r led h' tk' F' N' hsub hP => by
    obtain ⟨l', us, c, rfl, hm, hv⟩ := hP
    exact ret l' us c h' tk' F' (fun p hp => N' p (by rcases List.mem_cons.mp hp with rfl | hp; exact hm; exact hsub p hp)) hv
theorem MClaim.useR {ds : List Dat} (C : MClaim w loose mean mg mb f k news pre vs (fun led r => ∃ l' us c, r = .ref l' ∧ (l', listOf (List.toArray us) c) ∈ led ∧ DatAll led us ds)) (B : Below A₀ base outer h₀) (F : Fr h₀ L s.heap m) (X : (hd.heap_39 w.params).In h₀) (N : News h₀ L s.heap news) (T : Top hd.view_39 loose mean mg mb h₀) (hk : cs.kind = .function)
    (hp : pre) (hd : dp + k < recursionLimit) (hu : un + 50 * k < cLine)
    (ret : ∀ l' us c led h' tk', Fr h₀ L h' m → News h₀ L h' ((l', listOf (List.toArray us) c) :: (news ++ led)) → DatAll (news ++ led) us ds → us.length = ds.length → Q (.ref l') { s with heap := h', toks := tk' }) :
    wpAny (model PySem.Challenge.pw_tx0001_01 w) (ktrTop dp un gd cn cs L a ccd cl outer) (call (.ref f) vs) Q E s :=
  MClaim.use C B F X N T hk hp hd hu fun r led h' tk' F' N' hsub hP => by
    obtain ⟨l', us, c, rfl, hm, hv⟩ := hP
    refine ret l' us c led h' tk' F' (fun p hp => N' p ?_) (hv.mono fun p hp => List.mem_append.mpr (.inr hp)) hv.length
    rcases List.mem_cons.mp hp with rfl | hp
    · exact hm
    · rcases List.mem_append.mp hp with hp | hp
      · exact hsub p hp
      · exact hp
theorem HClaim.useL {x : PySem.Str} {t : Tok} (C : HClaim w loose mean mg mb k news x t) (B : Below A₀ base [] h₀) (F : Fr h₀ L s.heap m) (X : (hd.heap_39 w.params).In h₀) (XB : (hd.heap_39 w.params).In base) (N : News h₀ L s.heap news) (T : Top hd.view_39 loose mean mg mb h₀) (TB : Top hd.view_39 loose mean mg mb base) (hk : cs.kind = .function)
    (hd : dp + k < recursionLimit) (hu : un + 50 * k < cLine)
    (ret : ∀ l' us c h' tk', Fr h₀ L h' m → News h₀ L h' ((l', listOf (List.toArray us) c) :: news) → IntsAre us (hear false 0 x.cps.toList) → Q (.ref l') { s with heap := h', toks := tk' }) :
    wpAny (model PySem.Challenge.pw_tx0001_01 w) (ktrTop dp un gd cn cs L a ccd cl []) (call (.ref 77) [.str x t]) Q E s :=
  C dp un gd cn cs a ccd cl A₀ base h₀ L m s Q E B F X XB N T TB hk hd hu fun r led h' tk' F' N' hsub hP => by
    obtain ⟨l', us, c, rfl, hm, hv⟩ := hP
    exact ret l' us c h' tk' F' (fun p hp => N' p (by rcases List.mem_cons.mp hp with rfl | hp; exact hm; exact hsub p hp)) hv
end
section
variable {prog : Program} {w : World} {A : Around} {E : Value → Shared → Prop} {s : Shared} {env : Env} {h₀ : Heap} {L : Addr} {m : PySem.Str → Option Value}
theorem assign_wtR {ns : List Int} {elt iter : Expr} {x x₂ y : PySem.Str} {px px₂ tp py : Pos} {tk : Nat} {scope : Scope} {cl : List (PySem.Str × Addr)} {pos spos : Pos} {Q : Flow → Shared → Prop} (_F : Fr h₀ L s.heap m) (_h5 : Five ns) (hLe : env.locals = L)
    (hh : A.handled = none) (hsw : swapsWith (.ListComp elt [⟨.Tuple [.Name x px, .Name x₂ px₂] tk tp, iter, [], 0⟩] scope pos) (some (.Name y py)) spos.line env = pure true)
    (hclos : closureFor scope env = pure cl) (hcell : ∀ z ∈ scope.names, z.2 ≠ .cell) (hkind : scope.kind = .function)
    (hnames : ∀ z ∈ scope.names, z.2 = .local → scope.names.lookup z.1 = some .local) (hx : scope.names.lookup x = some .local) (hx₂ : scope.names.lookup x₂ = some .local) (hxx : x ≠ x₂)
    (hy : env.kindOf y = some .local) (hp : (env.scope.kind == .class || (env.scope.kind == .module && env.locals != env.globals)) = false) (hs : ∀ x, foldedSetIterable iter env x = pure x)
    (h : wpAny (model prog w) A (eval iter env) (WtSrc prog w A env h₀ L m elt x x₂ scope cl (RowFi ns) (fun v z => if z = y then some v else m z) (fun _ s => Q .next s)) E s) :
    wpAny (model prog w) A (exec (.Assign [.Name y py] (.ListComp elt [⟨.Tuple [.Name x px, .Name x₂ px₂] tk tp, iter, [], 0⟩] scope pos) spos) env) Q E s :=
  assign_wt (RowFi ns) hLe hh hsw hclos hcell hkind hnames hx hx₂ hxx hy hp hs h
end
/-- the rows of the mail, from the d-th on -/
def rowsTxt : Nat → List Int → List PySem.Str
  | _, [] => []
  | d, n :: ns => rowS (d : Int) n :: rowsTxt (d + 1) ns
theorem rowsTxt_get : ∀ (ns : List Int) (d j : Nat), (rowsTxt d ns)[j]? = (ns[j]?).map fun n => rowS ((d + j : Nat) : Int) n
  | [], d, j => by simp [rowsTxt]
  | n :: ns, d, 0 => by simp [rowsTxt]
  | n :: ns, d, j + 1 => by
    have := rowsTxt_get ns (d + 1) j
    simp only [rowsTxt, List.getElem?_cons_succ, this]
    congr 1
    funext n
    congr 1
    congr 1
    omega
theorem rows_strs : ∀ (ns : List Int) (d : Nat) (ys : List Value), ys.length = ns.length → (∀ (j : Nat) y, ys[j]? = some y → ∃ n t, ns[j]? = some n ∧ y = .str (rowS ((d + j : Nat) : Int) n) t) → StrsAre ys (rowsTxt d ns)
  | [], _, [], _, _ => .nil
  | n :: ns, d, y :: ys, hl, h => by
    obtain ⟨n', t, e1, rfl⟩ := h 0 y rfl
    cases e1
    refine .cons _ _ (rows_strs ns (d + 1) ys (by simpa using hl) fun j y hy => ?_)
    obtain ⟨n', t', e1, e2⟩ := h (j + 1) y (by simpa using hy)
    refine ⟨n', t', by simpa using e1, ?_⟩
    rw [e2]
    have : ((d + (j + 1) : Nat) : Int) = ((d + 1 + j : Nat) : Int) := by omega
    rw [this]
  | [], _, _ :: _, hl, _ => by simp at hl
  | _ :: _, _, [], hl, _ => by simp at hl
end Mine
-- part LawV
namespace Mine
open PySem PySem.W PyProof.Rows
set_option maxRecDepth 100000
set_option maxHeartbeats 1000000
/-- the rows of the mail as pairs -/
def pairsN : Nat → List Int → List (Nat × Int)
  | _, [] => []
  | d, n :: ns => (d, n) :: pairsN (d + 1) ns
def endOf (p : Nat × Int) : List Nat := if p.1 = 0 then [13] else if p.2.fmod 3 = 0 then [10] else if p.2.fmod 3 = 1 then [13] else [13, 10]
theorem endOf_is (p : Nat × Int) : IsEnd (endOf p) := by
  unfold endOf IsEnd
  split
  · exact .inl rfl
  · split
    · exact .inr (.inl rfl)
    · split
      · exact .inl rfl
      · exact .inr (.inr rfl)
theorem endOf_head (p : Nat × Int) : (bodyL p.1 p.2 ++ endOf p).head? ≠ some 10 := by
  refine head_body ?_
  unfold endOf
  by_cases h : p.1 = 0
  · rw [if_pos h]; exact .inr (.inl rfl)
  · exact .inl h
theorem fold_dots' : ∀ (k : Nat) (acc : Array Nat), ((List.replicate k (#[46] : Array Nat)).foldl (fun x1 x2 => x1 ++ x2) acc).toList = acc.toList ++ List.replicate k 46
  | 0, acc => by simp
  | k + 1, acc => by
    rw [List.replicate_succ, List.foldl_cons, fold_dots' k, List.replicate_succ]
    simp
theorem mul_dots (d : Nat) : (Txt.mul (PySem.Str.ofString ".") (d : Int)).cps.toList = List.replicate d 46 := by
  have e : PySem.Str.ofString "." = ⟨#[46]⟩ := by decide +kernel
  rw [e]
  unfold Txt.mul
  match d with
  | 0 => rfl
  | 1 => rfl
  | k + 2 =>
    rw [if_neg (by omega), if_neg (by
      have : ¬ (k : Int) + 2 = 1 := by omega
      simp [this, PySem.Str.length])]
    show (List.foldl (fun x1 x2 => x1 ++ x2) #[] (List.replicate (((k + 2 : Nat) : Int)).toNat (#[46] : Array Nat))).toList = _
    rw [Int.toNat_natCast, fold_dots']
    simp
theorem rowS_cps (d : Nat) (n : Int) : (rowS (d : Int) n).cps.toList = bodyL d n ++ endOf (d, n) := by
  have e1 : PySem.Str.ofString "-" = ⟨#[45]⟩ := by decide +kernel
  have e2 : PySem.Str.ofString "" = ⟨#[]⟩ := by decide +kernel
  have e3 : PySem.Str.ofString "\r" = ⟨#[13]⟩ := by decide +kernel
  have e4 : PySem.Str.ofString "\n" = ⟨#[10]⟩ := by decide +kernel
  have e5 : PySem.Str.ofString "\r\n" = ⟨#[13, 10]⟩ := by decide +kernel
  unfold rowS bodyL endOf three
  rw [e1, e2, e3, e4, e5]
  show ((((Txt.mul (PySem.Str.ofString ".") (d : Int)).cps ++ _) ++ _) ++ _).toList = _
  rw [Array.toList_append, Array.toList_append, Array.toList_append, mul_dots]
  have hd : ((d : Int) = 0) ↔ d = 0 := by omega
  by_cases h1 : n < 0 <;> by_cases h2 : d = 0 <;> by_cases h3 : n.fmod 3 = 0 <;> by_cases h4 : n.fmod 3 = 1 <;> simp [h1, h2, h3, h4, hd]
theorem cat_rows : ∀ (ns : List Int) (d : Nat), catS (rowsTxt d ns) = roughL endOf (pairsN d ns)
  | [], d => rfl
  | n :: ns, d => by
    show (rowS (d : Int) n).cps.toList ++ catS (rowsTxt (d + 1) ns) = (bodyL d n ++ endOf (d, n)) ++ roughL endOf (pairsN (d + 1) ns)
    rw [rowS_cps, cat_rows ns (d + 1)]
theorem drop_rows : ∀ (k : Nat) (ns : List Int) (d : Nat), catS ((rowsTxt d ns).drop k) = roughL endOf ((pairsN d ns).drop k)
  | 0, ns, d => cat_rows ns d
  | k + 1, [], d => rfl
  | k + 1, n :: ns, d => drop_rows k ns (d + 1)
theorem take_rows : ∀ (k : Nat) (ns : List Int) (d : Nat), catS ((rowsTxt d ns).take k) = roughL endOf ((pairsN d ns).take k)
  | 0, ns, d => rfl
  | k + 1, [], d => rfl
  | k + 1, n :: ns, d => by
    show (rowS (d : Int) n).cps.toList ++ catS ((rowsTxt (d + 1) ns).take k) = (bodyL d n ++ endOf (d, n)) ++ roughL endOf ((pairsN (d + 1) ns).take k)
    rw [rowS_cps, take_rows k ns (d + 1)]
/-- the rows turned round -/
def turnR (k : Nat) (ns : List Int) : List (Nat × Int) := (pairsN 0 ns).drop k ++ (pairsN 0 ns).take k
theorem cat_turn (k : Nat) (ns : List Int) : catS ((rowsTxt 0 ns).drop k ++ (rowsTxt 0 ns).take k) = roughL endOf (turnR k ns) := by
  have e : ∀ a b, catS (a ++ b) = catS a ++ catS b := fun a b => by unfold catS; rw [List.flatMap_append]
  have e' : ∀ (a b : List (Nat × Int)), roughL endOf (a ++ b) = roughL endOf a ++ roughL endOf b := fun a b => by unfold roughL; rw [List.flatMap_append]
  unfold turnR
  rw [e, e', drop_rows, take_rows]
theorem quote_turn (rows : List (Nat × Int)) : quoteL (roughL endOf rows) = linesL (rows.map bump) :=
  quote_rough (fun p _ => endOf_is p) (fun p _ => endOf_head p)
/-- a text of lines -/
def castR (rows : List (Nat × Int)) : List (Int × Int) := rows.map fun p => ((p.1 : Int), p.2)
theorem wy_0 : wy 0 = [1] := rfl
theorem wy_1 : wy 1 = [1, 1] := by decide +kernel
theorem wy_2 : wy 2 = [1, 2, 1] := by decide +kernel
theorem wy_3 : wy 3 = [1, 3, 3, 1] := by decide +kernel
theorem wy_4 : wy 4 = [1, 4, 6, 4, 1] := by decide +kernel
theorem wy_5 : wy 5 = [1, 5, 10, 10, 5, 1] := by decide +kernel
theorem wy_6 : wy 6 = [1, 6, 15, 20, 15, 6, 1] := by decide +kernel
theorem valAt_app (a b : List (Int × Int)) (x : Nat) : valAt (a ++ b) x = valAt a x + valAt b x := by
  unfold valAt
  rw [List.filterMap_append, List.sum_append]
theorem valAt_turn (f : Nat × Int → Nat × Int) (k x : Nat) (ns : List Int) : valAt (castR ((turnR k ns).map f)) x = valAt (castR ((pairsN 0 ns).map f)) x := by
  unfold turnR castR
  rw [List.map_append, List.map_append, valAt_app]
  have e : (pairsN 0 ns) = (pairsN 0 ns).take k ++ (pairsN 0 ns).drop k := (List.take_append_drop k _).symm
  conv => rhs; rw [e]
  rw [List.map_append, List.map_append, valAt_app]
  omega
/-- what sums says: the sum so far and by how much the number told is above the first -/
def sumsFrom (first : Int) : Int → List Int → List Int
  | _, [] => []
  | c, v :: vs => (c + v - first) :: sumsFrom first (c + v - first) vs
def sumsOf (vs : List Int) : List Int := (vs.headD 0) :: sumsFrom (vs.headD 0) (vs.headD 0) vs
theorem newton_one {a0 a1 a2 a3 a4 : Int} : (List.range 6).map (valAt (castR ((pairsN 0 (diffsOf [a0, a1, a2, a3, a4])).map bump))) = [a0, a0 + a0 - a0, a0 + a0 - a0 + a1 - a0, a0 + a0 - a0 + a1 - a0 + a2 - a0, a0 + a0 - a0 + a1 - a0 + a2 - a0 + a3 - a0, a0 + a0 - a0 + a1 - a0 + a2 - a0 + a3 - a0 + a4 - a0] := by
  rw [diffs_five]
  simp [List.range_succ, List.range_zero, pairsN, bump, castR, valAt, wy_0, wy_1, wy_2, wy_3, wy_4, wy_5, wayF, gi]
  omega
theorem newton_two {a0 a1 a2 a3 a4 s0 s1 s2 s3 s4 s5 t0 t1 t2 t3 t4 t5 t6 : Int} (h0 : s0 = a0) (h1 : s1 = s0 + a0 - a0) (h2 : s2 = s1 + a1 - a0) (h3 : s3 = s2 + a2 - a0) (h4 : s4 = s3 + a3 - a0) (h5 : s5 = s4 + a4 - a0)
    (g0 : t0 = a0) (g1 : t1 = t0 + s0 - a0) (g2 : t2 = t1 + s1 - a0) (g3 : t3 = t2 + s2 - a0) (g4 : t4 = t3 + s3 - a0) (g5 : t5 = t4 + s4 - a0) (g6 : t6 = t5 + s5 - a0) :
    (List.range 7).map (valAt (castR (((pairsN 0 (diffsOf [a0, a1, a2, a3, a4])).map bump).map bump))) = [t0, t1, t2, t3, t4, t5, t6] := by
  rw [diffs_five]
  simp [List.range_succ, List.range_zero, pairsN, bump, castR, valAt, wy_0, wy_1, wy_2, wy_3, wy_4, wy_5, wy_6, wayF, gi]
  omega
theorem newton_one' {a0 a1 a2 a3 a4 s0 s1 s2 s3 s4 s5 : Int} (h0 : s0 = a0) (h1 : s1 = s0 + a0 - a0) (h2 : s2 = s1 + a1 - a0) (h3 : s3 = s2 + a2 - a0) (h4 : s4 = s3 + a3 - a0) (h5 : s5 = s4 + a4 - a0) :
    (List.range 6).map (valAt (castR ((pairsN 0 (diffsOf [a0, a1, a2, a3, a4])).map bump))) = [s0, s1, s2, s3, s4, s5] := by
  rw [newton_one]
  subst h0 h1 h2 h3 h4 h5
  rfl
theorem turn_len (k : Nat) {ns : List Int} (h : Five ns) : (turnR k (diffsOf ns)).length = 5 := by
  have e : ∀ (ds : List Int) (d : Nat), (pairsN d ds).length = ds.length := by
    intro ds
    induction ds with
    | nil => intro d; rfl
    | cons n ds ih => intro d; show (pairsN (d + 1) ds).length + 1 = _; rw [ih]; rfl
  unfold turnR
  have h5 := five_len h
  rw [List.length_append, List.length_drop, List.length_take, e]
  omega
theorem pairs_get : ∀ (ns : List Int) (d : Nat) (p : Nat × Int), p ∈ pairsN d ns → ∃ i, ns[i]? = some p.2 ∧ p.1 = d + i
  | [], _, _, h => nomatch h
  | n :: ns, d, p, h => by
    rcases List.mem_cons.mp h with rfl | h
    · exact ⟨0, rfl, rfl⟩
    · obtain ⟨i, e1, e2⟩ := pairs_get ns (d + 1) p h
      exact ⟨i + 1, by simpa using e1, by omega⟩
theorem turn_mem {k : Nat} {ns : List Int} (h : Five ns) {p : Nat × Int} (hp : p ∈ turnR k (diffsOf ns)) : p.1 ≤ 10 ∧ -32768 ≤ p.2 ∧ p.2 ≤ 32768 := by
  have hp' : p ∈ pairsN 0 (diffsOf ns) := by
    unfold turnR at hp
    rcases List.mem_append.mp hp with hp | hp
    · exact List.mem_of_mem_drop hp
    · exact List.mem_of_mem_take hp
  obtain ⟨i, e1, e2⟩ := pairs_get _ _ _ hp'
  have := five_bound h e1
  omega
theorem body_len (d : Nat) {n : Int} (h : -32768 ≤ n ∧ n ≤ 32768) : (bodyL d n).length ≤ d + 5 := by
  have := hexI_len 4 n.natAbs (by omega)
  unfold bodyL
  simp only [List.length_append, List.length_replicate, List.length_map]
  split <;> simp <;> omega
theorem end_len (p : Nat × Int) : (endOf p).length ≤ 2 := by
  rcases endOf_is p with h | h | h <;> rw [h] <;> simp
theorem rough_len : ∀ (rows : List (Nat × Int)), (∀ p ∈ rows, p.1 ≤ 10 ∧ -32768 ≤ p.2 ∧ p.2 ≤ 32768) → (roughL endOf rows).length ≤ 20 * rows.length
  | [], _ => Nat.le_refl _
  | p :: rows, h => by
    have ih := rough_len rows fun q hq => h q (.tail _ hq)
    have h0 := h p (.head _)
    have h1 := body_len p.1 (n := p.2) h0.2
    have h2 := end_len p
    show ((bodyL p.1 p.2 ++ endOf p) ++ roughL endOf rows).length ≤ _
    rw [List.length_append, List.length_append, List.length_cons]
    omega
theorem lines_len : ∀ (rows : List (Nat × Int)), (∀ p ∈ rows, p.1 ≤ 20 ∧ -32768 ≤ p.2 ∧ p.2 ≤ 32768) → (linesL rows).length ≤ 30 * rows.length
  | [], _ => Nat.le_refl _
  | p :: rows, h => by
    have ih := lines_len rows fun q hq => h q (.tail _ hq)
    have h0 := h p (.head _)
    have h1 := body_len p.1 (n := p.2) h0.2
    show ((bodyL p.1 p.2 ++ [13, 10]) ++ linesL rows).length ≤ _
    rw [List.length_append, List.length_append, List.length_cons]
    simp
    omega
theorem bump_le {p : Nat × Int} {k : Nat} (h : p.1 ≤ k ∧ -32768 ≤ p.2 ∧ p.2 ≤ 32768) : (bump p).1 ≤ k + 1 ∧ -32768 ≤ (bump p).2 ∧ (bump p).2 ≤ 32768 := by
  unfold bump
  refine ⟨?_, h.2⟩
  show (if p.1 = 0 then 0 else p.1 + 1) ≤ k + 1
  split <;> omega
/-- rows fit to be sent -/
def FitR (rows : List (Nat × Int)) : Prop := rows.length = 5 ∧ ∀ p ∈ rows, p.1 ≤ 12 ∧ -32768 ≤ p.2 ∧ p.2 ≤ 32768
theorem fit_one {k : Nat} {ns : List Int} (h : Five ns) : FitR ((turnR k (diffsOf ns)).map bump) := by
  refine ⟨by rw [List.length_map, turn_len k h], fun p hp => ?_⟩
  obtain ⟨q, hq, rfl⟩ := List.mem_map.mp hp
  have := bump_le (turn_mem h hq)
  omega
theorem fit_two {k : Nat} {ns : List Int} (h : Five ns) : FitR (((turnR k (diffsOf ns)).map bump).map bump) := by
  refine ⟨by rw [List.length_map, List.length_map, turn_len k h], fun p hp => ?_⟩
  obtain ⟨q, hq, rfl⟩ := List.mem_map.mp hp
  obtain ⟨q', hq', rfl⟩ := List.mem_map.mp hq
  have := bump_le (bump_le (turn_mem h hq'))
  omega
theorem fit_len {rows : List (Nat × Int)} (h : FitR rows) : (linesL rows).length ≤ 150 := by
  have := lines_len rows fun p hp => by have := h.2 p hp; omega
  rw [h.1] at this
  exact this
theorem fit_cast {rows : List (Nat × Int)} (h : FitR rows) : ∀ p ∈ castR rows, 0 ≤ p.1 ∧ -(2:Int)^60 ≤ p.2 ∧ p.2 ≤ 2^60 := by
  intro p hp
  obtain ⟨q, hq, rfl⟩ := List.mem_map.mp hp
  have := h.2 q hq
  exact ⟨by show (0 : Int) ≤ (q.1 : Int); omega, by show -(2:Int)^60 ≤ q.2; omega, by show q.2 ≤ (2:Int)^60; omega⟩
theorem fit_told {rows : List (Nat × Int)} : (rowsOf (hear false 0 (linesL rows))).1 = castR rows := rows_lines rows
/-- the mail, sent -/
def mailS (rows : List (Nat × Int)) : PySem.Str := ⟨(linesL rows).toArray⟩
def firstS (rows : List (Nat × Int)) : PySem.Str := ⟨(roughL endOf rows).toArray⟩
end Mine
-- part LawW
namespace Mine
open PySem PySem.W PyProof.Rows PySem.Calls
set_option maxRecDepth 100000
set_option maxHeartbeats 1000000
section
variable {prog : Program} {w : World} {A : Around} {E : Value → Shared → Prop} {s : Shared} {h₀ : Heap} {L : Addr} {m : PySem.Str → Option Value} {news : List (Addr × Obj)} {value slice : PySem.Expr} {Q : Value → Shared → Prop}
theorem pick_drop (vs : List Value) {x : Int} (h : 0 ≤ x) : slicePick vs.toArray (some x) none none = (vs.drop x.toNat).toArray := by
  rw [kms_pick_eq]
  congr 1
  show (vs.drop (kms_lo (some x) vs.length)).take (kms_hi none vs.length - kms_lo (some x) vs.length) = _
  have e : kms_lo (some x) vs.length = min x.toNat vs.length := by
    show (if x < 0 then _ else _) = _
    rw [if_neg (by omega)]
  rw [e, kmk_drop_min]
  refine List.take_of_length_le ?_
  show _ ≤ vs.length - _
  rw [List.length_drop]
  omega
theorem pick_take (vs : List Value) {y : Int} (h : 0 ≤ y) : slicePick vs.toArray none (some y) none = (vs.take y.toNat).toArray := by
  rw [kms_pick_eq]
  congr 1
  show (vs.drop 0).take (kms_hi (some y) vs.length - 0) = _
  have e : kms_hi (some y) vs.length = min y.toNat vs.length := by
    show (if y < 0 then _ else _) = _
    rw [if_neg (by omega)]
  rw [e, List.drop_zero, Nat.sub_zero, kmk_take_min]
theorem strs_drop {l : Addr} {vs : List Value} {xs : List PySem.Str} {x : Int} {t : Tok} {n : Nat} (F : Fr h₀ L s.heap m) (N : News h₀ L s.heap news) (hm : (l, ({ cls := .type "list", data := .seq vs.toArray n } : Obj)) ∈ news) (hS : StrsAre vs xs) (h0 : 0 ≤ x) (hlen : xs.length ≤ 1000)
    (hs : subscripted slice false (.ref l) (.ref s.heap.objs.size) = operate [.ref s.heap.objs.size, .ref l] (getItem (.ref l) (.ref s.heap.objs.size))) (ht : ∀ r, letTemporaryGo value (.ref l) r = pure ())
    (h : ∀ D ws h', Fr h₀ L h' m → News h₀ L h' ((D, listOf (List.toArray ws) 0) :: news) → (∀ p ∈ news, p.1 < D) → StrsAre ws (xs.drop x.toNat) → Q (.ref D) { s with heap := h' }) :
    wpAny (model prog w) A (subscriptTail value slice (.ref l) (.ref s.heap.objs.size)) Q E { s with heap := s.heap.push { cls := .type "slice", data := .fields #[.int x t, .none, .none] } } := by
  refine kmk_slice F N ⟨_, (N _ hm).1, rfl, n, rfl⟩ (.int _ _) .none (fun D h' F' N' l1 => h D (vs.drop x.toNat) h' F' ?_ l1 (hS.drop' _)) hs ht (by rw [List.size_toArray, hS.length, sizeLine_eq]; omega)
  rw [pick_drop vs h0] at N'
  exact N'
theorem strs_take {l : Addr} {vs : List Value} {xs : List PySem.Str} {x : Int} {t : Tok} {n : Nat} (F : Fr h₀ L s.heap m) (N : News h₀ L s.heap news) (hm : (l, ({ cls := .type "list", data := .seq vs.toArray n } : Obj)) ∈ news) (hS : StrsAre vs xs) (h0 : 0 ≤ x) (hlen : xs.length ≤ 1000)
    (hs : subscripted slice false (.ref l) (.ref s.heap.objs.size) = operate [.ref s.heap.objs.size, .ref l] (getItem (.ref l) (.ref s.heap.objs.size))) (ht : ∀ r, letTemporaryGo value (.ref l) r = pure ())
    (h : ∀ D ws h', Fr h₀ L h' m → News h₀ L h' ((D, listOf (List.toArray ws) 0) :: news) → (∀ p ∈ news, p.1 < D) → StrsAre ws (xs.take x.toNat) → Q (.ref D) { s with heap := h' }) :
    wpAny (model prog w) A (subscriptTail value slice (.ref l) (.ref s.heap.objs.size)) Q E { s with heap := s.heap.push { cls := .type "slice", data := .fields #[.none, .int x t, .none] } } := by
  refine kmk_slice F N ⟨_, (N _ hm).1, rfl, n, rfl⟩ .none (.int _ _) (fun D h' F' N' l1 => h D (vs.take x.toNat) h' F' ?_ l1 (hS.take' _)) hs ht (by rw [List.size_toArray, hS.length, sizeLine_eq]; omega)
  rw [pick_take vs h0] at N'
  exact N'
theorem strs_add {a b : Addr} {vs ws : List Value} {xs ys : List PySem.Str} {n k : Nat} (F : Fr h₀ L s.heap m) (N : News h₀ L s.heap news) (ha : (a, ({ cls := .type "list", data := .seq vs.toArray n } : Obj)) ∈ news) (hb : (b, ({ cls := .type "list", data := .seq ws.toArray k } : Obj)) ∈ news) (hx : StrsAre vs xs) (hy : StrsAre ws ys)
    (hl : xs.length + ys.length ≤ 1000) (h : ∀ D us h', Fr h₀ L h' m → News h₀ L h' ((D, listOf (List.toArray us) 0) :: news) → (∀ p ∈ news, p.1 < D) → StrsAre us (xs ++ ys) → Q (.ref D) { s with heap := h' }) :
    wpAny (model prog w) A (binaryOp .Add (.ref a) (.ref b)) Q E s := by
  refine kmk_add_lit (zs := vs ++ ws) F N ⟨_, (N _ ha).1, rfl, n, rfl⟩ ⟨_, (N _ hb).1, rfl, k, rfl⟩ (by simp) (fun D h' F' N' l1 => h D _ h' F' N' l1 (hx.append' hy)) ?_
  rw [List.toList_toArray, List.toList_toArray, hx.length, hy.length, sizeLine_eq]
  omega
theorem join_rows {D : Addr} {us : List Value} {c k : Nat} {t : Tok} {ns : List Int} (N : News h₀ L s.heap news) (hm : (D, ({ cls := .type "list", data := .seq us.toArray c } : Obj)) ∈ news) (hS : StrsAre us ((rowsTxt 0 (diffsOf ns)).drop k ++ (rowsTxt 0 (diffsOf ns)).take k)) (h5 : Five ns)
    (h : ∀ t' k', FitR ((turnR k (diffsOf ns)).map bump) → FitR (((turnR k (diffsOf ns)).map bump).map bump) → (roughL endOf (turnR k (diffsOf ns))).length ≤ 100 → Q (.str (firstS (turnR k (diffsOf ns))) t') { s with toks := k' }) :
    wpAny (model prog w) A (call (.builtin "str.join") [.str (PySem.Str.ofString "") t, .ref D]) Q E s := by
  have e0 : PySem.Str.ofString "" = ⟨#[]⟩ := by decide +kernel
  rw [e0]
  have hc := join_empty ((rowsTxt 0 (diffsOf ns)).drop k ++ (rowsTxt 0 (diffsOf ns)).take k)
  rw [cat_turn] at hc
  have hr := rough_len (turnR k (diffsOf ns)) fun p hp => turn_mem h5 hp
  rw [turn_len k h5] at hr
  refine join_list ⟨_, (N _ hm).1, rfl, c, rfl⟩ (by rw [List.toList_toArray]; exact hS) ?_ fun t' k' => ?_
  · rw [sum_len_cat, cat_turn]
    show _ + _ * 0 ≤ _
    omega
  · generalize Txt.join ⟨#[]⟩ _ = z at hc
    obtain ⟨z⟩ := z
    have : (⟨z⟩ : PySem.Str) = firstS (turnR k (diffsOf ns)) := by unfold firstS; rw [← hc]
    rw [this]
    exact h t' k' (fit_one h5) (fit_two h5) hr
theorem len_told {l : Addr} {us : List Value} {c : Nat} (N : News h₀ L s.heap news) (hm : (l, ({ cls := .type "list", data := .seq us.toArray c } : Obj)) ∈ news) (hl : us.length = 5)
    (h : ∀ t tk, Q (.int 5 t) { s with toks := tk }) : wpAny (model prog w) A (call (.builtin "len") [.ref l]) Q E s := by
  refine Calls.call_len_list ⟨_, (N _ hm).1, rfl, c, rfl⟩ (by rw [List.size_toArray, hl]; decide) ?_
  rw [List.size_toArray, hl]
  exact h _ _
theorem ne_same {a b : Addr} {vs us : List Value} {ns ms : List Int} (hl : s.heap.IsList a vs.toArray) (hi : IntsAre vs ns) (hl' : s.heap.IsList b us.toArray) (hi' : IntsAre us ms) (hu : A.units + 64 < cLine) (e : ns = ms)
    (h : Q (.bool false) s) : wpAny (model prog w) A (compareOp .NotEq (.ref a) (.ref b)) Q E s := by
  refine ne_intsK hl hi hl' hi' hu ?_
  rw [decide_eq_true e]
  exact h
end
theorem first_list (rows : List (Nat × Int)) : (firstS rows).cps.toList = roughL endOf rows := by simp [firstS]
theorem mail_list (rows : List (Nat × Int)) : (mailS rows).cps.toList = linesL rows := by simp [mailS]
theorem quote_first (rows : List (Nat × Int)) : (⟨(quoteL (firstS rows).cps.toList).toArray⟩ : PySem.Str) = mailS (rows.map bump) := by
  rw [first_list, quote_turn]; rfl
theorem quote_mail (rows : List (Nat × Int)) : (⟨(quoteL (mailS rows).cps.toList).toArray⟩ : PySem.Str) = mailS (rows.map bump) := by
  rw [mail_list, quote_lines]; rfl
theorem first_size {k : Nat} {ns : List Int} (h5 : Five ns) : (firstS (turnR k (diffsOf ns))).cps.size ≤ 40000 := by
  have hr := rough_len (turnR k (diffsOf ns)) fun p hp => turn_mem h5 hp
  rw [turn_len k h5] at hr
  show (roughL endOf (turnR k (diffsOf ns))).toArray.size ≤ _
  rw [List.size_toArray]
  omega
theorem first_size' {rows : List (Nat × Int)} (h : (roughL endOf rows).length ≤ 100) : (firstS rows).cps.size ≤ 40000 := by
  show (roughL endOf rows).toArray.size ≤ _
  rw [List.size_toArray]
  omega
theorem mail_size {rows : List (Nat × Int)} (h : FitR rows) : (mailS rows).cps.size ≤ 150 := by
  show (linesL rows).toArray.size ≤ _
  rw [List.size_toArray]
  exact fit_len h
theorem fit_clen {rows : List (Nat × Int)} (h : FitR rows) : (castR rows).length ≤ 100000 := by
  unfold castR
  rw [List.length_map, h.1]
  decide
theorem hear_len : ∀ (l : List Nat) (b : Bool) (v : Int), (hear b v l).length ≤ l.length
  | [], b, v => by cases b <;> exact Nat.le_refl _
  | c :: r, false, v => by
    rw [hear]
    split
    · exact Nat.le_succ_of_le (hear_len r true _)
    · exact Nat.succ_le_succ (hear_len r false _)
  | c :: r, true, v => by
    rw [hear]
    split
    · exact Nat.le_succ_of_le (hear_len r true _)
    · exact Nat.succ_le_succ (hear_len r false _)
theorem heard_len {rows : List (Nat × Int)} (h : FitR rows) : (hear false 0 (linesL rows)).length ≤ 100000 := by
  have := hear_len (linesL rows) false 0
  have := fit_len h
  omega
theorem turn_one (k : Nat) (ns : List Int) : (List.range 6).map (valAt (castR ((turnR k ns).map bump))) = (List.range 6).map (valAt (castR ((pairsN 0 ns).map bump))) := by
  congr 1
  funext x
  exact valAt_turn bump k x ns
theorem turn_two (k : Nat) (ns : List Int) : (List.range 7).map (valAt (castR (((turnR k ns).map bump).map bump))) = (List.range 7).map (valAt (castR (((pairsN 0 ns).map bump).map bump))) := by
  congr 1
  funext x
  rw [List.map_map, List.map_map]
  exact valAt_turn (bump ∘ bump) k x ns
theorem rows_strs0 {ns : List Int} {ys : List Value} (hl : ys.length = (diffsOf ns).length) (h : ∀ (j : Nat) y, ys[j]? = some y → RowFi ns j y) : StrsAre ys (rowsTxt 0 (diffsOf ns)) :=
  rows_strs _ 0 ys hl fun j y hy => by
    obtain ⟨n, t, e1, e2⟩ := h j y hy
    exact ⟨n, t, e1, by rw [e2, Nat.zero_add]⟩
theorem rowsTxt_len : ∀ (ns : List Int) (d : Nat), (rowsTxt d ns).length = ns.length
  | [], _ => rfl
  | _ :: ns, d => congrArg (· + 1) (rowsTxt_len ns (d + 1))
section
variable {w : World} {loose : List PySem.Str} {mean : ExcName → Option Value} {mg mb : PySem.Str → Option Value} {f : Addr} {k : Nat} {news : List (Addr × Obj)} {pre : Prop} {vs : List Value}
    {dp un : Nat} {gd : Option (List Code)} {cn : PySem.Str} {cs : Scope} {a : Addr} {ccd : Value} {cl : List (PySem.Str × Addr)} {outer : List Env} {A₀ : Around} {base h₀ : Heap} {L : Addr} {m : PySem.Str → Option Value} {s : Shared} {Q E : Value → Shared → Prop}
theorem MClaim.useQ {x y : PySem.Str} (C : MClaim w loose mean mg mb f k news pre vs (fun led r => led = news ∧ ∃ t', r = .str x t')) (hx : x = y) (B : Below A₀ base outer h₀) (F : Fr h₀ L s.heap m) (X : (hd.heap_39 w.params).In h₀) (N : News h₀ L s.heap news) (T : Top hd.view_39 loose mean mg mb h₀) (hk : cs.kind = .function)
    (hp : pre) (hd : dp + k < recursionLimit) (hu : un + 50 * k < cLine)
    (ret : ∀ t' h' tk', Fr h₀ L h' m → News h₀ L h' news → Q (.str y t') { s with heap := h', toks := tk' }) :
    wpAny (model PySem.Challenge.pw_tx0001_01 w) (ktrTop dp un gd cn cs L a ccd cl outer) (call (.ref f) vs) Q E s :=
  MClaim.use C B F X N T hk hp hd hu fun r led h' tk' F' N' _ hP => by
    obtain ⟨rfl, t', rfl⟩ := hP
    subst hx
    exact ret t' h' tk' F' N'
theorem HClaim.useM {t : Tok} {rows : List (Nat × Int)} (C : HClaim w loose mean mg mb k news (mailS rows) t) (B : Below A₀ base [] h₀) (F : Fr h₀ L s.heap m) (X : (hd.heap_39 w.params).In h₀) (XB : (hd.heap_39 w.params).In base) (N : News h₀ L s.heap news) (T : Top hd.view_39 loose mean mg mb h₀) (TB : Top hd.view_39 loose mean mg mb base) (hk : cs.kind = .function)
    (hd : dp + k < recursionLimit) (hu : un + 50 * k < cLine)
    (ret : ∀ l' us c h' tk', Fr h₀ L h' m → News h₀ L h' ((l', listOf (List.toArray us) c) :: news) → IntsAre us (hear false 0 (linesL rows)) → Q (.ref l') { s with heap := h', toks := tk' }) :
    wpAny (model PySem.Challenge.pw_tx0001_01 w) (ktrTop dp un gd cn cs L a ccd cl []) (call (.ref 77) [.str (mailS rows) t]) Q E s :=
  HClaim.useL C B F X XB N T TB hk hd hu fun l' us c h' tk' F' N' hI => ret l' us c h' tk' F' N' (by rw [mail_list] at hI; exact hI)
theorem MClaim.useT {rows : List (Nat × Int)} (C : MClaim w loose mean mg mb f k news pre vs (fun led r => ∃ l' us c, r = .ref l' ∧ (l', listOf (List.toArray us) c) ∈ led ∧ DatAll led us ((rowsOf (hear false 0 (linesL rows))).1.map datP))) (B : Below A₀ base outer h₀) (F : Fr h₀ L s.heap m) (X : (hd.heap_39 w.params).In h₀) (N : News h₀ L s.heap news) (T : Top hd.view_39 loose mean mg mb h₀) (hk : cs.kind = .function)
    (hp : pre) (hd : dp + k < recursionLimit) (hu : un + 50 * k < cLine) (hf : FitR rows)
    (ret : ∀ l' us c led h' tk', Fr h₀ L h' m → News h₀ L h' ((l', listOf (List.toArray us) c) :: (news ++ led)) → DatAll (news ++ led) us ((castR rows).map fun p => Dat.tuple [.int p.1, .int p.2]) → us.length = 5 → Q (.ref l') { s with heap := h', toks := tk' }) :
    wpAny (model PySem.Challenge.pw_tx0001_01 w) (ktrTop dp un gd cn cs L a ccd cl outer) (call (.ref f) vs) Q E s :=
  MClaim.useR C B F X N T hk hp hd hu fun l' us c led h' tk' F' N' hD hl => by
    rw [fit_told] at hD hl
    refine ret l' us c led h' tk' F' N' hD ?_
    rw [hl, List.length_map]
    show ((castR rows)).length = 5
    unfold castR
    rw [List.length_map]
    exact hf.1
end
end Mine
-- part LawB
namespace Mine
open PySem PySem.W PyProof.Rows
set_option maxRecDepth 100000
set_option maxHeartbeats 4000000
def Stop (P : Prop) : Prop := P
theorem unStop {P : Prop} (h : Stop P) : P := h
theorem unStop2 {P : Prop} (h : Stop P) : P := h
theorem five_get {a0 a1 a2 a3 a4 : Int} {t0 t1 t2 t3 t4 : Tok} {i : Nat} {v : Value} (h : (#[.int a0 t0, .int a1 t1, .int a2 t2, .int a3 t3, .int a4 t4] : Array Value)[i]? = some v) : ∃ z t, v = .int z t := by
  match i, h with
  | 0, h => cases h; exact ⟨_, _, rfl⟩
  | 1, h => cases h; exact ⟨_, _, rfl⟩
  | 2, h => cases h; exact ⟨_, _, rfl⟩
  | 3, h => cases h; exact ⟨_, _, rfl⟩
  | 4, h => cases h; exact ⟨_, _, rfl⟩
  | (i + 5), h => cases h
theorem item_first {prog : Program} {w : World} {A : Around} {E : Value → Shared → Prop} {s : Shared} {h₀ : Heap} {L l : Addr} {news : List (Addr × Obj)} {value slice : PySem.Expr} {v : Value} {vs : List Value} {n : Nat} {u : Tok} {Q : Value → Shared → Prop} (N : News h₀ L s.heap news)
    (hm : (l, ({ cls := .type "list", data := .seq (v :: vs).toArray n } : Obj)) ∈ news) (hs : subscripted slice false (.ref l) (.int 0 u) = operate [.ref l, .int 0 u] (getItem (.ref l) (.int 0 u))) (hg : ∀ r, letTemporaryGo value (.ref l) r = pure ()) (h : Q v s) : wpAny (model prog w) A (subscriptTail value slice (.ref l) (.int 0 u)) Q E s :=
  item_listL ⟨_, (N _ hm).1, rfl, n, rfl⟩ (by decide) (by decide) rfl h hs hg
/-- a ledger without the iterator -/
inductive Drops (I : Addr) (it : Obj) : List (Addr × Obj) → List (Addr × Obj) → Prop
  | here {r : List (Addr × Obj)} : (∀ p ∈ r, p.1 ≠ I) → Drops I it ((I, it) :: r) r
  | skip {a : Addr} {o : Obj} {r r' : List (Addr × Obj)} : @Ne Nat a I → Drops I it r r' → Drops I it ((a, o) :: r) ((a, o) :: r')
theorem Drops.sub {I : Addr} {it : Obj} {a b : List (Addr × Obj)} (d : Drops I it a b) : ∀ p ∈ (I, it) :: b, p ∈ a := by
  induction d with
  | here _ => exact fun p hp => hp
  | skip _ _ ih =>
    intro p hp
    rcases List.mem_cons.mp hp with rfl | hp
    · exact .tail _ (ih _ (.head _))
    · rcases List.mem_cons.mp hp with rfl | hp
      · exact .head _
      · exact .tail _ (ih _ (.tail _ hp))
theorem Drops.off {I : Addr} {it : Obj} {a b : List (Addr × Obj)} (d : Drops I it a b) : ∀ p ∈ b, p.1 ≠ I := by
  induction d with
  | here h => exact h
  | skip h _ ih =>
    intro p hp
    rcases List.mem_cons.mp hp with rfl | hp
    · exact h
    · exact ih p hp
theorem unr_end {h₀ : Heap} {L I : Addr} {it : Obj} {rest : (PySem.Str → Option Value) → List (Addr × Obj) → Prop} {s₁ : Shared} {h' : Heap} {tk : Nat} {m' : PySem.Str → Option Value} {all news' : List (Addr × Obj)} (F : Fr h₀ L h' m') (N : News h₀ L h' all)
    (d : Drops I it all news') (r : rest m' news') : UnrEnd h₀ L s₁ I it rest { s₁ with heap := h', toks := tk } := UnrEnd.intro F N news' d.sub d.off r
theorem off_cons {I a : Addr} {o : Obj} {r : List (Addr × Obj)} (h : @Ne Nat a I) (h' : ∀ q ∈ r, q.1 ≠ I) : ∀ q ∈ (a, o) :: r, q.1 ≠ I := List.forall_mem_cons.mpr ⟨h, h'⟩
theorem unr_keep {h₀ : Heap} {L I K : Addr} {it oK : Obj} {rest : (PySem.Str → Option Value) → List (Addr × Obj) → Prop} {s₁ : Shared} {h' : Heap} {tk : Nat} {m' : PySem.Str → Option Value} {all : List (Addr × Obj)} (F : Fr h₀ L h' m') (N : News h₀ L h' all)
    (_hv : m' (PySem.Str.ofString "values") = some (.ref K)) (hK : (K, oK) ∈ all) (hI : (I, it) ∈ all) (ne : @Ne Nat K I) (r : rest m' [(K, oK)]) : UnrEnd h₀ L s₁ I it rest { s₁ with heap := h', toks := tk } := by
  refine UnrEnd.intro F N [(K, oK)] (fun p hp => ?_) (fun p hp => ?_) r
  · rcases List.mem_cons.mp hp with rfl | hp
    · exact hI
    · rw [List.mem_singleton.mp hp]; exact hK
  · rw [List.mem_singleton.mp hp]; exact ne
local macro_rules | `(tactic| walk_at "exec Assign cons ListComp") => `(tactic| (k_here; k_dflt (rename Fr _ _ _ _ => lF9; refine' assign_wtF (x := PySem.Str.ofString "k") lF9 (fun _ y => SmallI y) ?hLe ?a1 ?a2 ?a3 ?a4 ?a5 ?a6 ?a7 ?a8 ?a9 ?b1 ?b2 ?b3 ?_; (case hLe => rfl); (case a1 => rfl); (case a2 => with_unfolding_all rfl); (case a3 => with_unfolding_all rfl); (case a4 => decide); (case a5 => rfl); (case a6 => decide); (case a7 => rfl); (case a8 => rfl); (case a9 => decide +kernel); (case b1 => rfl); (case b2 => rfl); (case b3 => exact fun _ => rfl))))
local macro_rules | `(tactic| walk_at "call type:enumerate") => `(tactic| (k_here; k_dflt (rename Fr _ _ _ _ => lF9; rename News _ _ _ _ => lN9; refine' src_tup ?hh lF9 lN9 rfl rfl ?hsz ?turn ?_; (case hh => rfl); (case hsz => exact Nat.le_of_ble_eq_true rfl); (case turn => (intro i9 v9 t9 s9 hv9; (obtain ⟨z9, u9, e9⟩ := five_get hv9); subst e9; rename IntsAre _ _ => hI9; have hlen9 := hI9.length; (refine' elt_first hI9 ?hl ?hoc ?hcd ?hc ?hh ?hg ?hbn ?hmiss ?hbl (fun _ => rfl) (fun _ => rfl) (fun _ => rfl) (fun _ => rfl) (fun _ => rfl) ?hsz); (case hc => rfl); (case hh => rfl); (case hl => assumption); (case hoc => k_mem); (case hcd => first | k_asm | rfl); (case hg => exact (Top.g (by assumption))); (case hbn => exact (Top.b (by assumption))); (case hmiss => exact (mg_none_of (by k_asm) (Top.g (by assumption)) (by k_is))); (case hbl => exact ((Top.builtins (by assumption) _ (by decide)).trans (by decide +kernel))); (case hsz => omega))); intro D9 h9 tk9 ys9 c9 F9 N9 hl9 hFi9 l9; (obtain ⟨a0, a1, a2, a3, a4, t0, t1, t2, t3, t4, e9, b0, b1, b2, b3, b4⟩ := small_five rfl hl9 hFi9); subst e9; clear hl9 hFi9; (have h5 := (⟨_, _, _, _, _, rfl, b0, b1, b2, b3, b4⟩ : Five [a0, a1, a2, a3, a4])); (have hI5 := (IntsAre.cons a0 t0 (IntsAre.cons a1 t1 (IntsAre.cons a2 t2 (IntsAre.cons a3 t3 (IntsAre.cons a4 t4 IntsAre.nil)))))); clear b0 b1 b2 b3 b4; (try k_lt l9); (try dsimp only); (try k_fold))))
local macro_rules | `(tactic| walk_at "exec Assign cons ListComp") => `(tactic| (k_here; k_dflt (rename Fr _ _ _ _ => lF9; rename Five _ => h59; refine' assign_wtR (x := PySem.Str.ofString "dots") lF9 h59 ?hLe ?a1 ?a2 ?a3 ?a4 ?a5 ?a6 ?a7 ?a8 ?a9 ?b1 ?b2 ?b3 ?_; (case hLe => rfl); (case a1 => rfl); (case a2 => with_unfolding_all rfl); (case a3 => with_unfolding_all rfl); (case a4 => decide); (case a5 => rfl); (case a6 => decide); (case a7 => rfl); (case a8 => rfl); (case a9 => decide +kernel); (case b1 => rfl); (case b2 => rfl); (case b3 => exact fun _ => rfl))))
local macro_rules | `(tactic| walk_at "call type:enumerate") => `(tactic| (k_here; k_dflt (rename Fr _ _ _ _ => lF9; rename News _ _ _ _ => lN9; rename IntsAre _ (diffsOf _) => hI9; rename Five _ => h59; refine' src_list ?hh lF9 lN9 ?hm hI9 ?hsz (fun i9 z9 t9 u9 s9 hi9 hz9 C9 oC9 X9 h9 m9 tk9 E9 hn9 hx9 hy9 F9 N9 => ?_) ?done; (case hh => rfl); (case hm => k_mem); (case hsz => (rw [five_len h59]; exact Nat.le_of_ble_eq_true rfl)); (case' done => (intro D9 h9 tk9 ys9 c9 F9 N9 hl9 hFi9 l9; (have hS9 := rows_strs0 hl9 hFi9); clear hl9 hFi9; (try k_lt l9))); all_goals ((try dsimp only); (try k_fold)))))
local macro_rules | `(tactic| walk_at "call ref") => `(tactic| (k_here; (with_reducible show wpAny _ _ (call (Value.ref 67) _) _ _ _); k_dflt (rename IntsAre _ _ => hI9; refine' MClaim.useL (diff_c _ _ _ _ _ _ _ _ _ _ hI9 ?hlen) ?k1 ?k2 ?k3 ?k4 ?k5 ?k6 ?k7 ?k8 ?k9 ?_; (case k4 => k_asm); (case k1 => k_asm); (case k2 => k_asm); (case k3 => k_asm); (case k5 => k_asm); (case k6 => first | exact rfl | assumption); (case k7 => trivial); (case hlen => exact Nat.le_of_ble_eq_true rfl); (case k8 => ktr_room); (case k9 => ktr_units); intro l9 us9 c9 h9 tk9 F9 N9 hI9; (try dsimp only); (try k_fold))))
local macro_rules | `(tactic| walk_at "call ref") => `(tactic| (k_here; (with_reducible show wpAny _ _ (call (Value.ref 72) _) _ _ _); k_dflt (refine' MClaim.useQ (row_c _ _ _ _ _ _ _ _ _ _) rfl ?k1 ?k2 ?k3 ?k4 ?k5 ?k6 ?k7 ?k8 ?k9 ?_; (case k4 => k_asm); (case k1 => k_asm); (case k2 => k_asm); (case k3 => k_asm); (case k5 => k_asm); (case k6 => first | exact rfl | assumption); (case k8 => ktr_room); (case k9 => ktr_units); (case k7 => exact five_bound (by assumption) (by assumption)); intro t9 h9 tk9 F9 N9; refine unStop ?_)))
local macro_rules | `(tactic| walk_at "call ref") => `(tactic| (k_here; (with_reducible show wpAny _ _ (call (Value.ref 48) _) _ _ _); k_dflt (first | (refine' MClaim.useQ (quote_c _ _ _ _ _ (firstS _) _ _) (quote_first _) ?k1 ?k2 ?k3 ?k4 ?k5 ?k6 ?k7 ?k8 ?k9 ?_; (case k4 => k_asm); (case k1 => k_asm); (case k2 => k_asm); (case k3 => k_asm); (case k5 => k_asm); (case k6 => first | exact rfl | assumption); (case k8 => ktr_room); (case k9 => ktr_units); (case k7 => exact first_size' (by assumption)); intro t9 h9 tk9 F9 N9; (try dsimp only); (try k_fold)) | (refine' MClaim.useQ (quote_c _ _ _ _ _ (mailS _) _ _) (quote_mail _) ?k1 ?k2 ?k3 ?k4 ?k5 ?k6 ?k7 ?k8 ?k9 ?_; (case k4 => k_asm); (case k1 => k_asm); (case k2 => k_asm); (case k3 => k_asm); (case k5 => k_asm); (case k6 => first | exact rfl | assumption); (case k8 => ktr_room); (case k9 => ktr_units); (case k7 => exact Nat.le_trans (mail_size (by assumption)) (by decide)); intro t9 h9 tk9 F9 N9; (try dsimp only); (try k_fold)))))
local macro_rules | `(tactic| walk_at "call ref") => `(tactic| (k_here; (with_reducible show wpAny _ _ (call (Value.ref 77) _) _ _ _); k_dflt (refine' HClaim.useM (heard_c _ _ _ _ _ _ (mailS _) _ ?hz ?hw) ?k1 ?k2 ?k3 ?kb ?k4 ?k5 ?kt ?k6 ?k8 ?k9 ?_; (case k4 => k_asm); (case k1 => k_asm); (case k2 => k_asm); (case k3 => k_asm); (case k5 => k_asm); (case k6 => first | exact rfl | assumption); (case k8 => ktr_room); (case k9 => ktr_units); (case kb => first | assumption | k_asm); (case kt => first | assumption | k_asm); (case hz => exact Nat.le_trans (mail_size (by assumption)) (by decide)); (case hw => exact Nat.le_trans (mail_size (by assumption)) (by decide)); intro l9 us9 c9 h9 tk9 F9 N9 hI9; (try dsimp only); (try k_fold))))
local macro_rules | `(tactic| walk_at "call ref") => `(tactic| (k_here; (with_reducible show wpAny _ _ (call (Value.ref 91) _) _ _ _); k_dflt (rename IntsAre _ (hear _ _ _) => hI9; refine' MClaim.useT (rows_c _ _ _ _ _ _ _ _ _ _ hI9 (lines_good _) ?hz) ?k1 ?k2 ?k3 ?k4 ?k5 ?k6 ?k7 ?k8 ?k9 ?hf ?_; (case k4 => k_asm); (case k1 => k_asm); (case k2 => k_asm); (case k3 => k_asm); (case k5 => k_asm); (case k6 => first | exact rfl | assumption); (case k8 => ktr_room); (case k9 => ktr_units); (case k7 => trivial); (case hz => exact heard_len (by assumption)); (case hf => assumption); clear hI9; intro l9 us9 c9 led9 h9 tk9 F9 N9 hD9 hl9; (try simp only [List.cons_append, List.nil_append] at N9 hD9); (try dsimp only); (try k_fold))))
local macro_rules | `(tactic| walk_at "call ref") => `(tactic| (k_here; (with_reducible show wpAny _ _ (call (Value.ref 96) _) _ _ _); k_dflt (rename DatAll _ _ _ => hD9; first | (refine' MClaim.useL (vals_c _ _ _ _ _ _ _ _ _ _ 6 ?hf _ hD9 ?hz ?hr) ?k1 ?k2 ?k3 ?k4 ?k5 ?k6 ?k7 ?k8 ?k9 ?_; (case k4 => k_asm); (case k1 => k_asm); (case k2 => k_asm); (case k3 => k_asm); (case k5 => k_asm); (case k6 => first | exact rfl | assumption); (case k8 => ktr_room); (case k9 => ktr_units); (case k7 => trivial); (case hf => exact (by unfold Few; decide)); (case hz => exact fit_clen (by assumption)); (case hr => exact fit_cast (by assumption)); intro l9 us9 c9 h9 tk9 F9 N9 hI9; (try dsimp only); (try k_fold)) | (refine' MClaim.useL (vals_c _ _ _ _ _ _ _ _ _ _ 7 ?hf _ hD9 ?hz ?hr) ?k1 ?k2 ?k3 ?k4 ?k5 ?k6 ?k7 ?k8 ?k9 ?_; (case k4 => k_asm); (case k1 => k_asm); (case k2 => k_asm); (case k3 => k_asm); (case k5 => k_asm); (case k6 => first | exact rfl | assumption); (case k8 => ktr_room); (case k9 => ktr_units); (case k7 => trivial); (case hf => exact (by unfold Few; decide)); (case hz => exact fit_clen (by assumption)); (case hr => exact fit_cast (by assumption)); intro l9 us9 c9 h9 tk9 F9 N9 hI9; (try dsimp only); (try k_fold)))))
local macro_rules | `(tactic| walk_at "subscriptTail") => `(tactic| (k_here; (with_reducible show wpAny _ _ (subscriptTail _ _ (Value.ref _) (Value.int 0 _)) _ _ _); k_dflt (refine' item_first ?N ?hm ?hs ?hg ?_; (case N => k_asm); (case hm => k_mem); (case hs => with_unfolding_all rfl); (case hg => (intro r9; with_unfolding_all rfl)))))
local macro_rules | `(tactic| walk_at "subscriptTail") => `(tactic| (k_here; (with_reducible show wpAny _ _ (subscriptTail _ _ (Value.ref _) (Value.ref _)) _ _ _); k_dflt (first | (refine' strs_drop ?F ?N ?hm ?hS ?h0 ?hl ?hs ?ht ?_; (case F => k_asm); (case N => k_asm); (case hm => k_mem); (case hS => assumption); (case h0 => first | exact Int.fmod_nonneg_of_pos _ (by decide) | exact Int.emod_nonneg _ (by decide)); (case hl => (rw [rowsTxt_len, five_len (by assumption)]; decide)); (case hs => with_unfolding_all rfl); (case ht => (intro r9; rfl)); intro D9 ws9 h9 F9 N9 l9 hS9; (try k_lt l9); (try k_sweep)) | (refine' strs_take ?F ?N ?hm ?hS ?h0 ?hl ?hs ?ht ?_; (case F => k_asm); (case N => k_asm); (case hm => k_mem); (case hS => assumption); (case h0 => first | exact Int.fmod_nonneg_of_pos _ (by decide) | exact Int.emod_nonneg _ (by decide)); (case hl => (rw [rowsTxt_len, five_len (by assumption)]; decide)); (case hs => with_unfolding_all rfl); (case ht => (intro r9; rfl)); intro D9 ws9 h9 F9 N9 l9 hS9; (try k_lt l9); (try k_sweep)))))
local macro_rules | `(tactic| walk_at "binaryOp Add ref ref") => `(tactic| (k_here; k_dflt (refine' strs_add ?F ?N ?ha ?hb ?hx ?hy ?hl ?_; (case F => k_asm); (case N => k_asm); (case ha => k_mem); (case hb => k_mem); (case hx => assumption); (case hy => assumption); (case hl => (rw [List.length_drop, List.length_take, rowsTxt_len, five_len (by assumption)]; omega)); intro D9 us9 h9 F9 N9 l9 hS9; (try k_lt l9); (try k_sweep))))
local macro_rules | `(tactic| walk_at "call builtin:str.join") => `(tactic| (k_here; k_dflt (refine' join_rows ?N ?hm ?hS ?h5 ?_; (case N => k_asm); (case hm => k_mem); (case hS => assumption); (case h5 => assumption); intro t9 k9 hf1 hf2 hf0; (try k_sweep))))
local macro_rules | `(tactic| walk_at "call builtin:len") => `(tactic| (k_here; k_dflt (rename List.length _ = 5 => hl9; refine' len_told ?N ?hm hl9 ?_; (case N => k_asm); (case hm => k_mem); intro t9 tk9)))
local macro_rules | `(tactic| walk_at "compareOp NotEq ref ref") => `(tactic| (k_here; k_dflt (with_unfolding_all (refine' ne_same ?k1 ?k2 ?k3 ?k4 ?k5 ?k6 ?_); (case k1 => is_list); (case k2 => assumption); (case k3 => is_list); (case k4 => l_intsC); (case k5 => units_room); (case k6 => first | (rw [turn_one]; exact newton_one' rfl rfl rfl rfl rfl rfl) | (rw [turn_two]; exact newton_two rfl rfl rfl rfl rfl rfl rfl rfl rfl rfl rfl rfl rfl)))))
local macro_rules | `(tactic| walk_at "UnrEnd") => `(tactic| (k_here; rename Fr _ _ _ _ => lF9; rename News _ _ _ _ => lN9; refine' unr_end lF9 lN9 ?d9 ?_; (case d9 => ((repeat (apply Drops.skip; focus k_ne)); apply Drops.here; (repeat (apply off_cons; focus k_ne)); first | exact List.forall_mem_nil _ | k_all)); refine' And.intro ?hm9 ?_; (case hm9 => k_dflt k_mem)))
local macro_rules | `(tactic| walk_at "UnrEnd") => `(tactic| (k_here; (with_reducible show UnrEnd _ _ _ _ (itR _ _) _ _); k_dflt (rename Fr _ _ _ _ => lF9; rename News _ _ _ _ => lN9; refine' unr_keep lF9 lN9 ?hv ?hK ?hI ?ne ?_; (case hv => rfl); (case hK => k_mem); (case hI => k_mem); (case ne => k_ne))))
theorem law_t : PySem.Challenge.rw_tx0001_01.Holds := hd (by
  k_with_none
  k_go0
  all_goals try k_fold
  k_steps
  unfold Stop
  exact ⟨⟨_, _, (by assumption), rfl⟩, _, _, rfl, (by assumption), (by assumption)⟩)
end Mine
theorem PySem.Challenge.cw_tx0001_01_holds : PySem.Challenge.rw_tx0001_01.Holds := by
  exact Mine.law_t

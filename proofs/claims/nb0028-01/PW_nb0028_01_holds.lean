import PyProof.Rows.All
import Wide.All
import OpenK.AllK
import Wide.FinOn
import PySem.Challenge.RW_nb0028_01
section
open PySem PySem.W PyProof.Rows
set_option Elab.async false
set_option maxRecDepth 100000
set_option maxHeartbeats 8000000
namespace Mine
open_top hd for PySem.Challenge.rw_nb0028_01
-- open_top leaves the walk's top arms on in this process; the parts below were made with them off
theorem tops_off : True := by w_top off; trivial
end Mine
end

section
open PySem PySem.Sre
set_option Elab.async false
namespace Mine
open PySem.Sre.M

theorem runFor_done {m : Sre.M} (h : m.outcome.isSome = true) (n : Nat) : runFor n m = m := by
  cases n with
  | zero => rfl
  | succ n => simp [runFor, h]

theorem runFor_add (a b : Nat) : ∀ m : Sre.M, runFor (a + b) m = runFor b (runFor a m) := by
  induction a with
  | zero => intro m; simp [runFor]
  | succ a ih =>
    intro m
    rw [show a + 1 + b = (a + b) + 1 by omega]
    simp only [runFor]
    by_cases h : m.outcome.isSome = true
    · simp only [h, if_true]; rw [runFor_done h]
    · simp only [h]; exact ih _

def code1 : Array Nat := #[14, 4, 0, 1, 1, 6, 1, 16, 46, 1]
def code2 : Array Nat := #[14, 9, 4, 1, 2, 16, 10, 16, 13, 0, 7, 7, 16, 13, 16, 10, 15, 18, 5, 16, 10, 15, 13, 11, 16, 13, 5, 5, 0, 16, 10, 1, 15, 2, 0, 1]

def At1 (text : Array Nat) (s : Nat) (seen : Seen) (first must : Bool) : Sre.M :=
  { code := code1, text := text, lim := text.size, start := s, lastStart := text.size, mustAdvance := must, pc := 5, pos := s, handed := s, outermost := first, marks := #[],
    frames := [{ wait := .nextStart, pc := 5, pos := s, outermost := first }], weight := 1, seen := seen }

theorem search1 (text : Array Nat) (s : Nat) (must : Bool) (hs : s < text.size) :
    ∃ seen, Sre.forSearch code1 text 0 s text.size must = At1 text s seen true must := by
  refine ⟨({} : Seen).add 14, ?_⟩
  unfold Sre.forSearch
  have h1 : ¬ (s > text.size) := by omega
  have h2 : ¬ (text.size - s < 1) := by omega
  have hh : Sre.header code1 = (1, 5) := by decide
  simp only [hh]
  simp only [h1, h2, decide_false, Bool.or_self, Bool.false_eq_true, if_false]
  rfl

theorem search1_none (text : Array Nat) (must : Bool) (s : Nat) (hs : text.size ≤ s) :
    ∃ m, Sre.forSearch code1 text 0 s text.size must = m ∧ (runFor 1 m).outcome = some .failed := by
  refine ⟨_, rfl, ?_⟩
  unfold Sre.forSearch
  have h2 : (text.size - s < 1) := by omega
  have hh : Sre.header code1 = (1, 5) := by decide
  simp only [hh]
  simp only [h2, decide_true, Bool.or_true, if_true]
  rfl

def Dot (text : Array Nat) (s : Nat) : Prop := (s = 0 ∨ text.getD (s - 1) 0 = 10) ∧ text.getD s 0 = 46

def Lit1 (text : Array Nat) (s : Nat) (seen : Seen) (first must : Bool) : Sre.M := { At1 text s seen first must with pc := 7 }
def Suc1 (text : Array Nat) (s : Nat) (seen : Seen) (first must : Bool) : Sre.M := { At1 text s seen first must with pc := 9, pos := s + 1 }

theorem step_at1 (text : Array Nat) (s : Nat) (seen : Seen) (first must : Bool) : (At1 text s seen first must).step =
    if (s == 0 || text.getD (s - 1) 0 == 10) = true then Lit1 text s ((seen.add 6).add 44) first must else { At1 text s ((seen.add 6).add 44) first must with answer := some false } := by
  unfold Lit1
  rfl
theorem step_lit1 (text : Array Nat) (s : Nat) (seen : Seen) (first must : Bool) : (Lit1 text s seen first must).step =
    if s ≥ text.size then { Lit1 text s (seen.add 16) first must with answer := some false } else
    match (text.getD s 0 == 46) with
    | false => { Lit1 text s (seen.add 16) first must with answer := some false }
    | true => Suc1 text s (seen.add 16) first must := by
  unfold Lit1 Suc1
  show (if s ≥ text.size then _ else match (Except.ok (text.getD s 0 == 46, seen.add 16) : Except String (Bool × Seen)) with
    | .error why => _
    | .ok (false, seen) => _
    | .ok (true, seen) => _) = _
  split
  · rfl
  · cases (text.getD s 0 == 46) <;> rfl
theorem step_suc1 (text : Array Nat) (s : Nat) (seen : Seen) (first must : Bool) : (Suc1 text s seen first must).step = { Suc1 text s (seen.add 1) first must with handed := s + 1, answer := some true } := by
  have h : (first && ((false && (s + 1 != text.size)) || (must && (s + 1 == s)))) = false := by simp
  show (if (first && ((false && (s + 1 != text.size)) || (must && (s + 1 == s)))) = true then _ else _) = _
  rw [h]
  rfl
theorem step_no1 (text : Array Nat) (s : Nat) (seen : Seen) (first must : Bool) (p : Nat) (hs : s < text.size) : ({ At1 text s seen first must with pc := p, answer := some false } : Sre.M).step = At1 text (s + 1) seen false false := by
  show (if s < text.size then _ else _) = _
  rw [if_pos hs]
  rfl
theorem step_end1 (text : Array Nat) (s : Nat) (seen : Seen) (first must : Bool) (p : Nat) (hs : ¬ s < text.size) : (runFor 2 ({ At1 text s seen first must with pc := p, answer := some false } : Sre.M)).outcome = some .failed := by
  show (runFor 1 (if s < text.size then _ else _)).outcome = _
  rw [if_neg hs]
  rfl
theorem at1_fail (text : Array Nat) (s : Nat) (seen : Seen) (first must : Bool) (hs : s < text.size) (hd : ¬ Dot text s) :
    ∃ k seen', k ≤ 3 ∧ runFor k (At1 text s seen first must) = At1 text (s + 1) seen' false false := by
  by_cases h0 : (s = 0 ∨ text.getD (s - 1) 0 = 10)
  · have h1 : text.getD s 0 ≠ 46 := fun h => hd ⟨h0, h⟩
    refine ⟨3, ((seen.add 6).add 44).add 16, by omega, ?_⟩
    have hb : (s == 0 || text.getD (s - 1) 0 == 10) = true := by rcases h0 with h | h <;> simp only [h, beq_self_eq_true, Bool.or_true, Bool.true_or]
    have hc : (text.getD s 0 == 46) = false := beq_eq_false_iff_ne.mpr h1
    have hge : ¬ (s ≥ text.size) := by omega
    show runFor 2 (At1 text s seen first must).step = _
    rw [step_at1, if_pos hb]
    show runFor 1 (Lit1 text s ((seen.add 6).add 44) first must).step = _
    rw [step_lit1, if_neg hge, hc]
    exact step_no1 text s _ first must 7 hs
  · refine ⟨2, ((seen.add 6).add 44), by omega, ?_⟩
    have hb : ¬ (s == 0 || text.getD (s - 1) 0 == 10) = true := by simpa using h0
    show runFor 1 (At1 text s seen first must).step = _
    rw [step_at1, if_neg hb]
    exact step_no1 text s _ first must 5 hs
theorem at1_end (text : Array Nat) (s : Nat) (seen : Seen) (first must : Bool) (hs : ¬ s < text.size) :
    ∃ k, k ≤ 4 ∧ (runFor k (At1 text s seen first must)).outcome = some .failed := by
  cases hb : (s == 0 || text.getD (s - 1) 0 == 10)
  · refine ⟨3, by omega, ?_⟩
    show (runFor 2 (At1 text s seen first must).step).outcome = _
    rw [step_at1, hb]
    exact step_end1 text s _ first must 5 hs
  · refine ⟨4, by omega, ?_⟩
    have hge : (s ≥ text.size) := by omega
    show (runFor 3 (At1 text s seen first must).step).outcome = _
    rw [step_at1, hb]
    show (runFor 2 (Lit1 text s ((seen.add 6).add 44) first must).step).outcome = _
    rw [step_lit1, if_pos hge]
    exact step_end1 text s _ first must 7 hs
theorem at1_hit (text : Array Nat) (s : Nat) (seen : Seen) (first must : Bool) (hs : s < text.size) (hd : Dot text s) :
    ∃ k, k ≤ 5 ∧ (runFor k (At1 text s seen first must)).outcome = some .matched ∧ (runFor k (At1 text s seen first must)).start = s ∧ (runFor k (At1 text s seen first must)).handed = s + 1 := by
  refine ⟨5, by omega, ?_⟩
  obtain ⟨h0, h1⟩ := hd
  have hb : (s == 0 || text.getD (s - 1) 0 == 10) = true := by rcases h0 with h | h <;> simp only [h, beq_self_eq_true, Bool.or_true, Bool.true_or]
  have hc : (text.getD s 0 == 46) = true := beq_iff_eq.mpr h1
  have hge : ¬ (s ≥ text.size) := by omega
  have e : runFor 5 (At1 text s seen first must) = runFor 2 { Suc1 text s ((((seen.add 6).add 44).add 16).add 1) first must with handed := s + 1, answer := some true } := by
    show runFor 4 (At1 text s seen first must).step = _
    rw [step_at1, if_pos hb]
    show runFor 3 (Lit1 text s ((seen.add 6).add 44) first must).step = _
    rw [step_lit1, if_neg hge, hc]
    show runFor 2 (Suc1 text s _ first must).step = _
    rw [step_suc1]
  rw [e]
  exact ⟨rfl, rfl, rfl⟩

/-- the search of the first code, from s: the first place at or behind s that is one -/
theorem find1 (text : Array Nat) : ∀ (n s : Nat) (seen : Seen) (first must : Bool), text.size - s = n →
    (∃ k, k ≤ 3 * n + 5 ∧ (runFor k (At1 text s seen first must)).outcome = some .failed ∧ ∀ j, s ≤ j → j < text.size → ¬ Dot text j) ∨
    (∃ k j, k ≤ 3 * n + 5 ∧ s ≤ j ∧ j < text.size ∧ Dot text j ∧ (∀ i, s ≤ i → i < j → ¬ Dot text i) ∧ (runFor k (At1 text s seen first must)).outcome = some .matched ∧
      (runFor k (At1 text s seen first must)).start = j ∧ (runFor k (At1 text s seen first must)).handed = j + 1) := by
  intro n
  induction n with
  | zero =>
    intro s seen first must hn
    obtain ⟨k, hk, h⟩ := at1_end text s seen first must (by omega)
    exact .inl ⟨k, by omega, h, fun j h1 h2 => by omega⟩
  | succ n ih =>
    intro s seen first must hn
    have hs : s < text.size := by omega
    by_cases hd : Dot text s
    · obtain ⟨k, hk, h1, h2, h3⟩ := at1_hit text s seen first must hs hd
      exact .inr ⟨k, s, by omega, Nat.le_refl _, hs, hd, fun i h1 h2 => by omega, h1, h2, h3⟩
    · obtain ⟨k, seen', hk, e⟩ := at1_fail text s seen first must hs hd
      rcases ih (s + 1) seen' false false (by omega) with ⟨k', hk', h1, h2⟩ | ⟨k', j, hk', hj, hj2, hj3, hj4, h1, h2, h3⟩
      · refine .inl ⟨k + k', by omega, ?_, fun j h3 h4 => ?_⟩
        · rw [runFor_add, e]; exact h1
        · rcases Nat.lt_or_eq_of_le h3 with h5 | h5
          · exact h2 j h5 h4
          · exact h5 ▸ hd
      · refine .inr ⟨k + k', j, by omega, by omega, hj2, hj3, fun i h4 h5 => ?_, ?_⟩
        · rcases Nat.lt_or_eq_of_le h4 with h6 | h6
          · exact hj4 i h6 h5
          · exact h6 ▸ hd
        · rw [runFor_add, e]; exact ⟨h1, h2, h3⟩
end Mine
end

section
open PySem PySem.Sre
set_option Elab.async false
namespace Mine
open PySem.Sre.M

def S2 (text : Array Nat) (s pc pos handed weight : Nat) (out : Bool) (frames : List Sre.Frame) (ans : Option Bool) (seen : Seen) : Sre.M :=
  { code := code2, text := text, lim := text.size, start := s, lastStart := text.size, pc := pc, pos := pos, handed := handed, outermost := out, marks := #[], frames := frames, weight := weight, answer := ans, seen := seen }

theorem lit12 (text : Array Nat) (s pos hd wt : Nat) (o : Bool) (fr : List Sre.Frame) (seen : Seen) : (S2 text s 12 pos hd wt o fr none seen).step =
    if pos ≥ text.size then S2 text s 12 pos hd wt o fr (some false) (seen.add 16) else
    match (text.getD pos 0 == 13) with
    | false => S2 text s 12 pos hd wt o fr (some false) (seen.add 16)
    | true => S2 text s 14 (pos + 1) hd wt o fr none (seen.add 16) := by
  unfold S2
  show (if pos ≥ text.size then _ else match (Except.ok (text.getD pos 0 == 13, seen.add 16) : Except String (Bool × Seen)) with
    | .error why => _
    | .ok (false, seen) => _
    | .ok (true, seen) => _) = _
  split
  · rfl
  · cases (text.getD pos 0 == 13) <;> rfl

theorem lit14 (text : Array Nat) (s pos hd wt : Nat) (o : Bool) (fr : List Sre.Frame) (seen : Seen) : (S2 text s 14 pos hd wt o fr none seen).step =
    if pos ≥ text.size then S2 text s 14 pos hd wt o fr (some false) (seen.add 16) else
    match (text.getD pos 0 == 10) with
    | false => S2 text s 14 pos hd wt o fr (some false) (seen.add 16)
    | true => S2 text s 16 (pos + 1) hd wt o fr none (seen.add 16) := by
  unfold S2
  show (if pos ≥ text.size then _ else match (Except.ok (text.getD pos 0 == 10, seen.add 16) : Except String (Bool × Seen)) with
    | .error why => _
    | .ok (false, seen) => _
    | .ok (true, seen) => _) = _
  split
  · rfl
  · cases (text.getD pos 0 == 10) <;> rfl

theorem lit19 (text : Array Nat) (s pos hd wt : Nat) (o : Bool) (fr : List Sre.Frame) (seen : Seen) : (S2 text s 19 pos hd wt o fr none seen).step =
    if pos ≥ text.size then S2 text s 19 pos hd wt o fr (some false) (seen.add 16) else
    match (text.getD pos 0 == 10) with
    | false => S2 text s 19 pos hd wt o fr (some false) (seen.add 16)
    | true => S2 text s 21 (pos + 1) hd wt o fr none (seen.add 16) := by
  unfold S2
  show (if pos ≥ text.size then _ else match (Except.ok (text.getD pos 0 == 10, seen.add 16) : Except String (Bool × Seen)) with
    | .error why => _
    | .ok (false, seen) => _
    | .ok (true, seen) => _) = _
  split
  · rfl
  · cases (text.getD pos 0 == 10) <;> rfl

theorem lit24 (text : Array Nat) (s pos hd wt : Nat) (o : Bool) (fr : List Sre.Frame) (seen : Seen) : (S2 text s 24 pos hd wt o fr none seen).step =
    if pos ≥ text.size then S2 text s 24 pos hd wt o fr (some false) (seen.add 16) else
    match (text.getD pos 0 == 13) with
    | false => S2 text s 24 pos hd wt o fr (some false) (seen.add 16)
    | true => S2 text s 26 (pos + 1) hd wt o fr none (seen.add 16) := by
  unfold S2
  show (if pos ≥ text.size then _ else match (Except.ok (text.getD pos 0 == 13, seen.add 16) : Except String (Bool × Seen)) with
    | .error why => _
    | .ok (false, seen) => _
    | .ok (true, seen) => _) = _
  split
  · rfl
  · cases (text.getD pos 0 == 13) <;> rfl

theorem lit29 (text : Array Nat) (s pos hd wt : Nat) (o : Bool) (fr : List Sre.Frame) (seen : Seen) : (S2 text s 29 pos hd wt o fr none seen).step =
    if pos ≥ text.size then S2 text s 29 pos hd wt o fr (some false) (seen.add 16) else
    match (text.getD pos 0 == 10) with
    | false => S2 text s 29 pos hd wt o fr (some false) (seen.add 16)
    | true => S2 text s 31 (pos + 1) hd wt o fr none (seen.add 16) := by
  unfold S2
  show (if pos ≥ text.size then _ else match (Except.ok (text.getD pos 0 == 10, seen.add 16) : Except String (Bool × Seen)) with
    | .error why => _
    | .ok (false, seen) => _
    | .ok (true, seen) => _) = _
  split
  · rfl
  · cases (text.getD pos 0 == 10) <;> rfl

abbrev fS (s : Nat) : Sre.Frame := { wait := .nextStart, pc := 10, pos := s, outermost := true }
abbrev fB (s pc : Nat) : Sre.Frame := { wait := .nextBranch, pc := pc, pos := s, outermost := true }
abbrev fN (s : Nat) : Sre.Frame := { wait := .lookNot, pc := 26, pos := s, outermost := true }
theorem branch2 (text : Array Nat) (s hd : Nat) (seen : Seen) : (S2 text s 10 s hd 1 true [fS s] none seen).step = S2 text s 12 s s 2 true [fB s 11, fS s] none (seen.add 7) := rfl
theorem next11 (text : Array Nat) (s p q hd : Nat) (seen : Seen) : (S2 text s p q hd 2 true [fB s 11, fS s] (some false) seen).step = S2 text s 19 s s 2 true [fB s 18, fS s] none seen := rfl
theorem next18 (text : Array Nat) (s p q hd : Nat) (seen : Seen) : (S2 text s p q hd 2 true [fB s 18, fS s] (some false) seen).step = S2 text s 24 s s 2 true [fB s 23, fS s] none seen := rfl
theorem jump16 (text : Array Nat) (s pos hd wt : Nat) (o : Bool) (fr : List Sre.Frame) (seen : Seen) : (S2 text s 16 pos hd wt o fr none seen).step = S2 text s 35 pos hd wt o fr none (seen.add 15) := rfl
theorem jump21 (text : Array Nat) (s pos hd wt : Nat) (o : Bool) (fr : List Sre.Frame) (seen : Seen) : (S2 text s 21 pos hd wt o fr none seen).step = S2 text s 35 pos hd wt o fr none (seen.add 15) := rfl
theorem jump32 (text : Array Nat) (s pos hd wt : Nat) (o : Bool) (fr : List Sre.Frame) (seen : Seen) : (S2 text s 32 pos hd wt o fr none seen).step = S2 text s 35 pos hd wt o fr none (seen.add 15) := rfl
theorem not26 (text : Array Nat) (s pos hd k : Nat) (seen : Seen) : (S2 text s 26 pos hd 2 true [fB s k, fS s] none seen).step = S2 text s 29 pos pos 3 false [fN pos, fB s k, fS s] none (seen.add 5) := rfl
theorem notNo (text : Array Nat) (s p q pos hd k : Nat) (seen : Seen) : (S2 text s p q hd 3 false [fN pos, fB s k, fS s] (some false) seen).step = S2 text s 32 pos hd 2 true [fB s k, fS s] none seen := rfl
theorem suc35 (text : Array Nat) (s pos hd wt : Nat) (o : Bool) (fr : List Sre.Frame) (seen : Seen) : (S2 text s 35 pos hd wt o fr none seen).step = S2 text s 35 pos pos wt o fr (some true) (seen.add 1) := by
  have h : (o && ((false && (pos != text.size)) || (false && (pos == s)))) = false := by simp
  show (if (o && ((false && (pos != text.size)) || (false && (pos == s)))) = true then _ else _) = _
  rw [h]
  rfl
theorem run_yes (text : Array Nat) (s p q hd k : Nat) (seen : Seen) : runFor 3 (S2 text s p q hd 2 true [fB s k, fS s] (some true) seen) = { S2 text s 10 s hd 0 true [] (some true) seen with outcome := some .matched } := rfl

/-- a line end of the text at s: how many signs it takes -/
def eol (text : Array Nat) (s : Nat) : Nat := if text.getD s 0 = 13 ∧ text.getD (s + 1) 0 = 10 ∧ s + 1 < text.size then 2 else 1

def IsEnd (text : Array Nat) (s : Nat) : Prop := text.getD s 0 = 10 ∨ text.getD s 0 = 13

theorem runStep {m m' : Sre.M} (h : m.outcome = none) (e : m.step = m') (n : Nat) : runFor (n + 1) m = runFor n m' := by
  simp [runFor, h, e]

theorem hit2 (text : Array Nat) (s hd : Nat) (seen : Seen) (hs : s < text.size) (he : IsEnd text s) :
    ∃ k, k ≤ 20 ∧ (runFor k (S2 text s 10 s hd 1 true [fS s] none seen)).outcome = some .matched ∧ (runFor k (S2 text s 10 s hd 1 true [fS s] none seen)).start = s ∧
      (runFor k (S2 text s 10 s hd 1 true [fS s] none seen)).handed = s + eol text s := by
  have hge : ¬ (s ≥ text.size) := by omega
  by_cases h13 : text.getD s 0 = 13
  · have b13 : (text.getD s 0 == 13) = true := beq_iff_eq.mpr h13
    have b10 : (text.getD s 0 == 10) = false := beq_eq_false_iff_ne.mpr (by rw [h13]; decide)
    by_cases hn : text.getD (s + 1) 0 = 10 ∧ s + 1 < text.size
    · have hge' : ¬ (s + 1 ≥ text.size) := by omega
      have b' : (text.getD (s + 1) 0 == 10) = true := beq_iff_eq.mpr hn.1
      have e : runFor 8 (S2 text s 10 s hd 1 true [fS s] none seen) = runFor 3 (S2 text s 35 (s + 1 + 1) (s + 1 + 1) 2 true [fB s 11, fS s] (some true) (((((seen.add 7).add 16).add 16).add 15).add 1)) := by
        rw [runStep rfl (branch2 ..), runStep rfl (lit12 ..), if_neg hge, b13]
        dsimp only
        rw [runStep rfl (lit14 ..), if_neg hge', b']
        dsimp only
        rw [runStep rfl (jump16 ..), runStep rfl (suc35 ..)]
      refine ⟨8, by omega, ?_⟩
      rw [e, run_yes]
      refine ⟨rfl, rfl, ?_⟩
      show s + 1 + 1 = s + eol text s
      unfold eol; rw [if_pos ⟨h13, hn⟩]
    · have e1 : runFor 16 (S2 text s 10 s hd 1 true [fS s] none seen) = runFor 13 (S2 text s 14 (s + 1) s 2 true [fB s 11, fS s] (some false) (((seen.add 7).add 16).add 16)) := by
        rw [runStep rfl (branch2 ..), runStep rfl (lit12 ..), if_neg hge, b13]
        dsimp only
        rw [runStep rfl (lit14 ..)]
        split
        · rfl
        · rw [beq_eq_false_iff_ne.mpr (fun h => hn ⟨h, by omega⟩)]
      have e2 : ∀ sn, runFor 13 (S2 text s 14 (s + 1) s 2 true [fB s 11, fS s] (some false) sn) = runFor 7 (S2 text s 29 (s + 1) (s + 1) 3 false [fN (s + 1), fB s 23, fS s] (some false) ((((sn.add 16).add 16).add 5).add 16)) := by
        intro sn
        rw [runStep rfl (next11 ..), runStep rfl (lit19 ..), if_neg hge, b10]
        dsimp only
        rw [runStep rfl (next18 ..), runStep rfl (lit24 ..), if_neg hge, b13]
        dsimp only
        rw [runStep rfl (not26 ..), runStep rfl (lit29 ..)]
        split
        · rfl
        · rw [beq_eq_false_iff_ne.mpr (fun h => hn ⟨h, by omega⟩)]
      have e3 : ∀ sn, runFor 7 (S2 text s 29 (s + 1) (s + 1) 3 false [fN (s + 1), fB s 23, fS s] (some false) sn) = { S2 text s 10 s (s + 1) 0 true [] (some true) ((sn.add 15).add 1) with outcome := some .matched } := by
        intro sn
        rw [runStep rfl (notNo ..), runStep rfl (jump32 ..), runStep rfl (suc35 ..)]
        exact runFor_add 3 1 _ ▸ by rw [run_yes]; rfl
      refine ⟨16, by omega, ?_⟩
      rw [e1, e2, e3]
      refine ⟨rfl, rfl, ?_⟩
      show s + 1 = s + eol text s
      unfold eol; rw [if_neg (fun h => hn h.2)]
  · have h10 : text.getD s 0 = 10 := he.resolve_right h13
    have b13 : (text.getD s 0 == 13) = false := beq_eq_false_iff_ne.mpr h13
    have b10 : (text.getD s 0 == 10) = true := beq_iff_eq.mpr h10
    have e : runFor 9 (S2 text s 10 s hd 1 true [fS s] none seen) = runFor 3 (S2 text s 35 (s + 1) (s + 1) 2 true [fB s 18, fS s] (some true) (((((seen.add 7).add 16).add 16).add 15).add 1)) := by
      rw [runStep rfl (branch2 ..), runStep rfl (lit12 ..), if_neg hge, b13]
      dsimp only
      rw [runStep rfl (next11 ..), runStep rfl (lit19 ..), if_neg hge, b10]
      dsimp only
      rw [runStep rfl (jump21 ..), runStep rfl (suc35 ..)]
    refine ⟨9, by omega, ?_⟩
    rw [e, run_yes]
    refine ⟨rfl, rfl, ?_⟩
    show s + 1 = s + eol text s
    unfold eol; rw [if_neg (fun h => h13 h.1)]

theorem inSet2 (c : Nat) (seen : Seen) : ∃ seen', Sre.inSet code2 c code2.size 5 true seen = .ok (c == 10 || c == 13, seen') := by
  cases h10 : (c == 10)
  · cases h13 : (c == 13)
    · refine ⟨((seen.add 16).add 16).add 0, ?_⟩
      show (if (c == 10) = true then _ else if (c == 13) = true then _ else _) = _
      rw [h10, h13]; rfl
    · refine ⟨(seen.add 16).add 16, ?_⟩
      show (if (c == 10) = true then _ else if (c == 13) = true then _ else _) = _
      rw [h10, h13]; rfl
  · refine ⟨seen.add 16, ?_⟩
    show (if (c == 10) = true then _ else _) = _
    rw [h10]; rfl

theorem admitted2 (m : Sre.M) (hc : m.code = code2) (hl : m.lim = m.text.size) : ∀ (n s : Nat) (seen : Seen), m.text.size - s < n →
    (∃ seen', m.admitted n s seen = .ok (none, seen') ∧ ∀ j, s ≤ j → j < m.text.size → ¬ IsEnd m.text j) ∨
    (∃ seen' j, m.admitted n s seen = .ok (some j, seen') ∧ s ≤ j ∧ j < m.text.size ∧ IsEnd m.text j ∧ ∀ i, s ≤ i → i < j → ¬ IsEnd m.text i) := by
  intro n
  induction n with
  | zero => intro s seen h; omega
  | succ n ih =>
    intro s seen h
    unfold Sre.M.admitted
    by_cases hs : s ≥ m.lim
    · rw [if_pos hs]
      exact .inl ⟨seen, rfl, fun j h1 h2 => by omega⟩
    · rw [if_neg hs]
      obtain ⟨seen', e⟩ := inSet2 (m.text.getD s 0) seen
      rw [hc, e]
      cases hb : (m.text.getD s 0 == 10 || m.text.getD s 0 == 13)
      · dsimp only
        have hno : ¬ IsEnd m.text s := by
          intro h9
          rcases h9 with h9 | h9 <;> rw [h9] at hb <;> simp at hb
        rcases ih (s + 1) seen' (by omega) with ⟨sn, e1, h1⟩ | ⟨sn, j, e1, h1, h2, h3, h4⟩
        · refine .inl ⟨sn, e1, fun j h3 h4 => ?_⟩
          rcases Nat.lt_or_eq_of_le h3 with h5 | h5
          · exact h1 j h5 h4
          · exact h5 ▸ hno
        · refine .inr ⟨sn, j, e1, by omega, h2, h3, fun i h5 h6 => ?_⟩
          rcases Nat.lt_or_eq_of_le h5 with h7 | h7
          · exact h4 i h7 h6
          · exact h7 ▸ hno
      · refine .inr ⟨seen', s, rfl, Nat.le_refl _, by omega, ?_, fun i h1 h2 => by omega⟩
        rcases Bool.or_eq_true_iff.mp hb with h9 | h9
        · exact .inl (beq_iff_eq.mp h9)
        · exact .inr (beq_iff_eq.mp h9)

/-- the search of the second code -/
theorem find2 (text : Array Nat) (s : Nat) (must : Bool) :
    (∃ k, k ≤ 20 ∧ (runFor k (Sre.forSearch code2 text 0 s text.size must)).outcome = some .failed ∧ ∀ j, s ≤ j → j < text.size → ¬ IsEnd text j) ∨
    (∃ k j, k ≤ 20 ∧ s ≤ j ∧ j < text.size ∧ IsEnd text j ∧ (∀ i, s ≤ i → i < j → ¬ IsEnd text i) ∧ (runFor k (Sre.forSearch code2 text 0 s text.size must)).outcome = some .matched ∧
      (runFor k (Sre.forSearch code2 text 0 s text.size must)).start = j ∧ (runFor k (Sre.forSearch code2 text 0 s text.size must)).handed = j + eol text j) := by
  have hh : Sre.header code2 = (1, 10) := by decide
  by_cases hs : s < text.size
  · obtain ⟨m, hm, hc, ht, hl, hlit⟩ : ∃ m : Sre.M, Sre.forSearch code2 text 0 s text.size must = m.attemptFrom s true ∧ m.code = code2 ∧ m.text = text ∧ m.lim = text.size ∧
        (∀ sn j, ({ m with mustAdvance := false, seen := sn } : Sre.M).attemptAt j true = S2 text j 10 j j 1 true [fS j] none sn) ∧ (∀ sn, (runFor 1 (({ m with seen := sn } : Sre.M).say false)).outcome = some .failed) := by
      have h1 : ¬ (s > text.size) := by omega
      have h2 : ¬ (text.size - s < 1) := by omega
      refine ⟨_, by unfold Sre.forSearch; simp only [hh]; simp only [h1, h2, decide_false, Bool.or_self, Bool.false_eq_true, if_false]; rfl, rfl, rfl, rfl, fun sn j => rfl, fun sn => rfl⟩
    rw [hm]
    have hf : m.hasFirstSet = true := by unfold Sre.M.hasFirstSet; rw [hc]; decide
    have hA := admitted2 m hc (by rw [hl, ht]) (m.lim + 1 - s) s m.seen (by rw [hl, ht]; omega)
    rw [ht] at hA
    unfold Sre.M.attemptFrom
    rw [hf]
    rcases hA with ⟨sn, e, h⟩ | ⟨sn, j, e, h1, h2, h3, h4⟩
    · rw [e]
      exact .inl ⟨1, by omega, hlit.2 sn, h⟩
    · rw [e]
      dsimp only
      rw [show (!true) = false from rfl, if_neg Bool.false_ne_true, hlit.1]
      obtain ⟨k, hk, g1, g2, g3⟩ := hit2 text j j sn h2 h3
      exact .inr ⟨k, j, hk, h1, h2, h3, h4, g1, g2, g3⟩
  · refine .inl ⟨1, by omega, ?_, fun j h1 h2 => by omega⟩
    unfold Sre.forSearch
    have h2 : (text.size - s < 1) := by omega
    simp only [hh]
    simp only [h2, decide_true, Bool.or_true, if_true]
    rfl
end Mine
end

section
open PySem PySem.Sre PySem.Builtin.Re
set_option Elab.async false
namespace Mine
open PySem.Sre.M

section
variable {M : Model} {A : Around} {E : Value → Shared → Prop} {s : Shared}

theorem drive {m : Sre.M} {k : Nat} {Q : Sre.M → Shared → Prop} (hk : (runFor k m).outcome.isSome = true) (hQ : Q (runFor k m) s) : ∀ n, k ≤ 4 * n → 0 < n → wpAny M A (reDrive n m) Q E s := by
  intro n
  induction n generalizing m k with
  | zero => intro _ h; omega
  | succ n ih =>
    intro hle _
    unfold reDrive
    show wpAny M A (if (runFor 4 m).outcome.isSome = true then pure (runFor 4 m) else (rule "sre.turn" >>= fun _ => reDrive n (runFor 4 m))) Q E s
    by_cases h4 : (runFor 4 m).outcome.isSome = true
    · rw [if_pos h4]
      have e : runFor 4 m = runFor k m := by
        rcases Nat.le_total k 4 with h | h
        · rw [show 4 = k + (4 - k) by omega, runFor_add, runFor_done hk]
        · rw [show k = 4 + (k - 4) by omega, runFor_add, runFor_done h4]
      exact wpAny_pure (e ▸ hQ)
    · rw [if_neg h4]
      have h : 4 < k := by
        rcases Nat.lt_or_ge 4 k with h | h
        · exact h
        · exact absurd (by rw [show 4 = k + (4 - k) by omega, runFor_add, runFor_done hk]; exact hk) h4
      have e : runFor (k - 4) (runFor 4 m) = runFor k m := by rw [← runFor_add]; congr 1; omega
      exact wpAny_bind (wpAny_rule (ih (m := runFor 4 m) (k := k - 4) (by rw [e]; exact hk) (by rw [e]; exact hQ) (by omega) (by omega)))

theorem told_all {P : Nat → Bool} {f : Nat → String} {Q : PUnit → Shared → Prop} (hQ : Q () s) : ∀ l : List Nat, wpAny M A (forIn l PUnit.unit fun i _ => if P i = true then (do rule (f i); pure (ForInStep.yield PUnit.unit)) else (do pure PUnit.unit; pure (ForInStep.yield PUnit.unit)) : Sem PUnit) Q E s
  | [] => by rw [List.forIn_nil]; exact wpAny_pure hQ
  | i :: l => by
    rw [List.forIn_cons]
    refine wpAny_bind ?_
    split
    · exact wpAny_bind (wpAny_rule (wpAny_pure (told_all hQ l)))
    · exact wpAny_pure (told_all hQ l)

theorem runToEnd {m : Sre.M} {k : Nat} {Q : Option Sre.M → Shared → Prop} (hk : k ≤ 2 ^ 60)
    (h : ((runFor k m).outcome = some .matched ∧ Q (some (runFor k m)) s) ∨ ((runFor k m).outcome = some .failed ∧ Q none s)) : wpAny M A (reRunToEnd m) Q E s := by
  unfold reRunToEnd
  refine wpAny_bind (drive (k := k) ?_ ?_ (2 ^ 64) (by omega) (by omega))
  · rcases h with ⟨h, _⟩ | ⟨h, _⟩ <;> rw [h] <;> rfl
  · refine wpAny_bind ?_
    refine told_all ?_ _
    rcases h with ⟨h, hQ⟩ | ⟨h, hQ⟩
    · rw [h]; exact wpAny_pure hQ
    · rw [h]; exact wpAny_pure hQ
end
end Mine
end

section
open PySem PySem.Sre PySem.Builtin.Re PyProof.Rows
set_option Elab.async false
namespace Mine
open PySem.Sre.M

/-- what a search of a code finds, on any text -/
def Finds (code : Array Nat) (Hit : Array Nat → Nat → Prop) (len : Array Nat → Nat → Nat) : Prop :=
  ∀ (text : Array Nat) (s : Nat) (must : Bool), text.size ≤ 2 ^ 24 →
    (∃ k, k ≤ 2 ^ 60 ∧ (runFor k (Sre.forSearch code text 0 s text.size must)).outcome = some .failed ∧ ∀ j, s ≤ j → j < text.size → ¬ Hit text j) ∨
    (∃ k j, k ≤ 2 ^ 60 ∧ s ≤ j ∧ j < text.size ∧ Hit text j ∧ (∀ i, s ≤ i → i < j → ¬ Hit text i) ∧ (runFor k (Sre.forSearch code text 0 s text.size must)).outcome = some .matched ∧
      (runFor k (Sre.forSearch code text 0 s text.size must)).start = j ∧ (runFor k (Sre.forSearch code text 0 s text.size must)).handed = j + len text j)

theorem finds2 : Finds code2 IsEnd eol := by
  intro text s must _
  rcases find2 text s must with ⟨k, hk, h⟩ | ⟨k, j, hk, h⟩
  · exact .inl ⟨k, by omega, h⟩
  · exact .inr ⟨k, j, by omega, h⟩

theorem finds1 : Finds code1 Dot (fun _ _ => 1) := by
  intro text s must hsz
  by_cases hs : s < text.size
  · obtain ⟨seen, e⟩ := search1 text s must hs
    rw [e]
    rcases find1 text (text.size - s) s seen true must rfl with ⟨k, hk, h⟩ | ⟨k, j, hk, h⟩
    · exact .inl ⟨k, by omega, h⟩
    · exact .inr ⟨k, j, by omega, h⟩
  · obtain ⟨m, e, h⟩ := search1_none text must s (by omega)
    rw [e]
    exact .inl ⟨1, by omega, h, fun j h1 h2 => by omega⟩

inductive SubRel (Hit : Array Nat → Nat → Prop) (len : Array Nat → Nat → Nat) (text : Array Nat) (r : List Nat) : Nat → List Nat → Prop
  | done {d : Nat} : (∀ j, d ≤ j → j < text.size → ¬ Hit text j) → SubRel Hit len text r d (text.toList.drop d)
  | hit {d j : Nat} {out : List Nat} : d ≤ j → j < text.size → Hit text j → (∀ i, d ≤ i → i < j → ¬ Hit text i) → SubRel Hit len text r (j + len text j) out →
      SubRel Hit len text r d ((text.toList.drop d).take (j - d) ++ r ++ out)

structure PatAt (h : Heap) (pa ca : Addr) (code : Array Nat) : Prop where
  pat : ∃ op p0 p1 p3 p4, h.get? pa = some op ∧ op.cls = .type "re.Pattern" ∧ op.data = .fields #[p0, p1, .int 0 0, p3, p4, .ref ca, .int 0 0]
  code : ∃ oc vs n, h.get? ca = some oc ∧ oc.data = .seq vs n ∧ (vs.map reRawOf).map (·.toNat) = code

theorem PatAt.at {h h' : Heap} {pa ca : Addr} {code : Array Nat} (P : PatAt h pa ca code) (h1 : ∀ o, h.get? pa = some o → h'.get? pa = some o) (h2 : ∀ o, h.get? ca = some o → h'.get? ca = some o) : PatAt h' pa ca code := by
  obtain ⟨⟨op, p0, p1, p3, p4, e1, e2, e3⟩, oc, vs, n, e4, e5, e6⟩ := P
  exact ⟨⟨op, p0, p1, p3, p4, h1 _ e1, e2, e3⟩, oc, vs, n, h2 _ e4, e5, e6⟩

section
variable {M : Model} {A : Around} {E : Value → Shared → Prop} {s : Shared}

theorem wpAny_target {pa ca : Addr} {code : Array Nat} {x : Str} {t : Tok} {Q : ReTarget → Shared → Prop} (P : PatAt s.heap pa ca code)
    (h : Q { pattern := .ref pa, string := .str x t, code := code, text := x.cps, kind := 0, groups := 0, pos := 0, lim := x.cps.size } s) : wpAny M A (reWholeTarget (.ref pa) (.str x t)) Q E s := by
  obtain ⟨⟨op, p0, p1, p3, p4, e1, e2, e3⟩, oc, vs, n, e4, e5, e6⟩ := P
  unfold reWholeTarget
  refine wpAny_bind (wpAny_fieldsOf e1 e3 ?_)
  refine wpAny_bind ?_
  show wpAny M A (pure (x.cps, 0)) _ E s
  refine wpAny_pure ?_
  show wpAny M A (reRawItems (.ref ca) >>= _) _ E s
  unfold reRawItems
  refine wpAny_bind (wpAny_bind (wpAny_seqItems e4 e5 (wpAny_pure (wpAny_pure ?_))))
  dsimp only [Option.getD_some]
  rw [e6]
  exact h

theorem wpAny_next {code : Array Nat} {Hit : Array Nat → Nat → Prop} {len : Array Nat → Nat → Nat} (F : Finds code Hit len) {T : ReTarget} {d : Nat} {must : Bool} {Q : Option Sre.M → Shared → Prop}
    (hc : T.code = code) (hg : T.groups = 0) (hl : T.lim = T.text.size) (hsz : T.text.size ≤ 2 ^ 24)
    (hno : (∀ j, d ≤ j → j < T.text.size → ¬ Hit T.text j) → Q none s)
    (hyes : ∀ m j, d ≤ j → j < T.text.size → Hit T.text j → (∀ i, d ≤ i → i < j → ¬ Hit T.text i) → m.start = j → m.handed = j + len T.text j → Q (some m) s) : wpAny M A (reNextFound T d must) Q E s := by
  unfold reNextFound
  rw [hc, hg, hl]
  rcases F T.text d must hsz with ⟨k, hk, h1, h2⟩ | ⟨k, j, hk, h1, h2, h3, h4, h5, h6, h7⟩
  · exact runToEnd hk (.inr ⟨h1, hno h2⟩)
  · exact runToEnd hk (.inl ⟨h5, hyes _ j h1 h2 h3 h4 h6 h7⟩)
end

def cat (ys : List Str) : List Nat := ys.flatMap (·.cps.toList)

theorem glued_nil (ys : List Str) : (Builtin.Str.glued ⟨#[]⟩ ys).cps.toList = cat ys := by
  have h : ∀ (l : List Str) (a : Array Nat), (l.foldl (fun acc p => acc ++ (#[] : Array Nat) ++ p.cps) a).toList = a.toList ++ cat l := by
    intro l
    induction l with
    | nil => intro a; simp [cat]
    | cons p l ih => intro a; rw [List.foldl_cons, ih]; simp [cat]
  unfold Builtin.Str.glued
  cases ys with
  | nil => rfl
  | cons y l => simp only [List.drop_succ_cons, List.drop_zero, List.headD_cons]; rw [h]; simp [cat]

theorem plain_sub_loop : plainId "re.Pattern.sub.loop" = true := by decide +kernel
theorem entry_sub_loop : entryFor table "re.Pattern.sub.loop" = some Builtin.«re.Pattern.sub.loop» := entryFor_of_fast (by kernel_rfl)
end Mine
end

section
open PySem PySem.Sre PySem.Builtin.Re PyProof.Rows
set_option Elab.async false
namespace Mine
open PySem.Sre.M

theorem cat_append (a b : List Str) : cat (a ++ b) = cat a ++ cat b := by simp [cat]
theorem cat_length (ys : List Str) : (cat ys).length = (ys.map (·.length)).sum := by
  induction ys with
  | nil => rfl
  | cons y l ih =>
    show (y.cps.toList ++ cat l).length = _
    rw [List.length_append, ih, List.map_cons, List.sum_cons]; rfl

theorem StrsAre.snoc {vs : List Value} {ys : List Str} (h : StrsAre vs ys) (y : Str) (t : Tok) : StrsAre (vs ++ [.str y t]) (ys ++ [y]) := by
  induction h with
  | nil => exact .cons y t .nil
  | cons z u _ ih => exact .cons z u ih

/-- a list object's items are texts -/
def Pieces (h : Heap) (l : Addr) (ys : List Str) : Prop := ∃ arr n, h.get? l = some { cls := .type "list", data := .seq arr n } ∧ StrsAre arr.toList ys

section
variable {prog : Program} {w : World} {A : Around} {E : Value → Shared → Prop} {s : Shared}

def Off (l : Addr) (h h' : Heap) : Prop := ∀ b o, b ≠ l → h.get? b = some o → h'.get? b = some o
theorem Off.refl {l : Addr} {h : Heap} : Off l h h := fun _ _ _ e => e
theorem Off.trans {l : Addr} {h h' h'' : Heap} (a : Off l h h') (b : Off l h' h'') : Off l h h'' := fun c o n e => b c o n (a c o n e)

theorem push_piece {l : Addr} {ys : List Str} {y : Str} {t : Tok} {Q : Unit → Shared → Prop} (P : Pieces s.heap l ys) (hz : ys.length ≤ 2 ^ 23)
    (h : ∀ h', Pieces h' l (ys ++ [y]) → Off l s.heap h' → Q () { s with heap := h' }) : wpAny (model prog w) A (updateSeq l (·.push (.str y t))) Q E s := by
  obtain ⟨arr, n, ho, hi⟩ := P
  have hlen : arr.size = ys.length := by rw [← PyProof.Rows.StrsAre.len_eq hi]; simp
  refine wpAny_updateSeq ho rfl (h _ ⟨arr.push (.str y t), _, Heap.get?_update_self _ ho rfl, by simpa using StrsAre.snoc hi y t⟩ fun b o hb e => ?_) (by rw [hlen]; unfold sizeLine; omega) (by simp only [Array.size_push, hlen]; unfold sizeLine; omega)
  rw [Heap.get?_update_ne _ _ _ _ hb]; exact e

theorem sub_loop {code : Array Nat} {Hit : Array Nat → Nat → Prop} {len : Array Nat → Nat → Nat} (F : Finds code Hit len) {pa ca : Addr} {x : Str} {t : Tok} {r : Str} {u : Tok}
    (hsz : x.cps.size ≤ 2 ^ 20) (hr : r.cps.size = 2) (hpos : ∀ j, j < x.cps.size → Hit x.cps j → 1 ≤ len x.cps j ∧ j + len x.cps j ≤ x.cps.size) :
    ∀ (n d : Nat) (s : Shared) (cnt : Int) (must : Bool) (l : Addr) (ys : List Str) (R : Result → Shared → Prop), x.cps.size - d = n → PatAt s.heap pa ca code → Pieces s.heap l ys → l ≠ pa → l ≠ ca → d ≤ x.cps.size →
      ys.length ≤ 2 * d → (cat ys).length ≤ 3 * d →
      (∀ out h' tk t', SubRel Hit len x.cps r.cps.toList d out → Off l s.heap h' → R (.ok (.ret (.str ⟨(cat ys ++ out).toArray⟩ t'))) { s with heap := h', toks := tk }) →
      codeAny (model prog w) A (.builtin "re.Pattern.sub.loop" ⟨[.ref pa, .str x t, .str r u, rawInt 0, rawInt 0, rawInt cnt, rawInt d, rawInt d, .bool must, .ref l, .bool false], []⟩) R s := by
  intro n
  induction n using Nat.strongRecOn with
  | ind n ih =>
  intro d s cnt must l ys R hn P L hlp hlc hd hy hc ret
  refine codeAny_builtin entry_sub_loop ?_
  rw [Around.under_plainId plain_sub_loop _]
  unfold Builtin.«re.Pattern.sub.loop»
  show wpAny _ _ (reWholeTarget (.ref pa) (.str x t) >>= _) _ _ s
  refine wpAny_bind (wpAny_target P ?_)
  dsimp only
  refine wpAny_bind ?_
  show wpAny _ _ (pure () : Sem Unit) _ _ s
  refine wpAny_pure ?_
  refine wpAny_bind ?_
  show wpAny _ _ (reNextFound _ d must) _ _ s
  refine wpAny_next F rfl rfl rfl (by show x.cps.size ≤ _; omega) (fun hno => ?_) (fun m j h1 h2 h3 h4 h5 h6 => ?_)
  · have ret' := fun h' tk t' => ret _ h' tk t' (.done hno)
    have tail : ∀ (s' : Shared) (ys' : List Str), Pieces s'.heap l ys' → ys'.length ≤ 2 ^ 21 → (cat ys').length ≤ 2 ^ 22 → (∀ tk t', R (.ok (.ret (.str ⟨(cat ys').toArray⟩ t'))) { s' with toks := tk }) →
        wpAny (model prog w) A.in1 (do
          let joiner ← reSlice x.cps 0 0 0
          let its ← seqItems? (Value.ref l)
          if (its.getD #[]).isEmpty = true then do
            let text ← pure joiner
            if false = true then do
              let p ← holding [text] do
                let i ← mkInt cnt
                newTuple [text, i]
              PySem.ret p
            else PySem.ret text
          else do
            let text ← call (Value.builtin (if (0 == 0) = true then "str.join" else "bytes.join")) [joiner, Value.ref l]
            if false = true then do
              let p ← holding [text] do
                let i ← mkInt cnt
                newTuple [text, i]
              PySem.ret p
            else PySem.ret text)
          (fun fin s' => match fin with | Fin.done f => R (Except.ok f) s' | Fin.again c' => c'.quiet = true ∧ codeAny (model prog w) A c' R s') (fun e s' => R (Except.error e) s') s' := by
      intro s' ys' L' hl' hc' ret'
      have he : x.cps.extract 0 0 = #[] := by simp
      refine wpAny_bind ?_
      show wpAny _ _ (mkStr ⟨x.cps.extract 0 0⟩) _ _ s'
      rw [he]
      refine wpAny_mkStr ?_ (by show (0 : Nat) ≤ _; exact Nat.zero_le _)
      obtain ⟨arr, n', ho, hi⟩ := L'
      refine wpAny_bind (wpAny_seqItems ho rfl ?_)
      dsimp only [Option.getD_some]
      have hlen : arr.size = ys'.length := by rw [← PyProof.Rows.StrsAre.len_eq hi]; simp
      by_cases hem : arr.isEmpty = true
      · rw [if_pos hem]
        have : ys' = [] := by
          cases ys' with
          | nil => rfl
          | cons y l => simp at hem; subst hem; simp at hlen
        subst this
        exact wpAny_bind (wpAny_pure (wpAny_pure (ret' _ _)))
      · rw [if_neg hem]
        refine wpAny_bind ?_
        show wpAny _ _ (call (Value.builtin "str.join") [.str ⟨#[]⟩ _, Value.ref l]) _ _ _
        refine join_list ⟨_, ho, rfl, n', rfl⟩ hi ?_ fun t' k => ?_
        · rw [cat_length] at hc'
          show _ + _ * 0 ≤ _
          omega
        · refine wpAny_pure ?_
          have e : Txt.join ⟨#[]⟩ ys' = ⟨(cat ys').toArray⟩ := by
            show (Builtin.Str.glued ⟨#[]⟩ ys') = _
            rw [← glued_nil ys']
          rw [e]
          exact ret' _ _
    dsimp only
    have hdt : ((d : Int)).toNat = d := Int.toNat_natCast d
    rw [hdt]
    by_cases hlt : d < x.cps.size
    · rw [if_pos hlt]
      refine wpAny_bind ?_
      show wpAny _ _ (mkStr ⟨x.cps.extract d x.cps.size⟩) _ _ s
      refine wpAny_mkStr ?_ (by show (x.cps.extract d x.cps.size).size ≤ _; rw [Array.size_extract]; unfold sizeLine; omega)
      refine wpAny_bind (push_piece (s := { s with toks := s.toks + 1 }) L (by omega) fun h' L' O => ?_)
      have hlen : (cat [⟨x.cps.extract d x.cps.size⟩]).length = x.cps.size - d := by simp [cat]
      refine tail _ _ L' (by rw [List.length_append, List.length_singleton]; omega) (by rw [cat_append, List.length_append, hlen]; omega) fun tk t' => ?_
      have e : cat (ys ++ [⟨x.cps.extract d x.cps.size⟩]) = cat ys ++ x.cps.toList.drop d := by
        rw [cat_append]; congr 1; simp [cat, List.take_of_length_le]
      rw [e]
      exact ret' h' tk t' O
    · rw [if_neg hlt]
      refine tail _ _ L (by omega) (by omega) fun tk t' => ?_
      have e : cat ys = cat ys ++ x.cps.toList.drop d := by
        rw [List.drop_of_length_le (by simp; omega), List.append_nil]
      rw [e]
      exact ret' s.heap tk t' Off.refl
  · dsimp only at h1 h2 h3 h4 h6
    obtain ⟨g1, g2⟩ := hpos j h2 h3
    dsimp only
    have hdt : ((d : Int)).toNat = d := Int.toNat_natCast d
    rw [hdt, h5]
    have back : ∀ (s' : Shared) (ys' : List Str), Pieces s'.heap l ys' → ys'.length ≤ 2 * d + 1 → cat ys' = cat ys ++ (x.cps.toList.drop d).take (j - d) → Off l s.heap s'.heap → (∀ h' tk, ({ s' with heap := h', toks := tk } : Shared) = { s with heap := h', toks := tk }) →
        wpAny (model prog w) A.in1 (do
          let item ← pure (Value.str r u)
          if (item != Value.none) = true then do
            updateSeq l (fun y => y.push item)
            again (.builtin "re.Pattern.sub.loop" ⟨[.ref pa, .str x t, .str r u, rawInt 0, rawInt 0, rawInt (cnt + 1), rawInt m.handed, rawInt m.handed, .bool (m.handed == j), .ref l, .bool false], []⟩)
          else again (.builtin "re.Pattern.sub.loop" ⟨[.ref pa, .str x t, .str r u, rawInt 0, rawInt 0, rawInt (cnt + 1), rawInt m.handed, rawInt m.handed, .bool (m.handed == j), .ref l, .bool false], []⟩))
          (fun fin s' => match fin with | Fin.done f => R (Except.ok f) s' | Fin.again c' => c'.quiet = true ∧ codeAny (model prog w) A c' R s') (fun e s' => R (Except.error e) s') s' := by
      intro s' ys' L' hl' hc' O' es
      refine wpAny_bind (wpAny_pure ?_)
      rw [if_pos (by rfl)]
      refine wpAny_bind (push_piece L' (by omega) fun h' L'' O'' => ?_)
      refine wpAny_pure ⟨plainId_quiet plain_sub_loop _, ?_⟩
      rw [h6]
      have hO : Off l s.heap h' := O'.trans O''
      refine ih (x.cps.size - (j + len x.cps j)) (by omega) (j + len x.cps j) _ _ _ l (ys' ++ [r]) R rfl (P.at (fun o e => hO _ o (Ne.symm hlp) e) (fun o e => hO _ o (Ne.symm hlc) e)) L'' hlp hlc g2 ?_ ?_ ?_
      · rw [List.length_append, List.length_singleton]; omega
      · have : (cat [r]).length = 2 := by simp [cat, hr]
        rw [cat_append, List.length_append, this, hc', List.length_append, List.length_take, List.length_drop]
        omega
      · intro out h'' tk t' hS hO2
        have e : cat (ys' ++ [r]) ++ out = cat ys ++ ((x.cps.toList.drop d).take (j - d) ++ r.cps.toList ++ out) := by
          rw [cat_append, hc']; simp [cat]
        rw [e]
        have := ret _ h'' tk t' (.hit h1 h2 h3 h4 hS) (hO.trans hO2)
        rw [← es h'' tk] at this
        exact this
    by_cases hlt : d < j
    · rw [if_pos hlt]
      refine wpAny_bind ?_
      show wpAny _ _ (mkStr ⟨x.cps.extract d j⟩) _ _ s
      refine wpAny_mkStr ?_ (by show (x.cps.extract d j).size ≤ _; rw [Array.size_extract]; unfold sizeLine; omega)
      refine wpAny_bind (push_piece (s := { s with toks := s.toks + 1 }) L (by omega) fun h' L' O => ?_)
      rw [if_pos (show ((0 : Int) == 0) = true from rfl)]
      refine back _ _ L' (by rw [List.length_append, List.length_singleton]; omega) ?_ O (fun _ _ => rfl)
      rw [cat_append]; congr 1; simp [cat, List.drop_take]
    · rw [if_neg hlt]
      rw [if_pos (show ((0 : Int) == 0) = true from rfl)]
      refine back _ _ L (by omega) ?_ Off.refl (fun _ _ => rfl)
      rw [show j - d = 0 by omega, List.take_zero, List.append_nil]
end
end Mine
end

section
open PySem PySem.Sre PySem.Builtin.Re PyProof.Rows
set_option Elab.async false
set_option maxRecDepth 100000
namespace Mine

theorem slot_sub : Slot "re.Pattern" "sub" "re.Pattern.sub" :=
  .of (owner := "re.Pattern") (n := "sub") (by rw [typeLookup_type, builtinLookup_eq_fast]; kernel_rfl) (by decide +kernel) (by decide +kernel) (by decide +kernel)
    (by first | exact .inl (by decide +kernel) | exact .inr (by decide +kernel)) (by rw [isSubtype_type]; kernel_rfl)
theorem type_sub : typeOf (.builtin "re.Pattern.sub") = pure (.type "method_descriptor") := by show builtinType _ = _; rw [builtinType_eq_fast]; kernel_rfl
theorem entry_sub : entryFor table "re.Pattern.sub" = some Builtin.«re.Pattern.sub» := entryFor_of_tree (by kernel_rfl)
theorem str_no_call : typeLookup (.type "str") "__call__" = pure none := by rw [typeLookup_type, builtinLookup_eq_fast]; kernel_rfl
theorem args_sub (a b c : Value) : argsOk "re.Pattern.sub" ⟨[a, b, c], []⟩ := by
  unfold argsOk; rw [signature?_of (id := "re.Pattern.sub") (n := ['b', 'u', 's']) (o := ['n', 'r', 'e', 't', 't', 'a', 'P', '.', 'e', 'r']) (rows := Manifest.sig_re_Pattern) (by kernel_rfl) (by kernel_rfl)]; kernel_rfl

theorem plain_re : PlainAttrs "re.Pattern" where
  ga := ⟨"object.__getattribute__", by rw [typeLookup_type, builtinLookup_eq_fast]; kernel_rfl, by decide +kernel⟩
  noGetattr := by rw [typeLookup_type, builtinLookup_eq_fast]; kernel_rfl

theorem sub_tree (pa : Addr) (r x : Str) (u t : Tok) : Builtin.«re.Pattern.sub» ⟨[.ref pa, .str r u, .str x t], []⟩ = (do
    let called := (← specialOf (.str r u) "__call__").isSome
    let literal ← if called then pure false else pure (!r.cps.contains 92)
    let (repl, way) ← if called then pure (.str r u, 1) else if literal then pure (.str r u, 0) else do
      let t ← reCompileTemplate (.ref pa) (.str r u)
      if ← reOnlyLiteral t then pure (← field t 0, 0) else pure (t, 2)
    let _ ← holding [repl] (reWholeTarget (.ref pa) (.str x t))
    if way == 1 then reNotHeld "re.Pattern.sub" (.str x t)
    again (.builtin "re.Pattern.sub.loop" ⟨[.ref pa, .str x t, repl, rawInt way, rawInt 0, rawInt 0, rawInt 0, rawInt 0, .bool false, ← newList [], .bool false], []⟩)) := by
  rfl

section
variable {prog : Program} {w : World} {A : Around} {E : Value → Shared → Prop} {s : Shared}
theorem call_sub {code : Array Nat} {Hit : Array Nat → Nat → Prop} {len : Array Nat → Nat → Nat} (F : Finds code Hit len) {pa ca : Addr} {x : Str} {t : Tok} {r : Str} {u : Tok}
    (hsz : x.cps.size ≤ 2 ^ 20) (hr : r.cps.size = 2) (hr92 : r.cps.contains 92 = false) (hpos : ∀ j, j < x.cps.size → Hit x.cps j → 1 ≤ len x.cps j ∧ j + len x.cps j ≤ x.cps.size)
    (P : PatAt s.heap pa ca code) {Q : Value → Shared → Prop}
    (ret : ∀ out h' tk t', SubRel Hit len x.cps r.cps.toList 0 out → (∀ b o, s.heap.get? b = some o → h'.get? b = some o) → Q (.str ⟨out.toArray⟩ t') { s with heap := h', toks := tk }) :
    wpAny (model prog w) A (call (.builtin "re.Pattern.sub") [.ref pa, .str r u, .str x t]) Q E s := by
  have hT : s.TypeIs (.ref pa) "re.Pattern" := by obtain ⟨⟨op, _, _, _, _, e1, e2, _⟩, _⟩ := P; exact ⟨op, e1, e2⟩
  refine wpAny_call (codeAny_call_builtin slot_sub.plain entry_sub (slot_sub.check _ _ _ _ _ _ _ _ hT (args_sub _ _ _) ?_))
  rw [sub_tree pa r x u t, hr92]
  refine wpAny_bind (wpAny_specialOf (typeIs_str _ _ _) str_no_call ?_)
  refine wpAny_bind (wpAny_pure ?_)
  refine wpAny_bind (wpAny_pure ?_)
  refine wpAny_bind (wpAny_holding (wpAny_target P ?_))
  refine wpAny_bind ?_
  refine wpAny_newObj_type ?_
  refine wpAny_pure ⟨plainId_quiet plain_sub_loop _, ?_⟩
  have hpl : pa < s.heap.objs.size := by obtain ⟨⟨op, _, _, _, _, e1, _, _⟩, _⟩ := P; exact Heap.lt_size e1
  have hcl : ca < s.heap.objs.size := by obtain ⟨_, ⟨oc, _, _, e1, _, _⟩⟩ := P; exact Heap.lt_size e1
  refine sub_loop F hsz hr hpos _ 0 _ 0 false s.heap.objs.size [] _ rfl (P.at (fun o e => Heap.get?_push_of_some _ e) (fun o e => Heap.get?_push_of_some _ e))
    ⟨#[], 0, Heap.get?_push_size _ rfl, .nil⟩ (Nat.ne_of_gt hpl) (Nat.ne_of_gt hcl) (Nat.zero_le _) (Nat.le_refl _) (Nat.le_refl _) fun out h' tk t' hS hO => ?_
  exact ret out h' tk t' hS fun b o e => hO b o (Nat.ne_of_lt (Heap.lt_size e)) (Heap.get?_push_of_some _ e)
end
end Mine
end

section
set_option Elab.async false
namespace Mine

/-- the text cut at each sign group y, from the left -/
def piecesF (y : List Nat) : Nat → List Nat → List (List Nat)
  | 0, l => [l]
  | _ + 1, [] => [[]]
  | n + 1, c :: r => if y.isPrefixOf (c :: r) then [] :: piecesF y n ((c :: r).drop y.length) else
      match piecesF y n r with
      | p :: q => (c :: p) :: q
      | [] => [[c]]
def pieces (y l : List Nat) : List (List Nat) := piecesF y (l.length + 1) l

theorem piecesF_ne (y : List Nat) : ∀ n l, ∃ p q, piecesF y n l = p :: q
  | 0, l => ⟨l, [], rfl⟩
  | _ + 1, [] => ⟨[], [], rfl⟩
  | n + 1, c :: r => by
    unfold piecesF
    split
    · exact ⟨_, _, rfl⟩
    · obtain ⟨p, q, e⟩ := piecesF_ne y n r
      rw [e]; exact ⟨_, _, rfl⟩

theorem piecesF_enough (y : List Nat) (hy : 0 < y.length) : ∀ n m l, l.length < n → l.length < m → piecesF y n l = piecesF y m l := by
  intro n
  induction n with
  | zero => intro m l h; omega
  | succ n ih =>
    intro m l hn hm
    cases m with
    | zero => omega
    | succ m =>
      cases l with
      | nil => rfl
      | cons c r =>
        simp only [piecesF]
        simp only [List.length_cons] at hn hm
        rw [ih m r (by omega) (by omega), ih m ((c :: r).drop y.length) (by rw [List.length_drop, List.length_cons]; omega) (by rw [List.length_drop, List.length_cons]; omega)]

theorem pieces_nil (y : List Nat) : pieces y [] = [[]] := rfl
theorem pieces_hit {y l : List Nat} (hy : 0 < y.length) (h : y.isPrefixOf l = true) : pieces y l = [] :: pieces y (l.drop y.length) := by
  cases l with
  | nil => cases y with
    | nil => simp at hy
    | cons a b => simp [List.isPrefixOf] at h
  | cons c r =>
    unfold pieces
    rw [show (c :: r).length + 1 = (r.length + 1) + 1 from rfl]
    conv => lhs; unfold piecesF
    rw [if_pos h]
    congr 1
    exact piecesF_enough y hy _ _ _ (by rw [List.length_drop, List.length_cons]; omega) (by omega)
theorem pieces_miss {y : List Nat} {c : Nat} {r : List Nat} (h : y.isPrefixOf (c :: r) = false) : ∃ p q, pieces y r = p :: q ∧ pieces y (c :: r) = (c :: p) :: q := by
  obtain ⟨p, q, e⟩ := piecesF_ne y (r.length + 1) r
  refine ⟨p, q, e, ?_⟩
  unfold pieces
  rw [show (c :: r).length + 1 = (r.length + 1) + 1 from rfl]
  conv => lhs; unfold piecesF
  rw [if_neg (by rw [h]; exact Bool.false_ne_true), e]

def joinL (z : List Nat) : List (List Nat) → List Nat
  | [] => []
  | [p] => p
  | p :: q :: r => p ++ z ++ joinL z (q :: r)
theorem joinL_cons (z p : List Nat) {r : List (List Nat)} (h : r ≠ []) : joinL z (p :: r) = p ++ z ++ joinL z r := by
  cases r with
  | nil => exact absurd rfl h
  | cons q r => rfl
theorem joinL_head (z : List Nat) (c : Nat) (p : List Nat) (q : List (List Nat)) : joinL z ((c :: p) :: q) = c :: joinL z (p :: q) := by
  cases q <;> simp [joinL]
theorem pieces_ne (y l : List Nat) : pieces y l ≠ [] := by
  obtain ⟨p, q, e⟩ := piecesF_ne y (l.length + 1) l
  unfold pieces; rw [e]; simp

/-- universal line ends -/
def rowsL : List Nat → List (List Nat)
  | [] => [[]]
  | 13 :: 10 :: r => [] :: rowsL r
  | c :: r => if c = 10 ∨ c = 13 then [] :: rowsL r else
      match rowsL r with
      | p :: q => (c :: p) :: q
      | [] => [[c]]
theorem rowsL_ne : ∀ l, ∃ p q, rowsL l = p :: q := by
  intro l
  unfold rowsL
  split
  · exact ⟨_, _, rfl⟩
  · exact ⟨_, _, rfl⟩
  · split
    · exact ⟨_, _, rfl⟩
    · split <;> exact ⟨_, _, rfl⟩
theorem rowsL_crlf (r : List Nat) : rowsL (13 :: 10 :: r) = [] :: rowsL r := by rw [rowsL]
theorem rowsL_end {c : Nat} {r : List Nat} (h : c = 10 ∨ c = 13) (hn : ¬ (c = 13 ∧ r.head? = some 10)) : rowsL (c :: r) = [] :: rowsL r := by
  rw [rowsL]
  · rw [if_pos h]
  · intro r' hr; rintro rfl; exact hn ⟨hr, rfl⟩
theorem rowsL_other {c : Nat} {r : List Nat} (h : ¬ (c = 10 ∨ c = 13)) : ∃ p q, rowsL r = p :: q ∧ rowsL (c :: r) = (c :: p) :: q := by
  obtain ⟨p, q, e⟩ := rowsL_ne r
  refine ⟨p, q, e, ?_⟩
  rw [rowsL]
  · rw [if_neg h, e]
  · intro r' hr _; exact h (.inr hr)

/-- three ways in which a text begins -/
theorem ways (l : List Nat) : l = [] ∨ (∃ r, l = 13 :: 10 :: r) ∨ (∃ c r, l = c :: r ∧ (c = 10 ∨ c = 13) ∧ ¬ (c = 13 ∧ r.head? = some 10)) ∨ (∃ c r, l = c :: r ∧ ¬ (c = 10 ∨ c = 13)) := by
  cases l with
  | nil => exact .inl rfl
  | cons c r =>
    by_cases h : c = 10 ∨ c = 13
    · by_cases h2 : c = 13 ∧ r.head? = some 10
      · obtain ⟨rfl, h3⟩ := h2
        cases r with
        | nil => simp at h3
        | cons d r => simp at h3; subst h3; exact .inr (.inl ⟨r, rfl⟩)
      · exact .inr (.inr (.inl ⟨c, r, rfl, h, h2⟩))
    · exact .inr (.inr (.inr ⟨c, r, rfl, h⟩))

theorem rowsL_free : ∀ (n : Nat) (l : List Nat), l.length ≤ n → ∀ p ∈ rowsL l, 10 ∉ p ∧ 13 ∉ p := by
  intro n
  induction n with
  | zero => intro l h p hp; obtain rfl : l = [] := List.length_eq_zero_iff.mp (by omega); simp [rowsL] at hp; subst hp; simp
  | succ n ih =>
    intro l h
    rcases ways l with rfl | ⟨r, rfl⟩ | ⟨c, r, rfl, hc, hn⟩ | ⟨c, r, rfl, hc⟩
    · intro p hp; simp [rowsL] at hp; subst hp; simp
    · rw [rowsL_crlf]; intro p hp
      rcases List.mem_cons.mp hp with rfl | hp
      · simp
      · exact ih r (by simp only [List.length_cons] at h; omega) p hp
    · rw [rowsL_end hc hn]; intro p hp
      rcases List.mem_cons.mp hp with rfl | hp
      · simp
      · exact ih r (by simp only [List.length_cons] at h; omega) p hp
    · obtain ⟨p0, q, e1, e2⟩ := rowsL_other (r := r) hc
      have ih' := ih r (by simp only [List.length_cons] at h; omega)
      rw [e1] at ih'
      rw [e2]; intro p hp
      rcases List.mem_cons.mp hp with rfl | hp
      · have := ih' p0 (List.mem_cons_self ..)
        simp only [List.mem_cons, not_or] at hc ⊢
        exact ⟨⟨fun h => hc.1 h.symm, this.1⟩, fun h => hc.2 h.symm, this.2⟩
      · exact ih' p (List.mem_cons_of_mem _ hp)

/-- the text with z for each y -/
def replL (y z l : List Nat) : List Nat := joinL z (pieces y l)
theorem replL_nil (y z : List Nat) : replL y z [] = [] := rfl
theorem replL_hit {y z l : List Nat} (hy : 0 < y.length) (h : y.isPrefixOf l = true) : replL y z l = z ++ replL y z (l.drop y.length) := by
  unfold replL; rw [pieces_hit hy h, joinL_cons _ _ (pieces_ne _ _)]; rfl
theorem replL_miss {y z : List Nat} {c : Nat} {r : List Nat} (h : y.isPrefixOf (c :: r) = false) : replL y z (c :: r) = c :: replL y z r := by
  obtain ⟨p, q, e1, e2⟩ := pieces_miss h
  unfold replL; rw [e1, e2, joinL_head]

theorem rows_by_ops : ∀ (n : Nat) (l : List Nat), l.length ≤ n → pieces [10] (replL [13] [10] (replL [13, 10] [10] l)) = rowsL l := by
  intro n
  induction n with
  | zero => intro l h; obtain rfl : l = [] := List.length_eq_zero_iff.mp (by omega); rfl
  | succ n ih =>
    intro l h
    rcases ways l with rfl | ⟨r, rfl⟩ | ⟨c, r, rfl, hc, hn⟩ | ⟨c, r, rfl, hc⟩
    · rfl
    · rw [rowsL_crlf, replL_hit (y := [13, 10]) (by decide) (by simp [List.isPrefixOf])]
      show pieces [10] (replL [13] [10] (10 :: replL [13, 10] [10] r)) = _
      rw [replL_miss (by simp [List.isPrefixOf]), pieces_hit (by decide) (by simp [List.isPrefixOf])]
      show [] :: pieces [10] (replL [13] [10] (replL [13, 10] [10] r)) = _
      rw [ih r (by simp only [List.length_cons] at h; omega)]
    · rw [rowsL_end hc hn, replL_miss (by
        cases r with
        | nil => simp [List.isPrefixOf]
        | cons d r =>
          simp only [List.isPrefixOf, Bool.and_eq_false_iff, Bool.and_true, beq_eq_false_iff_ne]
          simp only [List.head?_cons, Option.some.injEq, not_and] at hn
          by_cases h : c = 13
          · exact .inr (fun e => hn h e.symm)
          · exact .inl (fun e => h e.symm))]
      have e : ∀ t, pieces [10] (replL [13] [10] (c :: t)) = [] :: pieces [10] (replL [13] [10] t) := by
        intro t
        rcases hc with rfl | rfl
        · rw [replL_miss (by simp [List.isPrefixOf]), pieces_hit (by decide) (by simp [List.isPrefixOf])]; rfl
        · rw [replL_hit (by decide) (by simp [List.isPrefixOf])]
          show pieces [10] (10 :: replL [13] [10] t) = _
          rw [pieces_hit (by decide) (by simp [List.isPrefixOf])]; rfl
      rw [e, ih r (by simp only [List.length_cons] at h; omega)]
    · obtain ⟨p0, q, e1, e2⟩ := rowsL_other (r := r) hc
      have h10 : ¬ c = 10 := fun e => hc (.inl e)
      have h13 : ¬ c = 13 := fun e => hc (.inr e)
      rw [e2, replL_miss (by simp [List.isPrefixOf]; intro e; exact absurd e.symm h13), replL_miss (by simp [List.isPrefixOf]; exact fun e => h13 e.symm)]
      obtain ⟨p, q', f1, f2⟩ := pieces_miss (y := [10]) (c := c) (r := replL [13] [10] (replL [13, 10] [10] r)) (by simp [List.isPrefixOf]; exact fun e => h10 e.symm)
      rw [f2]
      rw [ih r (by simp only [List.length_cons] at h; omega), e1] at f1
      cases f1; rfl

/-- what the second pattern's sub makes -/
def nl (l : List Nat) : List Nat := joinL [13, 10] (rowsL l)
theorem nl_crlf (r : List Nat) : nl (13 :: 10 :: r) = 13 :: 10 :: nl r := by
  obtain ⟨p, q, e⟩ := rowsL_ne r
  unfold nl; rw [rowsL_crlf, joinL_cons _ _ (by rw [e]; simp)]; rfl
theorem nl_end {c : Nat} {r : List Nat} (h : c = 10 ∨ c = 13) (hn : ¬ (c = 13 ∧ r.head? = some 10)) : nl (c :: r) = 13 :: 10 :: nl r := by
  obtain ⟨p, q, e⟩ := rowsL_ne r
  unfold nl; rw [rowsL_end h hn, joinL_cons _ _ (by rw [e]; simp)]; rfl
theorem nl_other {c : Nat} {r : List Nat} (h : ¬ (c = 10 ∨ c = 13)) : nl (c :: r) = c :: nl r := by
  obtain ⟨p, q, e1, e2⟩ := rowsL_other (r := r) h
  unfold nl; rw [e1, e2, joinL_head]

/-- what the first pattern's sub makes: b says that a row begins here -/
def dots : Bool → List Nat → List Nat
  | _, [] => []
  | b, c :: r => if b = true ∧ c = 46 then 46 :: 46 :: dots false r else c :: dots (c == 10) r

def stuff (p : List Nat) : List Nat := if p.head? = some 46 then 46 :: p else p

theorem dots_row : ∀ (p : List Nat), 10 ∉ p → dots false p = p
  | [], _ => rfl
  | c :: r, h => by
    have h1 : ¬ c = 10 := fun e => h (e ▸ List.mem_cons_self ..)
    rw [dots, if_neg (by simp), show (c == 10) = false from beq_eq_false_iff_ne.mpr h1, dots_row r (fun h2 => h (List.mem_cons_of_mem _ h2))]
theorem dots_row_then : ∀ (p t : List Nat), 10 ∉ p → dots false (p ++ 13 :: 10 :: t) = p ++ 13 :: 10 :: dots true t
  | [], t, _ => by simp [dots]
  | c :: r, t, h => by
    have h1 : ¬ c = 10 := fun e => h (e ▸ List.mem_cons_self ..)
    rw [List.cons_append, dots, if_neg (by simp), show (c == 10) = false from beq_eq_false_iff_ne.mpr h1, dots_row_then r t (fun h2 => h (List.mem_cons_of_mem _ h2)), List.cons_append]
theorem dots_first (p : List Nat) (h : 10 ∉ p) : dots true p = stuff p := by
  cases p with
  | nil => rfl
  | cons c r =>
    have h1 : ¬ c = 10 := fun e => h (e ▸ List.mem_cons_self ..)
    have h2 : 10 ∉ r := fun h2 => h (List.mem_cons_of_mem _ h2)
    unfold dots stuff
    by_cases hc : c = 46
    · subst hc; simp [dots_row r h2]
    · rw [if_neg (by simp [hc]), if_neg (by simp [hc]), show (c == 10) = false from beq_eq_false_iff_ne.mpr h1, dots_row r h2]
theorem dots_first_then (p t : List Nat) (h : 10 ∉ p) : dots true (p ++ 13 :: 10 :: t) = stuff p ++ 13 :: 10 :: dots true t := by
  cases p with
  | nil => simp [dots, stuff]
  | cons c r =>
    have h1 : ¬ c = 10 := fun e => h (e ▸ List.mem_cons_self ..)
    have h2 : 10 ∉ r := fun h2 => h (List.mem_cons_of_mem _ h2)
    rw [List.cons_append, dots]
    unfold stuff
    by_cases hc : c = 46
    · subst hc; simp [dots_row_then r t h2]
    · rw [if_neg (by simp [hc]), if_neg (by simp [hc]), show (c == 10) = false from beq_eq_false_iff_ne.mpr h1, dots_row_then r t h2, List.cons_append]
theorem dots_join : ∀ (rs : List (List Nat)), (∀ p ∈ rs, 10 ∉ p) → dots true (joinL [13, 10] rs) = joinL [13, 10] (rs.map stuff)
  | [], _ => rfl
  | [p], h => dots_first p (h p (List.mem_cons_self ..))
  | p :: q :: r, h => by
    show dots true (p ++ [13, 10] ++ joinL [13, 10] (q :: r)) = stuff p ++ [13, 10] ++ joinL [13, 10] ((q :: r).map stuff)
    rw [List.append_assoc, ← dots_join (q :: r) (fun x hx => h x (List.mem_cons_of_mem _ hx))]
    show dots true (p ++ 13 :: 10 :: joinL [13, 10] (q :: r)) = _
    rw [dots_first_then p _ (h p (List.mem_cons_self ..))]
    simp

/-- the quoted text -/
def quote (l : List Nat) : List Nat := dots true (nl l)
def stuffed (l : List Nat) : List (List Nat) := (rowsL l).map stuff
theorem quote_eq (l : List Nat) : quote l = joinL [13, 10] (stuffed l) := dots_join _ fun p hp => (rowsL_free _ l (Nat.le_refl _) p hp).1

theorem pieces_row (p t : List Nat) (h : 13 ∉ p) : pieces [13, 10] (p ++ 13 :: 10 :: t) = p :: pieces [13, 10] t := by
  induction p with
  | nil => rw [List.nil_append, pieces_hit (by decide) (by simp [List.isPrefixOf])]; rfl
  | cons c r ih =>
    obtain ⟨p', q, e1, e2⟩ := pieces_miss (y := [13, 10]) (c := c) (r := r ++ 13 :: 10 :: t) (by
      simp only [List.isPrefixOf, Bool.and_eq_false_iff, beq_eq_false_iff_ne]
      exact .inl (fun e => h (by rw [e]; exact List.mem_cons_self ..)))
    rw [ih (fun h2 => h (List.mem_cons_of_mem _ h2))] at e1
    cases e1
    rw [List.cons_append, e2]
theorem pieces_last (p : List Nat) (h : 13 ∉ p) : pieces [13, 10] p = [p] := by
  induction p with
  | nil => rfl
  | cons c r ih =>
    obtain ⟨p', q, e1, e2⟩ := pieces_miss (y := [13, 10]) (c := c) (r := r) (by
      simp only [List.isPrefixOf, Bool.and_eq_false_iff, beq_eq_false_iff_ne]
      exact .inl (fun e => h (by rw [e]; exact List.mem_cons_self ..)))
    rw [ih (fun h2 => h (List.mem_cons_of_mem _ h2))] at e1
    cases e1
    exact e2
theorem pieces_join : ∀ (rs : List (List Nat)), rs ≠ [] → (∀ p ∈ rs, 13 ∉ p) → pieces [13, 10] (joinL [13, 10] rs) = rs
  | [], h, _ => absurd rfl h
  | [p], _, h => pieces_last p (h p (List.mem_cons_self ..))
  | p :: q :: r, _, h => by
    show pieces [13, 10] (p ++ [13, 10] ++ joinL [13, 10] (q :: r)) = _
    rw [List.append_assoc]
    show pieces [13, 10] (p ++ 13 :: 10 :: joinL [13, 10] (q :: r)) = _
    rw [pieces_row p _ (h p (List.mem_cons_self ..)), pieces_join (q :: r) (by simp) (fun x hx => h x (List.mem_cons_of_mem _ hx))]

theorem stuff_inj {p q : List Nat} (h : stuff p = stuff q) : p = q := by
  unfold stuff at h
  split at h <;> split at h
  · exact (List.cons.inj h).2
  · rename_i h1 h2
    subst h
    simp at h2
  · rename_i h1 h2
    subst h
    simp at h1
  · exact h
theorem stuff_free {p : List Nat} (h : 13 ∉ p) : 13 ∉ stuff p := by
  unfold stuff
  split
  · simpa using h
  · exact h
theorem stuffed_free (l : List Nat) : ∀ p ∈ stuffed l, 13 ∉ p := by
  intro p hp
  obtain ⟨q, hq, rfl⟩ := List.mem_map.mp hp
  exact stuff_free (rowsL_free _ l (Nat.le_refl _) q hq).2
theorem stuffed_ne (l : List Nat) : stuffed l ≠ [] := by
  obtain ⟨p, q, e⟩ := rowsL_ne l
  unfold stuffed; rw [e]; simp
theorem quote_split (l : List Nat) : pieces [13, 10] (quote l) = stuffed l := by
  rw [quote_eq]; exact pieces_join _ (stuffed_ne l) (stuffed_free l)
theorem stuffed_inj {a b : List Nat} (h : stuffed a = stuffed b) : rowsL a = rowsL b := by
  unfold stuffed at h
  exact (List.map_inj_right (fun x y e => stuff_inj e)).mp h
theorem quote_inj {a b : List Nat} (h : quote a = quote b) : rowsL a = rowsL b := by
  apply stuffed_inj
  rw [← quote_split, ← quote_split, h]
theorem quote_congr {a b : List Nat} (h : rowsL a = rowsL b) : quote a = quote b := by
  rw [quote_eq, quote_eq]; unfold stuffed; rw [h]
end Mine
end

section
open PySem PySem.Builtin PySem.Builtin.Str
set_option Elab.async false
namespace Mine

theorem getD_drop (text : Array Nat) (d : Nat) (h : d < text.size) : text.toList.drop d = text.getD d 0 :: text.toList.drop (d + 1) := by
  rw [List.drop_eq_getElem_cons (by simpa using h)]
  congr 1
  simp [Array.getD, h]

/-- signs that are no line end go through -/
theorem nl_skip (text : Array Nat) : ∀ (k d : Nat), d + k ≤ text.size → (∀ i, d ≤ i → i < d + k → ¬ IsEnd text i) → nl (text.toList.drop d) = (text.toList.drop d).take k ++ nl (text.toList.drop (d + k)) := by
  intro k
  induction k with
  | zero => intro d _ _; simp
  | succ k ih =>
    intro d h hno
    rw [getD_drop text d (by omega), nl_other (hno d (Nat.le_refl _) (by omega)), ih (d + 1) (by omega) (fun i h1 h2 => hno i (by omega) (by omega))]
    rw [List.take_succ_cons, List.cons_append]
    congr 3
    congr 1
    omega

theorem subRel2 (text : Array Nat) {d : Nat} {out : List Nat} (h : SubRel IsEnd eol text [13, 10] d out) : out = nl (text.toList.drop d) := by
  induction h with
  | @done d hno =>
    by_cases hd : d ≤ text.size
    · rw [nl_skip text (text.size - d) d (by omega) (fun i h1 h2 => hno i h1 (by omega))]
      rw [show d + (text.size - d) = text.size by omega, List.drop_of_length_le (l := text.toList) (i := text.size) (by simp)]
      rw [List.take_of_length_le (by simp)]
      simp [nl, rowsL, joinL]
    · rw [List.drop_of_length_le (by simp; omega)]; rfl
  | @hit d j out h1 h2 h3 h4 _ ih =>
    rw [nl_skip text (j - d) d (by omega) (fun i h5 h6 => h4 i h5 (by omega)), List.append_assoc]
    congr 1
    rw [ih, show d + (j - d) = j by omega]
    show 13 :: 10 :: nl (text.toList.drop (j + eol text j)) = _
    rw [getD_drop text j h2]
    unfold eol
    by_cases hc : text.getD j 0 = 13 ∧ text.getD (j + 1) 0 = 10 ∧ j + 1 < text.size
    · rw [if_pos hc, getD_drop text (j + 1) hc.2.2, hc.1, hc.2.1, nl_crlf]
    · rw [if_neg hc, nl_end h3]
      rintro ⟨e1, e2⟩
      rw [List.head?_drop] at e2
      have hlt : j + 1 < text.size := by
        by_cases hh : j + 1 < text.size
        · exact hh
        · rw [List.getElem?_eq_none (by simp; omega)] at e2; cases e2
      refine hc ⟨e1, ?_, hlt⟩
      simp [hlt] at e2
      simp [hlt, e2]

theorem dots_skip (text : Array Nat) : ∀ (k d : Nat), d + k ≤ text.size → (∀ i, d ≤ i → i < d + k → ¬ Dot text i) →
    dots (d == 0 || text.getD (d - 1) 0 == 10) (text.toList.drop d) = (text.toList.drop d).take k ++ dots (d + k == 0 || text.getD (d + k - 1) 0 == 10) (text.toList.drop (d + k)) := by
  intro k
  induction k with
  | zero => intro d _ _; simp
  | succ k ih =>
    intro d h hno
    have ih' := ih (d + 1) (by omega) (fun i h1 h2 => hno i (by omega) (by omega))
    rw [getD_drop text d (by omega), dots, if_neg (by
      intro hc
      refine hno d (Nat.le_refl _) (by omega) ⟨?_, hc.2⟩
      have := hc.1
      simpa [Array.getD] using this)]
    rw [List.take_succ_cons, List.cons_append]
    congr 1
    rw [show d + (k + 1) = d + 1 + k by omega, ← ih']
    congr 1

theorem subRel1 (text : Array Nat) {d : Nat} {out : List Nat} (h : SubRel Dot (fun _ _ => 1) text [46, 46] d out) : out = dots (d == 0 || text.getD (d - 1) 0 == 10) (text.toList.drop d) := by
  induction h with
  | @done d hno =>
    by_cases hd : d ≤ text.size
    · rw [dots_skip text (text.size - d) d (by omega) (fun i h1 h2 => hno i h1 (by omega))]
      rw [show d + (text.size - d) = text.size by omega, List.drop_of_length_le (l := text.toList) (i := text.size) (by simp)]
      rw [List.take_of_length_le (by simp)]
      simp [dots]
    · rw [List.drop_of_length_le (by simp; omega)]; rfl
  | @hit d j out h1 h2 h3 h4 _ ih =>
    rw [dots_skip text (j - d) d (by omega) (fun i h5 h6 => h4 i h5 (by omega)), List.append_assoc]
    congr 1
    rw [ih, show d + (j - d) = j by omega]
    rw [getD_drop text j h2]
    obtain ⟨h5, h6⟩ := h3
    rw [h6, dots, if_pos ⟨by rcases h5 with h5 | h5 <;> simp [h5] <;> simpa [Array.getD] using h5, rfl⟩]
    show 46 :: 46 :: dots (j + 1 == 0 || text.getD (j + 1 - 1) 0 == 10) _ = _
    rw [show j + 1 - 1 = j from rfl, h6]
    rfl
end Mine
end

section
open PySem PySem.Builtin PySem.Builtin.Str PySem.StrLaws
set_option Elab.async false
namespace Mine

/-- the places where y stands, from i on, none before free -/
def occL (s y : Str) : Nat → Nat → Nat → List Nat
  | 0, _, _ => []
  | n + 1, i, free => if (free ≤ i ∧ i + y.length ≤ s.length) ∧ subAt s y i = true then i :: occL s y n (i + 1) (i + y.length) else occL s y n (i + 1) free

theorem occ_loop (s y : Str) (limit : Nat) : ∀ (n i : Nat) (a : Array Nat) (free : Nat), a.size + n ≤ limit →
    (forIn (List.range' i n) (a, free) (occBody s y s.length limit)).run.fst.toList = a.toList ++ occL s y n i free := by
  intro n
  induction n with
  | zero => intro i a free _; simp [occL]
  | succ n ih =>
    intro i a free h
    rw [List.range'_succ, List.forIn_cons]
    unfold occBody occL
    by_cases hc : (free ≤ i ∧ i + y.length ≤ s.length) ∧ subAt s y i = true
    · rw [if_pos ⟨⟨⟨by show a.size < limit; omega, hc.1.1⟩, hc.1.2⟩, hc.2⟩, if_pos hc]
      refine (ih (i + 1) (a.push i) (i + y.length) (by rw [Array.size_push]; omega)).trans ?_
      simp
    · rw [if_neg (fun h => hc ⟨⟨h.1.1.2, h.1.2⟩, h.2⟩), if_neg hc]
      exact ih (i + 1) a free (by omega)

theorem occ_is (s y : Str) : occurrences s y 0 s.length (s.length + 1) = occL s y (s.length + 1) 0 0 := by
  rw [occ_eq]
  have := occ_loop s y (s.length + 1) (s.length + 1) 0 #[] 0 (by simp)
  simpa using this

def S (l : List Nat) : Str := ⟨l.toArray⟩

theorem subAt_iff (s y : Str) (i : Nat) (h : i + y.length ≤ s.length) : (subAt s y i = true) ↔ y.cps.toList.isPrefixOf (s.cps.toList.drop i) = true := by
  rw [subAt_eq, beq_iff_eq, List.isPrefixOf_iff_prefix, List.prefix_iff_eq_take]
  have e : y.cps.toList.length = y.length := by simp [Str.length]
  rw [e]
  exact eq_comm

theorem prefix_room (s y : Str) (i : Nat) (hi : i ≤ s.length) (h : y.cps.toList.isPrefixOf (s.cps.toList.drop i) = true) : i + y.length ≤ s.length := by
  rw [List.isPrefixOf_iff_prefix] at h
  have := h.length_le
  simp [List.length_drop] at this
  simp only [Str.length] at *
  omega

/-- a to i, put ahead of the first part -/
def ahead (p : List Nat) : List (List Nat) → List (List Nat)
  | [] => [p]
  | q :: r => (p ++ q) :: r

theorem parts_occ (s y : Str) (hy : 0 < y.length) : ∀ (n i a : Nat), i + n = s.length + 1 → a ≤ s.length →
    (i ≤ a → (partsFrom s y.length a (occL s y n i a)).map (·.cps.toList) = pieces y.cps.toList (s.cps.toList.drop a)) ∧
    (a ≤ i → (partsFrom s y.length a (occL s y n i a)).map (·.cps.toList) = ahead ((s.cps.toList.drop a).take (i - a)) (pieces y.cps.toList (s.cps.toList.drop i))) := by
  intro n
  induction n with
  | zero =>
    intro i a h ha
    refine ⟨fun h1 => by omega, fun h1 => ?_⟩
    have hn : s.cps.toList.length = s.length := by simp [Str.length]
    rw [List.drop_of_length_le (l := s.cps.toList) (i := i) (by omega), pieces_nil]
    simp only [occL, partsFrom, List.map_cons, List.map_nil, ahead, List.append_nil]
    rw [strSub_toList, List.take_of_length_le (by rw [List.length_drop]; omega), List.take_of_length_le (by rw [List.length_drop]; omega)]
  | succ n ih =>
    intro i a h ha
    have hn : s.cps.toList.length = s.length := by simp [Str.length]
    have hyl : y.cps.toList.length = y.length := by simp [Str.length]
    have key : a ≤ i → (partsFrom s y.length a (occL s y (n + 1) i a)).map (·.cps.toList) = ahead ((s.cps.toList.drop a).take (i - a)) (pieces y.cps.toList (s.cps.toList.drop i)) := by
      intro h1
      unfold occL
      by_cases hc : (a ≤ i ∧ i + y.length ≤ s.length) ∧ subAt s y i = true
      · rw [if_pos hc]
        have hp := (subAt_iff s y i hc.1.2).mp hc.2
        rw [pieces_hit (by rw [hyl]; exact hy) hp, hyl]
        show (strSub s a i).cps.toList :: (partsFrom s y.length (i + y.length) (occL s y n (i + 1) (i + y.length))).map (·.cps.toList) = _
        rw [(ih (i + 1) (i + y.length) (by omega) hc.1.2).1 (by omega), strSub_toList, List.drop_drop]
        simp [ahead]
      · rw [if_neg hc]
        by_cases hi : i = s.length
        · subst hi
          rw [(ih (s.length + 1) a (by omega) ha).2 (by omega)]
          rw [List.drop_of_length_le (l := s.cps.toList) (i := s.length) (by omega), List.drop_of_length_le (l := s.cps.toList) (i := s.length + 1) (by omega), pieces_nil]
          simp only [ahead, List.append_nil]
          rw [List.take_of_length_le (by rw [List.length_drop]; omega), List.take_of_length_le (by rw [List.length_drop]; omega)]
        · rw [(ih (i + 1) a (by omega) ha).2 (by omega)]
          have hlt : i < s.cps.toList.length := by omega
          have hno : y.cps.toList.isPrefixOf (s.cps.toList.drop i) = false := by
            cases hb : y.cps.toList.isPrefixOf (s.cps.toList.drop i) with
            | false => rfl
            | true =>
              have hr := prefix_room s y i (by omega) hb
              exact absurd ⟨⟨h1, hr⟩, (subAt_iff s y i hr).mpr hb⟩ hc
          have e : s.cps.toList.drop i = s.cps.toList[i] :: s.cps.toList.drop (i + 1) := List.drop_eq_getElem_cons hlt
          rw [e] at hno
          obtain ⟨p, q, e1, e2⟩ := pieces_miss hno
          rw [e, e1, e2]
          simp only [ahead]
          congr 1
          rw [show i + 1 - a = (i - a) + 1 by omega, List.take_add_one, List.getElem?_drop]
          rw [show a + (i - a) = i by omega, List.getElem?_eq_getElem hlt]
          simp
    refine ⟨fun h1 => ?_, key⟩
    rcases Nat.lt_or_eq_of_le h1 with h2 | h2
    · unfold occL
      rw [if_neg (by omega)]
      exact (ih (i + 1) a (by omega) ha).1 (by omega)
    · subst h2
      rw [key (Nat.le_refl _)]
      obtain ⟨p, q, e⟩ := piecesF_ne y.cps.toList ((s.cps.toList.drop i).length + 1) (s.cps.toList.drop i)
      have e' : pieces y.cps.toList (s.cps.toList.drop i) = p :: q := e
      rw [e']; simp [ahead]

theorem parts_eq (s y : Str) (hy : 0 < y.length) : partsBetween s (occurrences s y 0 s.length (s.length + 1)) y.length = (pieces y.cps.toList s.cps.toList).map S := by
  rw [partsBetween_eq, occ_is]
  have h := (parts_occ s y hy (s.length + 1) 0 0 (by omega) (Nat.zero_le _)).1 (Nat.le_refl _)
  rw [List.drop_zero] at h
  rw [← h, List.map_map]
  conv => lhs; rw [← List.map_id (partsFrom s y.length 0 _)]
  apply List.map_congr_left
  intro p _
  simp [S]

theorem S_eq (x : Str) : S x.cps.toList = x := by simp [S]
theorem occ_empty (s y : Str) (hy : 0 < y.length) (h : (occurrences s y 0 s.length (s.length + 1)).isEmpty = true) : (pieces y.cps.toList s.cps.toList) = [s.cps.toList] := by
  have e : occurrences s y 0 s.length (s.length + 1) = [] := List.isEmpty_iff.mp h
  have h2 := parts_eq s y hy
  rw [e, partsBetween_eq] at h2
  have h3 : [strSub s 0 s.length] = (pieces y.cps.toList s.cps.toList).map S := h2
  rw [sub_whole] at h3
  obtain ⟨p, q, e2⟩ := piecesF_ne y.cps.toList (s.cps.toList.length + 1) s.cps.toList
  have e' : pieces y.cps.toList s.cps.toList = p :: q := e2
  rw [e'] at h3 ⊢
  simp only [List.map_cons, List.cons.injEq] at h3
  obtain ⟨h4, h5⟩ := h3
  have : q = [] := by simpa using h5.symm
  subst this
  rw [h4]; simp [S]

theorem kind_one {y : Str} (h : ∀ c ∈ y.cps.toList, c < 256) (x : Str) : decide (Builtin.Str.strKind x < Builtin.Str.strKind y) = false := by
  have e : Builtin.Str.strKind y = 1 := by
    unfold Builtin.Str.strKind
    rw [if_pos]
    rw [Array.all_eq_true']
    intro c hc
    exact decide_eq_true (h c (by simpa using hc))
  rw [e]
  unfold Builtin.Str.strKind
  split
  · rfl
  · split <;> rfl

theorem split_is (x y : Str) (hy : 0 < y.length) (hk : ∀ c ∈ y.cps.toList, c < 256) : Txt.split x y = (pieces y.cps.toList x.cps.toList).map S := by
  unfold Txt.split
  rw [kind_one hk x, Bool.or_false]
  have em : (occurrences x y 0 x.length (x.length + 1)).isEmpty = true → [x] = (pieces y.cps.toList x.cps.toList).map S := by
    intro h
    rw [occ_empty x y hy h]
    simp [S_eq]
  by_cases h1 : x.length < y.length
  · rw [if_pos (decide_eq_true h1)]
    apply em
    rw [occ_is]
    have : ∀ n i f, occL x y n i f = [] := by
      intro n
      induction n with
      | zero => intro i f; rfl
      | succ n ih => intro i f; unfold occL; rw [if_neg (by omega)]; exact ih _ _
    rw [this]; rfl
  · rw [if_neg (by simpa using h1)]
    split
    · rename_i h2; exact em h2
    · exact parts_eq x y hy

theorem join_is (z : Str) : ∀ ps : List (List Nat), (Str.join z (ps.map S)).cps.toList = joinL z.cps.toList ps
  | [] => rfl
  | [p] => by simp [Str.join, S, joinL]
  | p :: q :: r => by
    have ih := join_is z (q :: r)
    show ((S p ++ z ++ Str.join z (S q :: r.map S)).cps).toList = p ++ z.cps.toList ++ joinL z.cps.toList (q :: r)
    rw [← ih, Str.cps_append, Str.cps_append]
    simp [S]

theorem replace_is (x y z : Str) (hy : 0 < y.length) : Txt.replace x y z = S (replL y.cps.toList z.cps.toList x.cps.toList) := by
  have hy2 : (y.length == 0 && z.length == 0) = false := by
    have : (y.length == 0) = false := beq_eq_false_iff_ne.mpr (by omega)
    rw [this]; rfl
  unfold Txt.replace replL
  rw [hy2, Bool.or_false]
  split
  · rename_i h
    rw [occ_empty x y hy h]
    simp [joinL, S_eq]
  · rw [glued_eq_join, parts_eq x y hy]
    rw [← join_is z]
    simp [S]

theorem txt_join_is (z : Str) (ps : List (List Nat)) : Txt.join z (ps.map S) = S (joinL z.cps.toList ps) := by
  show glued z (ps.map S) = _
  rw [glued_eq_join, ← join_is z]
  simp [S]
end Mine
end

section
open PySem PySem.W PyProof.Rows PySem.Calls
set_option Elab.async false
set_option maxRecDepth 100000
namespace Mine
noncomputable abbrev KF (w : World) : Frag := hd.heap_39 w.params
abbrev prog : Program := PySem.Challenge.rw_nb0028_01.row.prog

theorem enter {w : World} {A : Around} {s : Shared} {p : Program} {loose : List Str} {mean : ExcName → Option Value} {mg mb : Str → Option Value}
    {K : Frag} {R : Result → Shared → Prop} {name qual : Str} {params : Arguments} {body : List Stmt} {scope : Scope} {dV kV doc pm cdv ct oc : Value} {an od : Option Addr} {osl : Array (Option Value)} {f : Addr} {args : Args} {binds : List (Str × Value)}
    (X : K.In s.heap) (T : Top p loose mean mg mb s.heap)
    (ho : K.lookup f = some ⟨oc, od, .func (fnOf name qual params body scope dV kV doc pm an cdv ct), osl⟩) (hcd : codeIn K cdv qual = true) (hroom : A.depth < recursionLimit)
    (hbind : BindsTo s (fnOf name qual params body scope dV kV doc pm an cdv ct) args binds) (hloc : ∀ y ∈ binds, scope.names.lookup y.1 = some .local)
    (h : ∀ L h₁, Fr s.heap L h₁ (fun y => binds.reverse.lookup y) → News s.heap L h₁ [] →
      wpAny (model prog w) (A.deeper (envOf qual scope L f cdv)) (execs body (envOf qual scope L f cdv))
        (fun fl s' => R (.ok (.ret (match fl with | .ret v => v | _ => .none))) s')
        (fun e s' => wpAny (model prog w) (A.deeper (envOf qual scope L f cdv)) (leaving (envOf qual scope L f cdv) e) (fun _ s'' => R (.error e) s'') (fun e' s'' => R (.error e') s'') s')
        { s with heap := h₁, toks := s.toks + binds.length })
    (hco : scope.isCoroutine = false) (hgen : scope.isGenerator = false) (hk : scope.kind = .function)
    (hcell : ∀ x ∈ scope.names, x.2 ≠ .cell) : codeAny (model prog w) A (.call (.ref f) args) R s := by
  refine codeAny_call_def (fd := fnX name qual params body scope [] dV kV doc pm an cdv ct) (body := body) (binds := binds) hroom (X _ _ ho) rfl T.nolimit (codeRec_of X hcd) rfl hbind hcell hloc (fun h₁ hns hk₁ => ?_) hco hgen hk
  exact h _ h₁ ⟨hns, hk₁, Nat.le_refl _⟩ News.nil


/-- a place in the run from which the text's own defs may be called: n frames of room -/
structure Site (w : World) (n : Nat) (A : Around) (h : Heap) : Prop where
  at_ : ∃ base outer mean mg mb, Below A base outer h ∧ (hd.heap_39 w.params).In h ∧
    Top hd.view_39 (looseW hd.view_39 [Str.ofString "_deduplicate", Str.ofString "_twin_re_1", Str.ofString "_twin_re_2"]) mean mg mb h
  quiet : A.handled = none
  depth : A.depth + n < recursionLimit
  units : A.units + 100 + 4 * n < cLine

def Ext (h h' : Heap) : Prop := ∀ b o, h.get? b = some o → h'.get? b = some o
theorem Ext.refl (h : Heap) : Ext h h := fun _ _ e => e
theorem Ext.trans {a b c : Heap} (h1 : Ext a b) (h2 : Ext b c) : Ext a c := fun x o e => h2 x o (h1 x o e)

theorem Site.ext {w : World} {n : Nat} {A : Around} {h h' : Heap} (S : Site w n A h) (hk : Ext h h') : Site w n A h' := by
  obtain ⟨⟨base, outer, mean, mg, mb, B, X, T⟩, h1, h2, h3⟩ := S
  exact ⟨⟨base, outer, mean, mg, mb, ⟨B.stack, fun b o e => hk b o (B.stays b o e), B.frames.of_keeps fun b o e _ => ⟨o, hk b o e, rfl⟩⟩, X.keeps hk, T.keeps hk⟩, h1, h2, h3⟩

theorem Site.less {w : World} {n k : Nat} {A : Around} {h : Heap} (S : Site w n A h) (hk : k ≤ n) : Site w k A h :=
  ⟨S.at_, S.quiet, by have := S.depth; omega, by have := S.units; omega⟩

/-- inside a def's frame -/
theorem Site.inside {w : World} {n : Nat} {A : Around} {h₀ h : Heap} {base : Heap} {outer : List Env} {mean : ExcName → Option Value} {mg mb m : Str → Option Value} {L f : Addr} {qual : Str} {scope : Scope} {cdv : Value}
    (B : Below A base outer h₀) (X : (hd.heap_39 w.params).In h₀) (T : Top hd.view_39 (looseW hd.view_39 [Str.ofString "_deduplicate", Str.ofString "_twin_re_1", Str.ofString "_twin_re_2"]) mean mg mb h₀)
    (hq : A.handled = none) (hd : A.depth + (n + 1) < recursionLimit) (hu : A.units + 100 + 4 * (n + 1) < cLine) (F : Fr h₀ L h m) (hk : scope.kind = .function := by rfl) :
    Site w n (A.deeper (envOf qual scope L f cdv)) h :=
  ⟨⟨base, _, mean, mg, mb, B.push F hk, X.keeps F.keep, T.keeps F.keep⟩, hq, by show A.depth + 1 + n < _; omega, by show A.units + 3 + 100 + 4 * n < _; omega⟩

end Mine
end

section
open PySem PySem.W PyProof.Rows PySem.Calls PySem.Builtin
set_option Elab.async false
set_option maxRecDepth 100000
set_option maxHeartbeats 8000000
set_option pp.deepTerms false
set_option pp.maxSteps 30000
namespace Mine

def rowsS (x : Str) : List Str := (rowsL x.cps.toList).map S
def stuffS (p : Str) : Str := S (stuff p.cps.toList)
def quoteS (x : Str) : Str := S (quote x.cps.toList)

theorem nl_length : ∀ (n : Nat) (l : List Nat), l.length ≤ n → (nl l).length ≤ 2 * l.length := by
  intro n
  induction n with
  | zero => intro l h; obtain rfl : l = [] := List.length_eq_zero_iff.mp (by omega); simp [nl, rowsL, joinL]
  | succ n ih =>
    intro l h
    rcases ways l with rfl | ⟨r, rfl⟩ | ⟨c, r, rfl, hc, hn⟩ | ⟨c, r, rfl, hc⟩
    · simp [nl, rowsL, joinL]
    · simp only [List.length_cons] at h; have := ih r (by omega); rw [nl_crlf]; simp only [List.length_cons]; omega
    · simp only [List.length_cons] at h; have := ih r (by omega); rw [nl_end hc hn]; simp only [List.length_cons]; omega
    · simp only [List.length_cons] at h; have := ih r (by omega); rw [nl_other hc]; simp only [List.length_cons]; omega
theorem dots_length : ∀ (l : List Nat) (b : Bool), (dots b l).length ≤ 2 * l.length
  | [], _ => by simp [dots]
  | c :: r, b => by
    have h1 := dots_length r false
    have h2 := dots_length r (c == 10)
    unfold dots
    split <;> simp only [List.length_cons] <;> omega
theorem quote_length (l : List Nat) : (quote l).length ≤ 4 * l.length := by
  have h1 := nl_length _ l (Nat.le_refl _)
  have h2 := dots_length (nl l) true
  unfold quote; omega
theorem quoteS_length (x : Str) : (quoteS x).length ≤ 4 * x.length := by
  have := quote_length x.cps.toList
  simpa [quoteS, S, Str.length] using this

theorem eol_pos (text : Array Nat) (j : Nat) (h : j < text.size) : 1 ≤ eol text j ∧ j + eol text j ≤ text.size := by
  by_cases hc : text.getD j 0 = 13 ∧ text.getD (j + 1) 0 = 10 ∧ j + 1 < text.size
  · have e : eol text j = 2 := if_pos hc
    rw [e]; omega
  · have e : eol text j = 1 := if_neg hc
    rw [e]; omega

section
variable {prog : Program} {w : World} {A : Around} {E : Value → Shared → Prop} {s : Shared} {K : Frag} {L : Addr} {h₀ : Heap} {m : Str → Option Value} {news : List (Addr × Obj)}

theorem gm_sub {pa : Addr} {vs : Array Value} {pl : Sem Bool} {Q : Value × List Value → Shared → Prop} (F : Fr h₀ L s.heap m) (X : K.In h₀) (ho : K.lookup pa = some { cls := .type "re.Pattern", data := .fields vs })
    (h : Q (.builtin "re.Pattern.sub", [.ref pa]) s) : wpAny (model prog w) A (getMethod (.ref pa) (Str.ofString "sub") pl) Q E s := by
  have e := F.keep _ _ (X _ _ ho)
  exact getMethod_builtin (T := "re.Pattern") ⟨_, e, rfl⟩ plain_re slot_sub type_sub (fun a ha => by cases ha; exact ⟨_, e, rfl⟩) h

theorem sub2_K {x r : Str} {t u : Tok} {pa ca : Addr} {p0 p1 p3 p4 : Value} {vs : Array Value} {Q : Value → Shared → Prop} (F : Fr h₀ L s.heap m) (X : K.In h₀) (N : News h₀ L s.heap news)
    (ho : K.lookup pa = some { cls := .type "re.Pattern", data := .fields #[p0, p1, .int 0 0, p3, p4, .ref ca, .int 0 0] }) (hc : K.lookup ca = some { cls := .type "tuple", data := .seq vs })
    (hv : (vs.map Builtin.Re.reRawOf).map (·.toNat) = code2) (hr : r = S [13, 10]) (hx : x.length ≤ 2 ^ 20)
    (h : ∀ h' tk t', Fr h₀ L h' m → News h₀ L h' news → Q (.str (S (nl x.cps.toList)) t') { s with heap := h', toks := tk }) :
    wpAny (model prog w) A (call (.builtin "re.Pattern.sub") [.ref pa, .str r u, .str x t]) Q E s := by
  subst hr
  refine call_sub finds2 hx rfl (by decide +kernel) (fun j h1 _ => eol_pos _ j h1) ⟨⟨_, p0, p1, p3, p4, F.keep _ _ (X _ _ ho), rfl, rfl⟩, _, vs, _, F.keep _ _ (X _ _ hc), rfl, hv⟩ fun out h' tk t' hS hk => ?_
  have e : out = nl x.cps.toList := subRel2 x.cps hS
  subst e
  exact h h' tk t' (F.keeps hk) (N.grown hk)

theorem sub1_K {x r : Str} {t u : Tok} {pa ca : Addr} {p0 p1 p3 p4 : Value} {vs : Array Value} {Q : Value → Shared → Prop} (F : Fr h₀ L s.heap m) (X : K.In h₀) (N : News h₀ L s.heap news)
    (ho : K.lookup pa = some { cls := .type "re.Pattern", data := .fields #[p0, p1, .int 0 0, p3, p4, .ref ca, .int 0 0] }) (hc : K.lookup ca = some { cls := .type "tuple", data := .seq vs })
    (hv : (vs.map Builtin.Re.reRawOf).map (·.toNat) = code1) (hr : r = S [46, 46]) (hx : x.length ≤ 2 ^ 20)
    (h : ∀ h' tk t', Fr h₀ L h' m → News h₀ L h' news → Q (.str (S (dots true x.cps.toList)) t') { s with heap := h', toks := tk }) :
    wpAny (model prog w) A (call (.builtin "re.Pattern.sub") [.ref pa, .str r u, .str x t]) Q E s := by
  subst hr
  refine call_sub finds1 hx rfl (by decide +kernel) (fun j h1 _ => ⟨Nat.le_refl _, h1⟩) ⟨⟨_, p0, p1, p3, p4, F.keep _ _ (X _ _ ho), rfl, rfl⟩, _, vs, _, F.keep _ _ (X _ _ hc), rfl, hv⟩ fun out h' tk t' hS hk => ?_
  have e : out = dots true x.cps.toList := subRel1 x.cps hS
  subst e
  exact h h' tk t' (F.keeps hk) (N.grown hk)
end

local macro_rules | `(tactic| walk_at "getMethod ref") => `(tactic| (k_here; (with_reducible show wpAny _ _ (getMethod (Value.ref _) (Str.ofString "sub") _) _ _ _); (refine' gm_sub ?k1 ?k2 ?k3 ?_; (case k1 => k_asm); (case k2 => k_asm); (case k3 => k_is))))
local macro_rules | `(tactic| walk_at "call builtin:re.Pattern.sub") => `(tactic| (k_here; first
  | ((refine' sub2_K ?k1 ?k2 ?k3 ?k4 ?k5 ?k6 ?k7 ?k8 ?_; (case k1 => k_asm); (case k2 => k_asm); (case k3 => k_asm); (case k4 => k_is); (case k5 => k_is); (case k6 => decide +kernel); (case k7 => decide +kernel); (case k8 => assumption)); intro h' tk' t' F' N'; (try dsimp only))
  | ((refine' sub1_K ?k1 ?k2 ?k3 ?k4 ?k5 ?k6 ?k7 ?k8 ?_; (case k1 => k_asm); (case k2 => k_asm); (case k3 => k_asm); (case k4 => k_is); (case k5 => k_is); (case k6 => decide +kernel); (case k7 => decide +kernel); (case k8 => assumption)); intro h' tk' t' F' N'; (try dsimp only))))

theorem quote_c {w : World} {dp un : Nat} {gd : Option (List Code)} {base : Heap} {outer : List Env} {s : Shared} {mean : ExcName → Option Value} {mg mb : Str → Option Value}
    (B : Below ⟨none, dp, some outer, gd, un⟩ base outer s.heap) (X : (hd.heap_39 w.params).In s.heap) (T : Top hd.view_39 (looseW hd.view_39 [Str.ofString "_deduplicate", Str.ofString "_twin_re_1", Str.ofString "_twin_re_2"]) mean mg mb s.heap)
    (hdp : dp + 2 < recursionLimit) (hun : un + 100 < cLine) (x : Str) (t : Tok) (hx : x.length ≤ 2 ^ 12) {R : Result → Shared → Prop}
    (ret : ∀ h' tk t', (∀ b o, s.heap.get? b = some o → h'.get? b = some o) → R (.ok (.ret (.str (quoteS x) t'))) { s with heap := h', toks := tk }) :
    codeAny (model PySem.Challenge.rw_nb0028_01.row.prog w) ⟨none, dp, some outer, gd, un⟩ (.call (.ref 70) ⟨[.str x t], []⟩) R s := by
  revert X; k_fill; intro X
  have hx20 : x.length ≤ 2 ^ 20 := by omega
  have hq20 : (S (nl x.cps.toList)).length ≤ 2 ^ 20 := by
    have := nl_length _ x.cps.toList (Nat.le_refl _)
    simp [S, Str.length] at *; omega
  refine' enter (A := ⟨none, dp, some outer, gd, un⟩) X T ?k6 ?k7 ?k8 ?k9 ?kB ?_ ?c2 ?c3 ?c4 ?c5
  case k6 => k_is
  case k7 => k_is
  case k8 => show dp < recursionLimit; omega
  case k9 => exact BindsTo.of_eq rfl
  case kB => exact locs rfl
  case c2 => exact rfl
  case c3 => exact rfl
  case c4 => exact rfl
  case c5 => decide
  intro L h₁ F N
  try dsimp only
  (try k_fold)
  k_steps
  rename_i F9 N9
  exact ret _ _ _ F9.keep
end Mine
end

section
open PySem PySem.W PyProof.Rows PySem.Calls PySem.Builtin
set_option Elab.async false
set_option maxRecDepth 100000
set_option maxHeartbeats 8000000
set_option pp.deepTerms false
set_option pp.maxSteps 30000
namespace Mine

theorem quote_at {w : World} {A : Around} {s : Shared} (C : Site w 3 A s.heap) {x : Str} {t : Tok} (hx : x.length ≤ 2 ^ 12) {Q E : Value → Shared → Prop}
    (ret : ∀ h' tk t', Ext s.heap h' → Q (.str (quoteS x) t') { s with heap := h', toks := tk }) :
    wpAny (model PySem.Challenge.rw_nb0028_01.row.prog w) A (call (.ref 70) [.str x t]) Q E s := by
  obtain ⟨⟨base, outer, mean, mg, mb, B, X, T⟩, hq, hdp, hun⟩ := C
  obtain ⟨hh, dp, fr, gd, un⟩ := A
  obtain rfl : hh = none := hq
  obtain rfl : fr = some outer := B.stack
  refine wpAny_call (quote_c B X T ?_ ?_ x t hx fun h' tk t' hk => ret h' tk t' hk)
  · show dp + 2 < _; have h1 : dp + 3 < recursionLimit := hdp; omega
  · show un + 100 < _; have h1 : un + 100 + 4 * 3 < cLine := hun; omega

theorem pieces_count (y : List Nat) : ∀ (n : Nat) (l : List Nat), l.length ≤ n → 0 < y.length → (pieces y l).length ≤ l.length + 1 := by
  intro n
  induction n with
  | zero => intro l h _; obtain rfl : l = [] := List.length_eq_zero_iff.mp (by omega); simp [pieces_nil]
  | succ n ih =>
    intro l h hy
    cases l with
    | nil => simp [pieces_nil]
    | cons c r =>
      cases hb : y.isPrefixOf (c :: r) with
      | true =>
        rw [pieces_hit hy hb, List.length_cons]
        have hd : ((c :: r).drop y.length).length ≤ r.length := by rw [List.length_drop, List.length_cons]; omega
        have := ih ((c :: r).drop y.length) (by simp only [List.length_cons] at h; omega) hy
        simp only [List.length_cons]; omega
      | false =>
        obtain ⟨p, q, e1, e2⟩ := pieces_miss hb
        have := ih r (by simp only [List.length_cons] at h; omega) hy
        rw [e1] at this
        rw [e2]; simp only [List.length_cons] at this ⊢; omega


section
variable {prog : Program} {w : World} {A : Around} {E : Value → Shared → Prop} {s : Shared} {x y z : Str} {t u v : Tok} {Q : Value → Shared → Prop}

theorem split_call (hy : 0 < y.length) (hk : ∀ c ∈ y.cps.toList, c < 256) (hx : x.length ≤ 2 ^ 20)
    (h : ∀ vs tk, StrsAre vs ((pieces y.cps.toList x.cps.toList).map S) → Q (.ref s.heap.objs.size) { s with heap := s.heap.push { cls := .type "list", data := .seq vs.toArray }, toks := tk }) :
    wpAny (model prog w) A (call (.builtin "str.split") [.str x t, .str y u]) Q E s := by
  rw [← split_is x y hy hk] at h
  have hy0 : (y.length == 0) = false := beq_eq_false_iff_ne.mpr (by omega)
  cases h1 : (decide (x.length < y.length) || decide (Builtin.Str.strKind x < Builtin.Str.strKind y))
  · cases hf : (Builtin.Str.occurrences x y 0 x.length (x.length + 1)).isEmpty
    · refine call_meets F.slot_str_split (typeIs_str _ _ _) F.entry_str_split (F.args_str_split_2 _ _) (meets_str_split_sep x y t u h1 hy0 hf (by unfold sizeLine; omega) ?_) ?_
      · rw [parts_eq x y hy, List.length_map]
        have := pieces_count y.cps.toList _ x.cps.toList (Nat.le_refl _) (by simpa [Str.length] using hy)
        have e : x.cps.toList.length = x.length := by simp [Str.length]
        unfold sizeLine; omega
      · show wants Q E _ { s with toks := _, heap := s.heap.push { cls := .type "list", data := .seq (strsFrom s.toks (Builtin.Str.partsBetween x (Builtin.Str.occurrences x y 0 x.length (x.length + 1)) y.length)).toArray } }
        rw [strsFrom_eq]
        refine h _ _ ?_
        have e : Txt.split x y = (numbered s.toks (Builtin.Str.partsBetween x (Builtin.Str.occurrences x y 0 x.length (x.length + 1)) y.length)).map (·.1) :=
          ((numbered_texts _ _).trans ((if_neg (ne_true_of_eq_false h1)).trans (if_neg (ne_true_of_eq_false hf))).symm).symm
        rw [e]
        exact PyProof.Rows.strsAre_of_values _
    · refine call_meets F.slot_str_split (typeIs_str _ _ _) F.entry_str_split (F.args_str_split_2 _ _) (meets_str_split_not_found x y t u h1 hy0 hf) (h [.str x t] s.toks ?_)
      have e : Txt.split x y = [x] := ((if_neg (ne_true_of_eq_false h1)).trans (if_pos hf))
      rw [e]; exact .cons x t .nil
  · refine call_meets F.slot_str_split (typeIs_str _ _ _) F.entry_str_split (F.args_str_split_2 _ _) (meets_str_split_cannot_occur x y t u h1) (h [.str x t] s.toks ?_)
    have e : Txt.split x y = [x] := (if_pos h1)
    rw [e]; exact .cons x t .nil

theorem replace_call (hn : 1 ≤ s.toks) (hu : 1 ≤ u) (hv : 1 ≤ v) (huv : u ≠ v) (hyz : (y == z) = false) (hy : 0 < y.length) (hx : x.length ≤ 1048576) (hz : z.length ≤ 14)
    (hq : ∀ t' k, 1 ≤ k → Q (.str (S (replL y.cps.toList z.cps.toList x.cps.toList)) t') { s with toks := k }) : wpAny (model prog w) A (call (.builtin "str.replace") [.str x t, .str y u, .str z v]) Q E s := by
  refine wpAny_with_toks hn (SC.replaceW (Nat.ne_of_gt hu) (Nat.ne_of_gt hv) huv hyz hx hz fun t' k hk => ?_)
  rw [replace_is x y z hy]
  exact hq t' k hk
end

theorem replL_length (y z : List Nat) (hy : 0 < y.length) (hz : z.length = 1) : ∀ (n : Nat) (l : List Nat), l.length ≤ n → (replL y z l).length ≤ l.length := by
  intro n
  induction n with
  | zero => intro l h; obtain rfl : l = [] := List.length_eq_zero_iff.mp (by omega); simp [replL_nil]
  | succ n ih =>
    intro l h
    cases l with
    | nil => simp [replL_nil]
    | cons c r =>
      cases hb : y.isPrefixOf (c :: r) with
      | true =>
        rw [replL_hit hy hb, List.length_append, hz]
        have hd : ((c :: r).drop y.length).length ≤ r.length := by rw [List.length_drop, List.length_cons]; omega
        have := ih ((c :: r).drop y.length) (by simp only [List.length_cons] at h; omega)
        simp only [List.length_cons]; omega
      | false =>
        have := ih r (by simp only [List.length_cons] at h; omega)
        rw [replL_miss hb]; simp only [List.length_cons]; omega

section
variable {prog : Program} {w : World} {A : Around} {E : Value → Shared → Prop} {s : Shared} {K : Frag} {L : Addr} {h₀ : Heap} {m : Str → Option Value} {news : List (Addr × Obj)} {x y z : Str} {t u v : Tok} {Q : Value → Shared → Prop}

theorem split_K (F : Fr h₀ L s.heap m) (N : News h₀ L s.heap news) (hy : 0 < y.length) (hk : ∀ c ∈ y.cps.toList, c < 256) (hx : x.length ≤ 2 ^ 20)
    (h : ∀ D vs h' tk, StrsAre vs ((pieces y.cps.toList x.cps.toList).map S) → Fr h₀ L h' m → News h₀ L h' ((D, ({ cls := .type "list", data := .seq vs.toArray } : Obj)) :: news) → (∀ p ∈ news, p.1 < D) → Q (.ref D) { s with heap := h', toks := tk }) :
    wpAny (model prog w) A (call (.builtin "str.split") [.str x t, .str y u]) Q E s :=
  split_call hy hk hx fun vs tk hv => h _ vs _ tk hv (F.push _) (N.push F _) fun p hp => Heap.lt_size (N p hp).1
end

local macro_rules | `(tactic| walk_at "call builtin:str.replace") => `(tactic| (k_here; (refine' replace_call ?k1 ?k2 ?k3 ?k4 ?k5 ?k6 ?k7 ?k8 ?_; (case k1 => (show (1 : Nat) ≤ _; dsimp only; omega)); (case k2 => (show (1 : Nat) ≤ _; omega)); (case k3 => (show (1 : Nat) ≤ _; omega)); (case k4 => (refine neN ?_; omega)); (case k5 => decide +kernel); (case k6 => decide +kernel); (case k7 => assumption); (case k8 => decide +kernel)); intro t' tk' htk'; (try dsimp only)))
local macro_rules | `(tactic| walk_at "call builtin:str.split") => `(tactic| (k_here; (refine' split_K ?k1 ?k2 ?k3 ?k4 ?k5 ?_; (case k1 => k_asm); (case k2 => k_asm); (case k3 => decide +kernel); (case k4 => decide +kernel); (case k5 => assumption)); intro D' vs' h' tk' hv' F' N' hl'; (try dsimp only)))

theorem rows_at {w : World} {A : Around} {s : Shared} (C : Site w 3 A s.heap) {x : Str} {t : Tok} (hx : x.length ≤ 2 ^ 12) {Q E : Value → Shared → Prop}
    (ret : ∀ D vs h' tk, s.heap.get? D = none → h'.PlainList D vs.toArray → StrsAre vs (rowsS x) → Ext s.heap h' → Q (.ref D) { s with heap := h', toks := tk }) :
    wpAny (model PySem.Challenge.rw_nb0028_01.row.prog w) A (call (.ref 82) [.str x t]) Q E s := by
  obtain ⟨⟨base, outer, mean, mg, mb, B, X, T⟩, hq, hdp, hun⟩ := C
  obtain ⟨hh, dp, fr, gd, un⟩ := A
  obtain rfl : hh = none := hq
  obtain rfl : fr = some outer := B.stack
  revert X; k_fill; intro X
  have h1 : x.length ≤ 1048576 := by omega
  have hl : x.cps.toList.length = x.length := by simp [Str.length]
  have r1 := replL_length [13, 10] [10] (by decide) rfl _ x.cps.toList (Nat.le_refl _)
  have h2 : (S (replL (Str.ofString "\x0d\n").cps.toList (Str.ofString "\n").cps.toList x.cps.toList)).length ≤ 1048576 := by
    have e : (S (replL (Str.ofString "\x0d\n").cps.toList (Str.ofString "\n").cps.toList x.cps.toList)).length = (replL [13, 10] [10] x.cps.toList).length := by
      show (replL (Str.ofString "\x0d\n").cps.toList (Str.ofString "\n").cps.toList x.cps.toList).toArray.size = _
      rw [List.size_toArray]; rfl
    rw [e]; omega
  have r2 := replL_length [13] [10] (by decide) rfl _ (replL [13, 10] [10] x.cps.toList) (Nat.le_refl _)
  have h3 : (S (replL (Str.ofString "\x0d").cps.toList (Str.ofString "\n").cps.toList (S (replL (Str.ofString "\x0d\n").cps.toList (Str.ofString "\n").cps.toList x.cps.toList)).cps.toList)).length ≤ 2 ^ 20 := by
    have e : (S (replL (Str.ofString "\x0d").cps.toList (Str.ofString "\n").cps.toList (S (replL (Str.ofString "\x0d\n").cps.toList (Str.ofString "\n").cps.toList x.cps.toList)).cps.toList)).length = (replL [13] [10] (replL [13, 10] [10] x.cps.toList)).length := by
      show (replL (Str.ofString "\x0d").cps.toList (Str.ofString "\n").cps.toList (S (replL (Str.ofString "\x0d\n").cps.toList (Str.ofString "\n").cps.toList x.cps.toList)).cps.toList).toArray.size = _
      rw [List.size_toArray]; rfl
    rw [e]; omega
  refine wpAny_call ?_
  refine' enter (A := ⟨none, dp, some outer, gd, un⟩) X T ?k6 ?k7 ?k8 ?k9 ?kB ?_ ?c2 ?c3 ?c4 ?c5
  case k6 => k_is
  case k7 => k_is
  case k8 => show dp < recursionLimit; have h1 : dp + 3 < recursionLimit := hdp; omega
  case k9 => exact BindsTo.of_eq rfl
  case kB => exact locs rfl
  case c2 => exact rfl
  case c3 => exact rfl
  case c4 => exact rfl
  case c5 => decide
  intro L h₁ F N
  try dsimp only
  generalize hgt : s.toks + _ = tk0
  have htk : 1 ≤ tk0 := by rw [← hgt]; exact Nat.le_add_left 1 _
  (try k_fold)
  k_steps
  rename_i D9 vs9 h9 tk9 hv9 F9 N9 hl9
  have e : List.map S (pieces [10] (replL [13] [10] (replL [13, 10] [10] x.cps.toList))) = rowsS x := by
    rw [rows_by_ops _ _ (Nat.le_refl _)]; rfl
  have hv : StrsAre vs9 (List.map S (pieces [10] (replL [13] [10] (replL [13, 10] [10] x.cps.toList)))) := hv9
  rw [e] at hv
  exact ret D9 vs9 h9 tk9 (N9.fresh (.head _)) ⟨0, N9.get (.head _)⟩ hv F9.keep
end Mine
end

section
open PySem PySem.W PyProof.Rows PySem.Calls PySem.Builtin
set_option Elab.async false
set_option maxRecDepth 100000
set_option maxHeartbeats 8000000
namespace Mine

section
variable {prog : Program} {w : World} {A : Around} {E : Value → Shared → Prop} {env : Env}

theorem assign_compO {s : Shared} {elt iter : Expr} {x y : Str} {px py : Pos} {ifs : List Expr} {scope : Scope} {cl : List (Str × Addr)} {pos spos : Pos} {Q : Flow → Shared → Prop}
    (p : Value → Bool) (G : Value → Array Value → Prop)
    (hsw : swapsWith (.ListComp elt [⟨.Name x px, iter, ifs, 0⟩] scope pos) (some (.Name y py)) spos.line env = pure true)
    (hclos : closureFor scope env = pure cl) (hcell : ∀ z ∈ scope.names, z.2 ≠ .cell) (hkind : scope.kind = .function)
    (hnames : ∀ z ∈ scope.names, z.2 = .local → scope.names.lookup z.1 = some .local) (hx : scope.names.lookup x = some .local)
    (hy : env.kindOf y = some .local) (hp : (env.scope.kind == .class || (env.scope.kind == .module && env.locals != env.globals)) = false)
    (h : wpAny (model prog w) A (eval iter env) (fun xv s₁ => wpAny (model prog w) A (pyIter xv) (fun it s₂ => ∃ I fp wr n P St m, it = .ref I ∧ Walks prog w A I fp wr n P St ∧ n ≤ sizeLine ∧ (∀ i h, St i h → ∀ b ∈ wr, ∃ o, h.get? b = some o) ∧ St 0 s₂.heap ∧ (∀ b ∈ fp, b < s₂.heap.objs.size) ∧
      env.locals ∉ wr ∧ s₂.heap.Ns env.locals m ∧ QuietOnCO prog w A env scope cl x ifs elt wr P p G s₂ ∧
      (∀ D h' tk ys (vs : List Value), s₂.heap.get? D = none → h'.IsList D ys → h'.PlainList D ys → vs.length = n → (∀ j v, vs[j]? = some v → P j v) → Paired (LstIs s₂.heap G h') (vs.filter p) ys.toList → (∀ y ∈ ys.toList, y ≠ .ref D) →
        h'.Ns env.locals (fun z => if z = y then some (.ref D) else m z) → (∀ b o, b ≠ env.locals → b ∉ wr → s₂.heap.get? b = some o → h'.get? b = some o) → Q .next { s₂ with heap := h', toks := tk })) E s₁) E s)
    (hs : ∀ x, foldedSetIterable iter env x = pure x := by intro _; rfl) :
    wpAny (model prog w) A (exec (.Assign [.Name y py] (.ListComp elt [⟨.Name x px, iter, ifs, 0⟩] scope pos) spos) env) Q E s := by
  rw [exec_Assign_Name_used _ _ _ _ hsw]
  refine wpAny_bind (wpAny_standAt (wpAny_bind ?_))
  show wpAny _ A (do let _ ← comprehension (.ListComp elt [⟨.Name x px, iter, ifs, 0⟩] scope pos) scope env _ (newList []) false (eval iter env) (some (assign (.Name y py) env))) _ _ s
  refine wpAny_bind (wpAny_mono (wpAny_comprehension_free (use := some (assign (.Name y py) env)) (Q := fun _ s' => Q .next s') rfl hs hclos hkind hnames
    (wpAny_mono h (fun xv s₁ h₁ => wpAny_mono h₁ (fun it s₂ h₂ => ?_) fun _ _ e => e) fun _ _ e => e)) (fun _ s' hq => wpAny_pure (wpAny_pure hq)) fun _ _ e => e)
  obtain ⟨I, fp, wr, n, P, St, m, rfl, W, hsz, hlive, hst, hfp, hLf, hn, hq, hQ⟩ := h₂
  refine comp_block_walkCO (RR := fun acc C => compPost (model prog w) A E (some (assign (.Name y py) env)) (fun _ s' => Q .next s') acc C) W hsz p G hlive hcell hkind hx hst hfp hq ?_
  intro D C h' tk m' ys vs hD hC hDC hnC hlD hplD hlen hP hF hnd hk
  have hLC : env.locals ≠ C := by rintro rfl; obtain ⟨o, _, _, ho, _⟩ := hn; rw [hC] at ho; cases ho
  have hLD : env.locals ≠ D := by rintro rfl; obtain ⟨o, _, _, ho, _⟩ := hn; rw [hD] at ho; cases ho
  show wpAny _ A (assign (.Name y py) env (.ref D)) _ _ _
  refine wpAny_assign_Name (wpAny_storeName_local hy (hn.at' fun o e => hk _ o hLf e) (fun h₂ hn₂ hs₂ => ?_) hp)
  refine ⟨m', hnC.sameBut hs₂ (Ne.symm hLC), fun h₃ hs₃ => ?_⟩
  refine hQ D h₃ _ ys vs hD ((hlD.extBut hs₂.extBut (Ne.symm hLD)).extBut hs₃.extBut hDC) ((hplD.extBut hs₂.extBut (Ne.symm hLD)).extBut hs₃.extBut hDC) hlen hP ?_ ?_ (hn₂.sameBut hs₃ hLC) fun b o hbL hbf e =>
    hs₃.extBut b o (by rintro rfl; rw [hC] at e; cases e) (hs₂.extBut b o hbL (hk b o hbf e))
  · refine hF.mono fun _ _ hy => ?_
    obtain ⟨T, its, rfl, h1, hTC, _, _, hlT, hG⟩ := hy
    have hTL : T ≠ env.locals := by rintro rfl; obtain ⟨o, _, _, ho, _⟩ := hn; rw [h1] at ho; cases ho
    exact ⟨T, its, rfl, h1, (hlT.extBut hs₂.extBut hTL).extBut hs₃.extBut hTC, hG⟩
  · intro y hy e
    obtain ⟨_, T, _, e', _, _, _, hTD, _, _⟩ := Paired.right hF y hy
    rw [e] at e'; cases e'; exact hTD rfl

/-- what a comprehension over a list asks of its element -/
structure OverL (prog : Program) (w : World) (A : Around) (env : Env) (scope : Scope) (cl : List (Str × Addr)) (x : Str) (ifs : List Expr) (vs : List Value) (p : Value → Bool) (s : Shared) : Prop where
  tests : ∀ C v s₃ m₃ E', v ∈ vs → s₃.heap.Ns C m₃ → m₃ x = some v → Ext s.heap s₃.heap → s.heap.get? C = none →
    wpAny (model prog w) A (forIn ifs true fun c r => if r = true then do let ok ← isTrue c (compEnvC scope cl C env) (eval c (compEnvC scope cl C env)); pure (ForInStep.yield ok) else pure (ForInStep.yield r))
      (fun ok s₄ => ok = p v ∧ Keeps s₃ s₄) E' s₃

theorem no_tests {scope : Scope} {cl : List (Str × Addr)} {x : Str} {vs : List Value} {s : Shared} : OverL prog w A env scope cl x [] vs (fun _ => true) s :=
  ⟨fun _ _ s₃ _ _ _ _ _ _ _ => wpAny_pure ⟨rfl, s₃.heap, s₃.toks, rfl, fun _ _ e => e⟩⟩

theorem mem_of_get {vs us : List Value} (hl : us.length = vs.length) (h : ∀ (j : Nat) (v : Value), us[j]? = some v → vs.toArray[j]? = some v) : us = vs := by
  apply List.ext_getElem? 
  intro j
  by_cases hj : j < us.length
  · have := h j us[j] (List.getElem?_eq_getElem hj)
    rw [List.getElem?_eq_getElem hj]
    simpa using this.symm
  · rw [List.getElem?_eq_none (by omega), List.getElem?_eq_none (by omega)]


section
variable {s : Shared} {elt iter : Expr} {x : Str} {px : Pos} {ifs : List Expr} {scope : Scope} {cl : List (Str × Addr)} {pos : Pos} {l : Addr} {vs : List Value}

/-- elements that are values -/
theorem comp_val (p : Value → Bool) (F : Value → Value → Prop) {Q : Value → Shared → Prop}
    (hclos : closureFor scope env = pure cl) (hcell : ∀ y ∈ scope.names, y.2 ≠ .cell) (hkind : scope.kind = .function)
    (hnames : ∀ y ∈ scope.names, y.2 = .local → scope.names.lookup y.1 = some .local) (hx : scope.names.lookup x = some .local)
    (hh : A.handled = none) (hit : ∀ Q, Q (.ref l) s → wpAny (model prog w) A (eval iter env) Q E s) (hl : s.heap.IsList l vs.toArray) (hsz : vs.length ≤ 2 ^ 20)
    (ht : OverL prog w A env scope cl x ifs vs p s)
    (he : ∀ C v s₃ m₃ E', v ∈ vs → p v = true → s₃.heap.Ns C m₃ → m₃ x = some v → Ext s.heap s₃.heap → s.heap.get? C = none → wpAny (model prog w) A (eval elt (compEnvC scope cl C env)) (fun y s₄ => F v y ∧ Keeps s₃ s₄) E' s₃)
    (ret : ∀ D h' tk ys, s.heap.get? D = none → h'.PlainList D ys → Paired F (vs.filter p) ys.toList → Ext s.heap h' → Q (.ref D) { s with heap := h', toks := tk })
    (hs : ∀ x, foldedSetIterable iter env x = pure x := by intro _; rfl) :
    wpAny (model prog w) A (eval (.ListComp elt [⟨.Name x px, iter, ifs, 0⟩] scope pos) env) Q E s := by
  have hlt : l < s.heap.objs.size := by obtain ⟨o, e, _⟩ := hl; exact Heap.lt_size e
  have up : ∀ {b : Addr} {o : Obj}, s.heap.get? b = some o → b ∉ [s.heap.objs.size] := fun e hm => absurd (Heap.lt_size e) ((List.mem_singleton.mp hm) ▸ Nat.lt_irrefl _)
  refine wpAny_ListComp_free p F hclos hcell hkind hnames hx (hit _ (wpAny_pyIter_list hl ?_)) hs
  refine ⟨_, _, _, _, _, _, rfl, Walks.list hh s.heap.objs.size l (Nat.ne_of_lt hlt) vs.toArray, by simp only [List.size_toArray]; unfold sizeLine; omega,
    ⟨⟨_, Heap.get?_push_size _ rfl, rfl, rfl⟩, hl.at fun o e => Heap.get?_push_of_some _ e⟩, ?_, ⟨?_, ?_⟩, ?_⟩
  · intro b hb
    show b < (s.heap.push _).objs.size
    rw [Heap.size_push]
    rcases List.mem_cons.mp hb with rfl | hb
    · exact Nat.lt_succ_self _
    · rw [List.mem_singleton.mp hb]; exact Nat.lt_succ_of_lt hlt
  · intro C i v s₃ m₃ E' hC hP hn hm hk _
    have hC' : s.heap.objs.size + 1 ≤ C := by have : (s.heap.push _).objs.size ≤ C := hC; rwa [Heap.size_push] at this
    exact ht.tests C v s₃ m₃ E' (by have := Array.mem_of_getElem? hP; simpa using this) hn hm (fun b o e => hk b o (up e) (Heap.get?_push_of_some _ e)) (PySem.Heap.get?_none_of_le (Nat.le_of_succ_le hC'))
  · intro C i v s₃ m₃ E' hC hP hpv hn hm hk _
    have hC' : s.heap.objs.size + 1 ≤ C := by have : (s.heap.push _).objs.size ≤ C := hC; rwa [Heap.size_push] at this
    exact he C v s₃ m₃ E' (by have := Array.mem_of_getElem? hP; simpa using this) hpv hn hm (fun b o e => hk b o (up e) (Heap.get?_push_of_some _ e)) (PySem.Heap.get?_none_of_le (Nat.le_of_succ_le hC'))
  · intro D h' tk ys us hD _ hpl hlen hP hF hk
    have e : us = vs := mem_of_get (by simpa using hlen) hP
    subst e
    refine ret D h' tk ys ?_ hpl hF fun b o e => hk b o (up e) (Heap.get?_push_of_some _ e)
    cases e : s.heap.get? D with
    | none => rfl
    | some o => rw [Heap.get?_push_of_some _ e] at hD; cases hD

/-- elements that are new lists -/
theorem comp_lst (p : Value → Bool) (G : Value → Array Value → Prop) {Q : Value → Shared → Prop}
    (hclos : closureFor scope env = pure cl) (hcell : ∀ y ∈ scope.names, y.2 ≠ .cell) (hkind : scope.kind = .function)
    (hnames : ∀ y ∈ scope.names, y.2 = .local → scope.names.lookup y.1 = some .local) (hx : scope.names.lookup x = some .local)
    (hh : A.handled = none) (hit : ∀ Q, Q (.ref l) s → wpAny (model prog w) A (eval iter env) Q E s) (hl : s.heap.IsList l vs.toArray) (hsz : vs.length ≤ 2 ^ 20)
    (ht : OverL prog w A env scope cl x ifs vs p s)
    (he : ∀ C v s₃ m₃ E', v ∈ vs → p v = true → s₃.heap.Ns C m₃ → m₃ x = some v → Ext s.heap s₃.heap → s.heap.get? C = none →
      wpAny (model prog w) A (eval elt (compEnvC scope cl C env)) (fun y s₄ => (∃ T its, y = .ref T ∧ s₃.heap.get? T = none ∧ s₄.heap.IsList T its ∧ G v its) ∧ Keeps s₃ s₄) E' s₃)
    (ret : ∀ D h' tk ys, s.heap.get? D = none → h'.PlainList D ys → Paired (LstIs s.heap G h') (vs.filter p) ys.toList → (∀ y ∈ ys.toList, y ≠ .ref D) → Ext s.heap h' → Q (.ref D) { s with heap := h', toks := tk })
    (hs : ∀ x, foldedSetIterable iter env x = pure x := by intro _; rfl) :
    wpAny (model prog w) A (eval (.ListComp elt [⟨.Name x px, iter, ifs, 0⟩] scope pos) env) Q E s := by
  have hlt : l < s.heap.objs.size := by obtain ⟨o, e, _⟩ := hl; exact Heap.lt_size e
  have up : ∀ {b : Addr} {o : Obj}, s.heap.get? b = some o → b ∉ [s.heap.objs.size] := fun e hm => absurd (Heap.lt_size e) ((List.mem_singleton.mp hm) ▸ Nat.lt_irrefl _)
  have older : ∀ (ob : Obj) (T : Addr), (s.heap.push ob).get? T = none → s.heap.get? T = none := fun ob T hT => by
    cases e : s.heap.get? T with
    | none => rfl
    | some o => rw [Heap.get?_push_of_some _ e] at hT; cases hT
  refine wpAny_ListComp_freeO p G hclos hcell hkind hnames hx (hit _ (wpAny_pyIter_list hl ?_)) hs
  refine ⟨_, _, _, _, _, _, rfl, Walks.list hh s.heap.objs.size l (Nat.ne_of_lt hlt) vs.toArray, by simp only [List.size_toArray]; unfold sizeLine; omega, ?_,
    ⟨⟨_, Heap.get?_push_size _ rfl, rfl, rfl⟩, hl.at fun o e => Heap.get?_push_of_some _ e⟩, ?_, ⟨?_, ?_⟩, ?_⟩
  · rintro i h ⟨⟨o, ho, _⟩, _⟩ b hb
    rw [List.mem_singleton.mp hb]; exact ⟨o, ho⟩
  · intro b hb
    show b < (s.heap.push _).objs.size
    rw [Heap.size_push]
    rcases List.mem_cons.mp hb with rfl | hb
    · exact Nat.lt_succ_self _
    · rw [List.mem_singleton.mp hb]; exact Nat.lt_succ_of_lt hlt
  · intro C i v s₃ m₃ E' hC hP hn hm hk _
    have hC' : s.heap.objs.size + 1 ≤ C := by have : (s.heap.push _).objs.size ≤ C := hC; rwa [Heap.size_push] at this
    exact ht.tests C v s₃ m₃ E' (by have := Array.mem_of_getElem? hP; simpa using this) hn hm (fun b o e => hk b o (up e) (Heap.get?_push_of_some _ e)) (PySem.Heap.get?_none_of_le (Nat.le_of_succ_le hC'))
  · intro C i v s₃ m₃ E' hC hP hpv hn hm hk _
    have hC' : s.heap.objs.size + 1 ≤ C := by have : (s.heap.push _).objs.size ≤ C := hC; rwa [Heap.size_push] at this
    exact he C v s₃ m₃ E' (by have := Array.mem_of_getElem? hP; simpa using this) hpv hn hm (fun b o e => hk b o (up e) (Heap.get?_push_of_some _ e)) (PySem.Heap.get?_none_of_le (Nat.le_of_succ_le hC'))
  · intro D h' tk ys us hD _ hpl hlen hP hF _ hne hk
    have e : us = vs := mem_of_get (by simpa using hlen) hP
    subst e
    refine ret D h' tk ys (older _ _ hD) hpl (hF.mono fun _ _ hy => ?_) hne fun b o e => hk b o (up e) (Heap.get?_push_of_some _ e)
    obtain ⟨T, its, rfl, h1, h2, h3⟩ := hy
    exact ⟨T, its, rfl, older _ _ h1, h2, h3⟩
end
end
end Mine
end

section
open PySem PySem.W PyProof.Rows PySem.Calls PySem.Builtin
set_option Elab.async false
set_option maxRecDepth 100000
set_option maxHeartbeats 8000000
set_option pp.deepTerms false
set_option pp.maxSteps 30000
namespace Mine

theorem StrsAre.mem {vs : List Value} {ys : List Str} (h : StrsAre vs ys) {v : Value} (hv : v ∈ vs) : ∃ y t, v = .str y t ∧ y ∈ ys := by
  induction h with
  | nil => exact nomatch hv
  | cons y t _ ih =>
    rcases List.mem_cons.mp hv with rfl | hv
    · exact ⟨y, t, rfl, List.mem_cons_self ..⟩
    · obtain ⟨z, u, e, hz⟩ := ih hv; exact ⟨z, u, e, List.mem_cons_of_mem _ hz⟩

theorem slice1_is (x : Str) : Txt.slice x none (some 1) = S (x.cps.toList.take 1) := by
  by_cases h : 1 ≤ x.cps.toList.length
  · have := slice_closes_to (x := x) (j := 1) ⟨by omega, by omega⟩
    rw [beq_iff_eq] at this
    rw [this]; rfl
  · have e : x.cps.toList = [] := List.length_eq_zero_iff.mp (by omega)
    have e2 : x = ⟨#[]⟩ := by
      apply Str.ext'
      apply Array.toList_inj.mp
      rw [e]
    subst e2
    rfl

section
variable {prog : Program} {w : World} {A : Around} {E : Value → Shared → Prop} {s : Shared}
theorem slice1_any {x : Str} {t uj : Tok} {value slice : Expr} {Q : Value → Shared → Prop} (hx : x.length ≤ 8192)
    (hs : subscripted slice false (.str x t) (.ref s.heap.objs.size) = operate [.ref s.heap.objs.size, .str x t] (getItem (.str x t) (.ref s.heap.objs.size)))
    (ht : ∀ r, letTemporaryGo value (.str x t) r = pure ())
    (h : ∀ h' tk t', Ext s.heap h' → Q (.str (S (x.cps.toList.take 1)) t') { s with heap := h', toks := tk }) :
    wpAny (model prog w) A (subscriptTail value slice (.str x t) (.ref s.heap.objs.size)) Q E { s with heap := s.heap.push { cls := .type "slice", data := .fields #[.none, .int 1 uj, .none] } } := by
  refine tail_of_ItemOn (SBG.sliceItem_ns (Fm := fun s' => ∃ h' tk, s' = { s with heap := h', toks := tk } ∧ Ext s.heap h') ?_ ⟨s.heap, s.toks, rfl, Ext.refl _⟩ ?_ (by unfold sizeLine; omega)) hs ht
  · rintro s' ob k ⟨h', tk, rfl, hk⟩
    exact ⟨_, _, rfl, hk.trans fun b o e => Heap.get?_push_of_some _ e⟩
  · rintro s' t' ⟨h', tk, rfl, hk⟩
    rw [slice1_is]
    exact h h' tk t' hk
end

local macro_rules | `(tactic| walk_at "subscriptTail") => `(tactic| ((refine' slice1_any ?k1 ?k2 ?k3 ?_; (case k1 => assumption); (case k2 => with_unfolding_all rfl); (case k3 => (intro _; with_unfolding_all rfl))); intro h' tk' t' hk'; (have hns9 := Heap.Ns.keeps (by assumption) hk'); (try dsimp only at hns9 ⊢)))

theorem head_dot (p : Str) : (S (List.take 1 p.cps.toList) == Str.ofString ".") = true ↔ p.cps.toList.head? = some 46 := by
  rw [beq_iff_eq]
  have e : Str.ofString "." = S [46] := by decide +kernel
  rw [e]
  cases h : p.cps.toList with
  | nil => simp [S]
  | cons c r => simp [S]
theorem stuff_dot {p : Str} (h : (S (List.take 1 p.cps.toList) == Str.ofString ".") = true) : stuffS p = Str.ofString "." ++ p := by
  have e : Str.ofString "." = S [46] := by decide +kernel
  unfold stuffS stuff
  rw [if_pos ((head_dot p).mp h), e]
  apply Str.ext'
  rw [Str.cps_append]
  apply Array.toList_inj.mp
  simp [S]
theorem stuff_same {p : Str} (h : (S (List.take 1 p.cps.toList) == Str.ofString ".") = false) : stuffS p = p := by
  unfold stuffS stuff
  rw [if_neg (fun h2 => by rw [(head_dot p).mpr h2] at h; cases h)]
  exact S_eq p

def stuffF (v y : Value) : Prop := ∀ x t, v = .str x t → ∃ t', y = .str (stuffS x) t'

theorem paired_strs {vs : List Value} {ps : List Str} (hv : StrsAre vs ps) : ∀ {ys : List Value}, Paired stuffF vs ys → StrsAre ys (ps.map stuffS) := by
  induction hv with
  | nil => intro ys h; cases h; exact .nil
  | cons y t _ ih =>
    intro ys h
    cases h with
    | cons h1 h2 =>
      obtain ⟨t', rfl⟩ := h1 y t rfl
      exact .cons _ _ (ih h2)

theorem stuffed_at {w : World} {A : Around} {s : Shared} (C : Site w 3 A s.heap) {l : Addr} {vs : List Value} {ps : List Str} (hl : s.heap.IsList l vs.toArray) (hv : StrsAre vs ps) (hn : vs.length ≤ 2 ^ 13) (hx : ∀ p ∈ ps, p.length ≤ 2 ^ 13) {Q E : Value → Shared → Prop}
    (ret : ∀ D ws h' tk, s.heap.get? D = none → h'.PlainList D ws.toArray → StrsAre ws (ps.map stuffS) → Ext s.heap h' → Q (.ref D) { s with heap := h', toks := tk }) :
    wpAny (model PySem.Challenge.rw_nb0028_01.row.prog w) A (call (.ref 87) [.ref l]) Q E s := by
  obtain ⟨⟨base, outer, mean, mg, mb, B, X, T⟩, hq, hdp, hun⟩ := C
  obtain ⟨hh, dp, fr, gd, un⟩ := A
  obtain rfl : hh = none := hq
  obtain rfl : fr = some outer := B.stack
  revert X; k_fill; intro X
  refine wpAny_call ?_
  refine' enter (A := ⟨none, dp, some outer, gd, un⟩) X T ?k6 ?k7 ?k8 ?k9 ?kB ?_ ?c2 ?c3 ?c4 ?c5
  case k6 => k_is
  case k7 => k_is
  case k8 => show dp < recursionLimit; have h1 : dp + 3 < recursionLimit := hdp; omega
  case k9 => exact BindsTo.of_eq rfl
  case kB => exact locs rfl
  case c2 => exact rfl
  case c3 => exact rfl
  case c4 => exact rfl
  case c5 => decide
  intro L h₁ F N
  try dsimp only
  (try k_fold)
  refine wpAny_execs_cons ?_
  refine wpAny_Return_some ?_
  refine comp_val (l := l) (vs := vs) (cl := []) (fun _ => true) stuffF rfl (by decide) rfl (by decide) rfl rfl ?_ (hl.at fun o e => F.keep _ _ e) (by omega) no_tests ?_ ?_
  · intro Q' hQ
    exact ld F rfl hQ
  · intro C v s₃ m₃ E' hvm _ hns hm hk hC
    obtain ⟨p, t, rfl, hp⟩ := StrsAre.mem hv hvm
    clear hvm
    have hpl : p.length ≤ 8192 := hx p hp
    clear hC hk
    k_steps
    · intro x u e; cases e
      rw [stuff_dot (by assumption)]; exact ⟨_, rfl⟩
    · exact ⟨_, _, rfl, by assumption⟩
    · intro x u e; cases e
      rw [stuff_same (by assumption)]; exact ⟨_, rfl⟩
    · exact ⟨_, _, rfl, by assumption⟩
  · intro D h' tk ys hD hpl hF hk
    dsimp only at hD hk
    rw [List.filter_eq_self.mpr (fun _ _ => rfl)] at hF
    refine ret D ys.toList h' tk ?_ ?_ ?_ ?_
    · cases e : s.heap.get? D with
      | none => rfl
      | some o => rw [F.keep _ _ e] at hD; cases hD
    · simpa using hpl
    · exact paired_strs hv hF
    · exact fun b o e => hk b o (F.keep b o e)
end Mine
end

section
open PySem PySem.W PyProof.Rows PySem.Calls PySem.Builtin
set_option Elab.async false
set_option maxRecDepth 100000
set_option maxHeartbeats 8000000
namespace Mine

/-- nothing is handled, or an exception without a context -/
def CalmAt (A : Around) (h : Heap) (es : List Addr) : Prop :=
  (A.handled = none ∧ es = []) ∨ ∃ e o vs, A.handled = some (.ref e) ∧ es = [e] ∧ h.get? e = some o ∧ o.data = .fields vs ∧ vs[2]? = some .none

theorem CalmAt.at {A : Around} {h h' : Heap} {es : List Addr} (C : CalmAt A h es) (hk : ∀ b ∈ es, ∀ o, h.get? b = some o → h'.get? b = some o) : CalmAt A h' es := by
  rcases C with ⟨h1, h2⟩ | ⟨e, o, vs, h1, h2, h3, h4, h5⟩
  · exact .inl ⟨h1, h2⟩
  · exact .inr ⟨e, o, vs, h1, h2, hk e (by rw [h2]; exact List.mem_singleton.mpr rfl) o h3, h4, h5⟩

theorem CalmAt.lt {A : Around} {h : Heap} {es : List Addr} (C : CalmAt A h es) : ∀ b ∈ es, b < h.objs.size := by
  intro b hb
  rcases C with ⟨_, h2⟩ | ⟨e, o, vs, h1, h2, h3, h4, h5⟩
  · rw [h2] at hb; exact nomatch hb
  · rw [h2] at hb; rw [List.mem_singleton.mp hb]; exact Heap.lt_size h3

theorem plain_unchain : plainId "proto.unchain" = true := by decide +kernel
theorem entry_unchain : entryFor table "proto.unchain" = some Builtin.«proto.unchain» := entryFor_of_fast (by kernel_rfl)

section
variable {prog : Program} {w : World} {A : Around} {E : Value → Shared → Prop} {s : Shared}

/-- a new exception raised where an exception without a context is handled -/
theorem raiseNew_calm {α : Type} {es : List Addr} {a : Addr} {o : Obj} {ws : Array Value} {Q : α → Shared → Prop} (C : CalmAt A s.heap es) (ho : s.heap.get? a = some o) (hd : o.data = .fields ws) (hw : 2 < ws.size) (hne : a ∉ es)
    (h : ∀ h', Heap.ExtBut a s.heap h' → (∃ ws', h'.get? a = some { o with data := .fields ws' }) → E (.ref a) { s with heap := h' }) : wpAny (model prog w) A (raiseNew (.ref a) : Sem α) Q E s := by
  unfold raiseNew
  rcases C with ⟨h1, _⟩ | ⟨e, oe, vs, h1, h2, h3, h4, h5⟩
  · refine wpAny_bind (wpAny_handled ?_)
    rw [h1]
    refine wpAny_bind (wpAny_pure (wpAny_throw ?_))
    obtain ⟨c, d, dt, sl⟩ := o
    simp only at hd; subst hd
    exact h s.heap (fun b o _ e => e) ⟨ws, ho⟩
  · have hae : a ≠ e := fun e' => hne (by rw [h2, e']; exact List.mem_singleton.mpr rfl)
    refine wpAny_bind (wpAny_handled ?_)
    rw [h1]
    have hb : ((Value.ref e) != (Value.ref a)) = true := by
      cases hc : (Value.ref e == Value.ref a) with
      | false => simp [bne, hc]
      | true => have := eq_of_beq hc; injection this with h9; exact absurd h9.symm hae
    dsimp only
    rw [if_pos hb]
    refine wpAny_bind (wpAny_holding ?_)
    unfold runValue
    refine wpAny_bind (wpAny_run (codeAny_builtin entry_unchain ?_))
    rw [Around.under_plainId plain_unchain _]
    unfold Builtin.«proto.unchain»
    show wpAny _ _ (field (.ref e) 2 >>= _) _ _ s
    refine wpAny_bind (wpAny_field h3 h4 h5 ?_)
    refine wpAny_pure ?_
    refine wpAny_pure ?_
    obtain ⟨c, d, dt, sl⟩ := o
    simp only at hd; subst hd
    refine wpAny_bind ?_
    unfold updateField
    refine wpAny_bind (wpAny_load ho ?_)
    show wpAny _ _ (if 2 < ws.size then _ else _) _ _ _
    rw [if_pos hw]
    refine wpAny_update ho ?_
    refine wpAny_throw ?_
    refine h _ (Heap.SameBut.update ..).extBut ⟨_, Heap.get?_update_self _ ho rfl⟩

theorem next_end_calm {it l : Addr} {i : Nat} {items : Array Value} {es : List Addr} {Q : Option Value → Shared → Prop} (C : CalmAt A s.heap es) (hne : it ∉ es)
    (hit : s.heap.IsListIter it l i) (hl : s.heap.IsList l items) (hx : items[i]? = none)
    (hQ : ∀ h', Heap.ExtBut it s.heap h' → Q none { s with heap := h' }) : wpAny (model prog w) A (pyNext (.ref it)) Q E s := by
  obtain ⟨o, ho, hc, hd⟩ := id hit
  obtain ⟨ol, hol, _, nl, hdl⟩ := hl
  unfold pyNext
  refine wpAny_bind (wpAny_attempt (wpAny_callSpecial?_slot (name := Str.ofString "__next__") hit.typeIs slot_listiter_next
    (wpAny_call_entry slot_listiter_next hit.typeIs entry_listiter_next ?_ (args_listiter_next _))))
  show wpAny _ _ (field (.ref it) 0 >>= _) _ _ s
  refine wpAny_bind (wpAny_field ho hd (x := .ref l) rfl ?_)
  show wpAny _ _ (if (Value.ref l == Value.none) = true then _ else _) _ _ s
  rw [if_neg (show ¬ ((Value.ref l == Value.none) = true) from Bool.false_ne_true)]
  show wpAny _ _ (field (.ref it) 1 >>= _) _ _ s
  refine wpAny_bind (wpAny_field ho hd (x := .int i 0) rfl ?_)
  show wpAny _ _ (seqItems? (.ref l) >>= _) _ _ s
  refine wpAny_bind (wpAny_seqItems hol hdl ?_)
  simp only [Int.toNat_natCast, hx]
  refine wpAny_bind (wpAny_rule (wpAny_bind (wpAny_setField ho hd (by simp) ?_)))
  show wpAny _ _ (newExc (.type "StopIteration") [] >>= _) _ _ _
  refine wpAny_bind ?_
  simp only [newExc, newTuple]
  refine wpAny_bind (wpAny_newObj_type ?_ (by size_fits))
  refine wpAny_bind (m := firstArgMember _ _) (wpAny_of_eq (a := Value.none) (by first | rfl | (simp only [firstArgMember]; rfl)) ?_)
  refine wpAny_newObj_type ?_ (by size_fits)
  have sz : (s.heap.update it (Obj.mapFields fun x => x.setIfInBounds 0 Value.none)).objs.size = s.heap.objs.size := Heap.size_update ..
  refine raiseNew_calm (A := A.in1) (es := es) (CalmAt.at (A := A.in1) (h := s.heap) C fun b hb o' e => ?_) (Heap.get?_push_size _ rfl) rfl (by show 2 < (_ ++ _ : Array Value).size; rw [Array.size_append]; show 2 < 6 + _; omega) (fun hm => ?_) fun h' hx' hw => ?_
  · have hbi : b ≠ it := fun e' => hne (e' ▸ hb)
    exact Heap.get?_push_of_some _ (Heap.get?_push_of_some _ ((Heap.get?_update_ne _ _ _ _ hbi).trans e))
  · have hlt := C.lt _ hm
    have : ((s.heap.update it (Obj.mapFields fun x => x.setIfInBounds 0 Value.none)).push { cls := Value.type "tuple", data := Data.seq #[] }).objs.size < s.heap.objs.size := hlt
    rw [Heap.size_push, sz] at this
    exact absurd this (by omega)
  · obtain ⟨ws', hw⟩ := hw
    refine wpAny_bind (wpAny_isInstance (T := "StopIteration") (b := true) ⟨_, hw, rfl⟩ isSubtype_stop ?_)
    refine wpAny_pure (hQ _ fun b o' hb e => ?_)
    have e1 : (s.heap.update it (Obj.mapFields fun x => x.setIfInBounds 0 Value.none)).get? b = some o' := by rw [Heap.get?_update_ne _ _ _ _ hb]; exact e
    have e2 := Heap.get?_push_of_some ({ cls := Value.type "tuple", data := Data.seq #[] } : Obj) e1
    exact hx' b o' (Nat.ne_of_lt (Heap.lt_size e2)) (Heap.get?_push_of_some _ e2)

theorem walks_calm (I ax : Addr) (hne : ax ≠ I) (es : List Addr) (hIe : I ∉ es) (items : Array Value) :
    Walks prog w A I (I :: ax :: es) [I] items.size (fun i v => items[i]? = some v) (fun i h => h.IsListIter I ax i ∧ h.IsList ax items ∧ CalmAt A h es) where
  sub := fun b hb => by rw [List.mem_singleton.mp hb]; exact List.mem_cons_self ..
  frame := fun _ _ _ st hk => ⟨st.1.at fun o e => hk I (by simp) o e, st.2.1.at fun o e => hk ax (by simp) o e, st.2.2.at fun b hb o e => hk b (by simp [hb]) o e⟩
  item := fun i s Q E hi st hQ => by
    refine wpAny_pyNext_list_item st.1 st.2.1 (x := items[i]) (by simp [hi]) fun h' hit' hs' => ?_
    exact hQ _ h' s.toks (by simp [hi]) ⟨hit', st.2.1.extBut hs'.extBut hne, st.2.2.at fun b hb o e => hs'.extBut b o (fun h => hIe (h ▸ hb)) e⟩ fun b o hb e => hs'.extBut b o (fun h => hb (by simp [h])) e
  done := fun s Q E st hQ => next_end_calm st.2.2 hIe st.1 st.2.1 (by simp) fun h' he' => hQ h' s.toks fun b o hb e => he' b o (fun h => hb (by simp [h])) e
  self := fun _ _ _ _ st hQ => wpAny_pyIter_listiter st.1 hQ

theorem iter_vals {env : Env} {h₀ : Heap} {x : Str} {body : List Stmt} {Q : Flow → Shared → Prop} {l : Addr} {vs : List Value} {es : List Addr} {m₀ : Str → Option Value} {news : List (Addr × Obj)} (J : Nat → (Str → Option Value) → List (Addr × Obj) → Prop)
    (C : CalmAt A h₀ es) (hls : s.heap.IsList l vs.toArray) (hlL : l ≠ env.locals) (hlN : ∀ p ∈ news, p.1 ≠ l) (F : Fr h₀ env.locals s.heap m₀) (N : News h₀ env.locals s.heap news) (hj : J 0 m₀ news)
    (turn : ∀ i v m₁ news₁ h tk own, vs[i]? = some v → news₁.map (·.1) = news.map (·.1) → OwnOff own (news.map (·.1)) → J i m₁ news₁ → Fr h₀ env.locals h (fun y => if y = x then some v else m₁ y) → News h₀ env.locals h (news₁ ++ own) →
      wpAny (model prog w) A (execs body env) (InvPostN h₀ env.locals (J (i + 1)) own (news.map (·.1)) { s with heap := h, toks := tk } Q) E { s with heap := h, toks := tk })
    (done : ∀ m₁ news₁ h tk, J vs.length m₁ news₁ → Fr h₀ env.locals h m₁ → News h₀ env.locals h news₁ → Q .next { s with heap := h, toks := tk }) :
    wpAny (model prog w) A (pyIter (.ref l)) (fun it s₂ => LoopAtV prog w A h₀ env x body Q E it s₂) E s := by
  obtain ⟨ol, hol, _⟩ := id hls
  have hlt : l < s.heap.objs.size := Heap.lt_size hol
  have hne : l ≠ s.heap.objs.size := Nat.ne_of_lt hlt
  have hLs : env.locals < s.heap.objs.size := F.ns.lt
  have hes : ∀ b ∈ es, b < h₀.objs.size := C.lt
  have hesI : s.heap.objs.size ∉ es := fun hm => absurd (Nat.lt_of_lt_of_le (hes _ hm) (Nat.le_trans F.above (Nat.le_of_lt hLs))) (Nat.lt_irrefl _)
  refine wpAny_pyIter_list hls ?_
  have W := walks_calm (prog := prog) (w := w) (A := A) s.heap.objs.size l hne es hesI vs.toArray
  have hlen : vs.toArray.size = vs.length := by simp
  rw [hlen] at W
  let J' : Nat → (Str → Option Value) → List (Addr × Obj) → Prop := fun i m₁ news₁ => news₁.map (·.1) = news.map (·.1) ∧ J i m₁ news₁
  have heN : ∀ p ∈ news, p.1 ∉ es := fun p hp hm => by
    have h1 := (N p hp).2.2
    rcases C with ⟨_, h2⟩ | ⟨e, o, ws, _, h2, h3, _⟩
    · rw [h2] at hm; exact nomatch hm
    · rw [h2] at hm; rw [List.mem_singleton.mp hm, h3] at h1; cases h1
  refine ⟨_, _, _, vs.length, _, _, m₀, news, J', rfl, W, ?_, ?_, ?_, ⟨⟨_, Heap.get?_push_size _ rfl, rfl, rfl⟩, hls.at fun o e => Heap.get?_push_of_some _ e, C.at fun b hb o e => Heap.get?_push_of_some _ (F.keep b o e)⟩, F.push _, (fun p hp => ⟨Heap.get?_push_of_some _ (N p hp).1, (N p hp).2⟩), ⟨rfl, hj⟩, ?_, ?_⟩
  · intro hm
    rcases List.mem_cons.mp hm with e | hm
    · exact absurd hLs (e ▸ Nat.lt_irrefl _)
    · rcases List.mem_cons.mp hm with e | hm
      · exact hlL e.symm
      · exact absurd (Nat.lt_of_lt_of_le (hes _ hm) F.above) (Nat.lt_irrefl _)
  · intro b hb
    rw [List.mem_singleton.mp hb]
    exact next_is_new F
  · intro p hp hI
    exact absurd (Heap.lt_size (N p hp).1) ((List.mem_singleton.mp hI) ▸ Nat.lt_irrefl _)
  · rintro i v m₁ news₁ s₁ own ⟨hh', tk', rfl⟩ hin hP ⟨hadr, hJ⟩ hoff hown _ _ _ F₁ N₁
    have hsep : OwnOff own (news.map (·.1)) := by
      intro p hp b hb e
      obtain ⟨q, hq, rfl⟩ := List.mem_map.mp hb
      rcases List.mem_cons.mp (hown p hp) with h1 | h1
      · exact absurd (Heap.lt_size (N q hq).1) (by rw [← e, h1]; exact Nat.lt_irrefl _)
      · rcases List.mem_cons.mp h1 with h1 | h1
        · exact hlN q hq (by rw [← e, h1])
        · exact heN q hq (by rw [← e]; exact h1)
    have hv : vs[i]? = some v := by simpa using hP
    have N₂ : News h₀ env.locals hh' (news₁ ++ own) := fun p hp => N₁ p ((List.mem_append.mp hp).elim (fun h => List.mem_append.mpr (.inr h)) fun h => List.mem_append.mpr (.inl h))
    refine wpAny_mono (turn i v m₁ news₁ hh' tk' own hv hadr hsep hJ F₁ N₂) (fun f s₂ p => ?_) fun _ _ e => e
    have fin : InvEndN h₀ env.locals (J (i + 1)) own (news.map (·.1)) { s with heap := hh', toks := tk' } s₂ → LoopStepU h₀ env.locals [s.heap.objs.size] own (J' (i + 1)) { s with heap := hh', toks := tk' } .next s₂ := by
      rintro ⟨h', tk, m', news', nx, e, F', N', hn, ho, ha, hm⟩
      refine ⟨rfl, h', tk, m', nx, e, F', fun p hp => N' p ((List.mem_append.mp hp).elim (ho p) (hn p)), fun p hp hq => ?_, ha, hm⟩
      have h1 : p.1 ∈ nx.map (·.1) := List.mem_map.mpr ⟨p, hp, rfl⟩
      rw [ha, ← hadr] at h1
      obtain ⟨q, hq1, hq2⟩ := List.mem_map.mp h1
      exact hoff q hq1 (by rw [hq2]; exact hq)
    cases f with
    | ret v => exact .ret p
    | brk => exact .brk p
    | next => exact .next (fin p)
    | cont => exact .cont (fin p)
  · rintro h' tk m' news' F' N' _ ⟨_, hJ⟩
    exact done m' news' h' tk hJ F' N'
end
end Mine
end

section
open PySem PySem.W PyProof.Rows PySem.Calls PySem.Builtin PySem.SeqAt
set_option Elab.async false
set_option maxRecDepth 100000
set_option maxHeartbeats 8000000
namespace Mine

/-- the same up to slots -/
def UpS (h h' : Heap) : Prop := ∀ b o, h.get? b = some o → ∃ sl, h'.get? b = some { o with slots := sl }
theorem Ext.upS {h h' : Heap} (x : Ext h h') : UpS h h' := fun b o e => ⟨o.slots, x b o e⟩
theorem UpS.trans {a b c : Heap} (x : UpS a b) (y : UpS b c) : UpS a c := fun i o e => by obtain ⟨sl, e1⟩ := x i o e; obtain ⟨sl', e2⟩ := y i _ e1; exact ⟨sl', e2⟩
theorem UpS.isList {h h' : Heap} (x : UpS h h') {b : Addr} {items : Array Value} (hl : h.IsList b items) : h'.IsList b items := by
  obtain ⟨o, e, hc, n, hd⟩ := hl
  obtain ⟨sl, e'⟩ := x b o e
  exact ⟨_, e', hc, n, hd⟩

/-- a way of reading values as data, by which == is told -/
structure Key {δ : Type} [DecidableEq δ] (c : Nat) (K : Heap → Value → δ → Prop) : Prop where
  eq : ∀ (A : Around) (s : Shared) (v v' : Value) (d d' : δ), A.units + c < cLine → K s.heap v d → K s.heap v' d' → EqAt A s v v' (decide (d = d'))
  ext : ∀ (h h' : Heap) (v : Value) (d : δ), Ext h h' → K h v d → K h' v d
  ups : ∀ (h h' : Heap) (v : Value) (d : δ), UpS h h' → K h v d → K h' v d
  fn : ∀ (h : Heap) (v : Value) (d d' : δ), K h v d → K h v d' → d = d'

def StrK (_ : Heap) (v : Value) (x : Str) : Prop := ∃ t, v = .str x t
def LK {δ : Type} (K : Heap → Value → δ → Prop) (h : Heap) (v : Value) (ds : List δ) : Prop := ∃ a ws, v = .ref a ∧ h.IsList a ws ∧ Paired (K h) ws.toList ds

theorem paired_get {α β : Type} {F : α → β → Prop} : ∀ {l₁ : List α} {l₂ : List β}, Paired F l₁ l₂ → ∀ (j : Nat) (h1 : j < l₁.length) (h2 : j < l₂.length), F l₁[j] l₂[j]
  | _, _, .nil, j, h1, _ => absurd h1 (Nat.not_lt_zero _)
  | _, _, .cons h t, j, h1, h2 => by
    cases j with
    | zero => exact h
    | succ j => exact paired_get t j (Nat.lt_of_succ_lt_succ h1) (Nat.lt_of_succ_lt_succ h2)
theorem paired_mem {α β : Type} {F : α → β → Prop} : ∀ {l₁ : List α} {l₂ : List β}, Paired F l₁ l₂ → ∀ a ∈ l₁, ∃ b ∈ l₂, F a b
  | _, _, .nil, _, h => nomatch h
  | _, _, .cons h t, a, ha => by
    rcases List.mem_cons.mp ha with rfl | ha
    · exact ⟨_, List.mem_cons_self .., h⟩
    · obtain ⟨b, hb, hf⟩ := paired_mem t a ha; exact ⟨b, List.mem_cons_of_mem _ hb, hf⟩
theorem paired_mem' {α β : Type} {F : α → β → Prop} : ∀ {l₁ : List α} {l₂ : List β}, Paired F l₁ l₂ → ∀ b ∈ l₂, ∃ a ∈ l₁, F a b
  | _, _, .nil, _, h => nomatch h
  | _, _, .cons h t, a, ha => by
    rcases List.mem_cons.mp ha with rfl | ha
    · exact ⟨_, List.mem_cons_self .., h⟩
    · obtain ⟨b, hb, hf⟩ := paired_mem' t a ha; exact ⟨b, List.mem_cons_of_mem _ hb, hf⟩

theorem strKey : Key 0 StrK where
  eq := fun A s v v' d d' _ h h' => by
    obtain ⟨t, rfl⟩ := h
    obtain ⟨t', rfl⟩ := h'
    have := EqAt.str_str (A := A) (s := s) d t d' t'
    rw [show (d == d') = decide (d = d') from by by_cases e : d = d' <;> simp [e]] at this
    exact this
  ext := fun _ _ _ _ _ h => h
  ups := fun _ _ _ _ _ h => h
  fn := fun _ _ _ _ ⟨_, e⟩ ⟨_, e'⟩ => by rw [e] at e'; injection e'

section
variable {δ : Type} [DecidableEq δ] {c : Nat} {K : Heap → Value → δ → Prop}

theorem range_all {xs ys : List δ} (hl : xs.length = ys.length) : (List.range xs.length).all (fun j => decide (xs[j]? = ys[j]?)) = decide (xs = ys) := by
  by_cases h : xs = ys
  · subst h; simp
  · rw [decide_eq_false h]
    cases hb : (List.range xs.length).all (fun j => decide (xs[j]? = ys[j]?)) with
    | false => rfl
    | true =>
      exfalso
      apply h
      apply List.ext_getElem?
      intro j
      by_cases hj : j < xs.length
      · have := List.all_eq_true.mp hb j (List.mem_range.mpr hj)
        exact of_decide_eq_true this
      · rw [List.getElem?_eq_none (by omega), List.getElem?_eq_none (by omega)]

theorem Key.items (hK : Key c K) {A : Around} {s : Shared} {ws ws' : Array Value} {ds ds' : List δ} (hu : A.units + c < cLine) (p : Paired (K s.heap) ws.toList ds) (p' : Paired (K s.heap) ws'.toList ds') :
    ∀ j (h1 : j < ws.size) (h2 : j < ws'.size), EqAt A s ws[j] ws'[j] (decide (ds[j]? = ds'[j]?)) := by
  intro j h1 h2
  have hl := p.length
  have hl' := p'.length
  simp only [Array.length_toList] at hl hl'
  have e1 := paired_get p j (by simpa using h1) (by omega)
  have e2 := paired_get p' j (by simpa using h2) (by omega)
  rw [List.getElem?_eq_getElem (by omega), List.getElem?_eq_getElem (by omega)]
  have := hK.eq A s _ _ _ _ hu e1 e2
  have hd : decide (some (ds[j]'(by omega)) = some (ds'[j]'(by omega))) = decide (ds[j]'(by omega) = ds'[j]'(by omega)) := by
    by_cases e : ds[j]'(by omega) = ds'[j]'(by omega) <;> simp [e]
  rw [hd]
  simpa using this

theorem Key.rc (hK : Key c K) {A : Around} {s : Shared} {l b : Addr} {ws ws' : Array Value} {ds ds' : List δ} (hu : A.units + (c + 1) < cLine) (hl : s.heap.IsList l ws) (hb : s.heap.IsList b ws')
    (p : Paired (K s.heap) ws.toList ds) (p' : Paired (K s.heap) ws'.toList ds') : RcAt A s (.ref l) (.ref b) (decide (ds = ds')) := by
  have e := p.length
  have e' := p'.length
  simp only [Array.length_toList] at e e'
  by_cases hsz : ws.size = ws'.size
  · have := RcAt.lists hl hb hsz (by omega) (e := fun j => decide (ds[j]? = ds'[j]?)) (hK.items (A := A.in1) (by show A.units + 1 + c < _; omega) p p')
    rw [e, range_all (by omega)] at this
    exact this
  · have := RcAt.lists_lengths hl hb (by simpa [bne] using hsz) (show A.units < cLine by omega)
    rw [decide_eq_false (fun h => hsz (by rw [e, e', h]))]
    exact this

theorem Key.rcNe (hK : Key c K) {A : Around} {s : Shared} {l b : Addr} {ws ws' : Array Value} {ds ds' : List δ} (hu : A.units + (c + 1) < cLine) (hl : s.heap.IsList l ws) (hb : s.heap.IsList b ws')
    (p : Paired (K s.heap) ws.toList ds) (p' : Paired (K s.heap) ws'.toList ds') : RcNeAt A s (.ref l) (.ref b) (!decide (ds = ds')) := by
  have e := p.length
  have e' := p'.length
  simp only [Array.length_toList] at e e'
  by_cases hsz : ws.size = ws'.size
  · have := RcNeAt.lists hl hb hsz (by omega) (e := fun j => decide (ds[j]? = ds'[j]?)) (hK.items (A := A.in1) (by show A.units + 1 + c < _; omega) p p')
    rw [e, range_all (by omega)] at this
    exact this
  · have := RcNeAt.lists_lengths hl hb (by simpa [bne] using hsz) (show A.units < cLine by omega)
    rw [decide_eq_false (fun h => hsz (by rw [e, e', h]))]
    exact this

theorem Key.list_fn (hK : Key c K) {h : Heap} {l : Addr} {ws ws' : Array Value} {ds ds' : List δ} (hl : h.IsList l ws) (hb : h.IsList l ws') (p : Paired (K h) ws.toList ds) (p' : Paired (K h) ws'.toList ds') : ds = ds' := by
  have e : ws = ws' := by
    obtain ⟨o, h1, _, n, h2⟩ := hl
    obtain ⟨o', h1', _, n', h2'⟩ := hb
    rw [h1] at h1'; cases h1'
    rw [h2] at h2'; cases h2'; rfl
  subst e
  have e1 := p.length
  have e2 := p'.length
  apply List.ext_getElem (by omega)
  intro j h1 h2
  exact hK.fn h _ _ _ (paired_get p j (by omega) h1) (paired_get p' j (by omega) h2)

theorem Key.list (hK : Key c K) : Key (c + 1) (LK K) where
  eq := fun A s v v' ds ds' hu h h' => by
    obtain ⟨l, ws, rfl, hl, p⟩ := h
    obtain ⟨b, ws', rfl, hb, p'⟩ := h'
    have R := hK.rc hu hl hb p p'
    by_cases hne : l = b
    · subst hne
      intro prog w E Q hQ
      refine EqAt.same (A := A) (s := s) (.ref l) prog w E Q ?_
      rw [hK.list_fn hl hb p p'] at hQ
      simpa using hQ
    · exact EqAt.of_refs hne R
  ext := fun h h' v ds hk hv => by
    obtain ⟨l, ws, rfl, hl, p⟩ := hv
    exact ⟨l, ws, rfl, hl.at fun o e => hk _ o e, p.mono fun _ _ x => hK.ext _ _ _ _ hk x⟩
  ups := fun h h' v ds hk hv => by
    obtain ⟨l, ws, rfl, hl, p⟩ := hv
    exact ⟨l, ws, rfl, hk.isList hl, p.mono fun _ _ x => hK.ups _ _ _ _ hk x⟩
  fn := fun h v ds ds' h1 h2 => by
    obtain ⟨l, ws, rfl, hl, p⟩ := h1
    obtain ⟨b, ws', e, hb, p'⟩ := h2
    cases e
    exact hK.list_fn hl hb p p'

theorem any_mem {ws : List Value} {ds : List δ} {R : Value → δ → Prop} (p : Paired R ws ds) (d : δ) (e : Value → Bool) (he : ∀ v d', R v d' → e v = decide (d' = d)) : ws.any e = decide (d ∈ ds) := by
  induction p with
  | nil => rfl
  | @cons a b l1 l2 h _ ih =>
    rw [List.any_cons, ih, he a b h]
    by_cases h1 : b = d
    · subst h1; simp
    · have h2 : ¬ d = b := fun h => h1 h.symm
      simp [h1, h2]

section
variable {prog : Program} {w : World} {A : Around} {E : Value → Shared → Prop} {s : Shared}

theorem Key.in_ (hK : Key c K) {l : Addr} {ws : Array Value} {ds : List δ} {x : Value} {d : δ} {Q : Value → Shared → Prop} (hu : A.units + (c + 1) < cLine) (hl : s.heap.IsList l ws) (p : Paired (K s.heap) ws.toList ds) (hx : K s.heap x d)
    (h : Q (.bool (decide (d ∈ ds))) s) : wpAny (model prog w) A (compareOp .In x (.ref l)) Q E s := by
  classical
  let e : Value → Bool := fun y => if h : ∃ d', K s.heap y d' then decide (h.choose = d) else false
  have he : ∀ y d', K s.heap y d' → e y = decide (d' = d) := fun y d' hy => by
    have hex : ∃ d', K s.heap y d' := ⟨d', hy⟩
    show (if h : ∃ d', K s.heap y d' then decide (h.choose = d) else false) = _
    rw [dif_pos hex, hK.fn _ _ _ _ hex.choose_spec hy]
  refine in_listAt e hl (fun y hy => ?_) ?_
  · obtain ⟨d', _, hd⟩ := paired_mem p y (by simpa using hy)
    rw [he y d' hd]
    exact hK.eq A.in1 s y x d' d (by show A.units + 1 + c < _; omega) hd hx
  · have := any_mem p d e he
    rw [← Array.any_toList, this]
    exact h
theorem Key.notIn (hK : Key c K) {l : Addr} {ws : Array Value} {ds : List δ} {x : Value} {d : δ} {Q : Value → Shared → Prop} (hu : A.units + (c + 1) < cLine) (hl : s.heap.IsList l ws) (p : Paired (K s.heap) ws.toList ds) (hx : K s.heap x d)
    (h : Q (.bool (!decide (d ∈ ds))) s) : wpAny (model prog w) A (compareOp .NotIn x (.ref l)) Q E s := by
  classical
  let e : Value → Bool := fun y => if h : ∃ d', K s.heap y d' then decide (h.choose = d) else false
  have he : ∀ y d', K s.heap y d' → e y = decide (d' = d) := fun y d' hy => by
    have hex : ∃ d', K s.heap y d' := ⟨d', hy⟩
    show (if h : ∃ d', K s.heap y d' then decide (h.choose = d) else false) = _
    rw [dif_pos hex, hK.fn _ _ _ _ hex.choose_spec hy]
  refine notIn_listAt e hl (fun y hy => ?_) ?_
  · obtain ⟨d', _, hd⟩ := paired_mem p y (by simpa using hy)
    rw [he y d' hd]
    exact hK.eq A.in1 s y x d' d (by show A.units + 1 + c < _; omega) hd hx
  · have := any_mem p d e he
    rw [← Array.any_toList, this]
    exact h
end
end

/-- read in an elder heap -/
def AtBase {δ : Type} (K : Heap → Value → δ → Prop) (h₀ : Heap) (h : Heap) (v : Value) (d : δ) : Prop := UpS h₀ h ∧ K h₀ v d
theorem Key.atBase {δ : Type} [DecidableEq δ] {c : Nat} {K : Heap → Value → δ → Prop} (hK : Key c K) (h₀ : Heap) : Key c (AtBase K h₀) where
  eq := fun A s v v' d d' hu h h' => hK.eq A s v v' d d' hu (hK.ups _ _ _ _ h.1 h.2) (hK.ups _ _ _ _ h'.1 h'.2)
  ext := fun _ _ _ _ hk h => ⟨h.1.trans hk.upS, h.2⟩
  ups := fun _ _ _ _ hk h => ⟨h.1.trans hk, h.2⟩
  fn := fun _ _ _ _ h h' => hK.fn _ _ _ _ h.2 h'.2

theorem rowKey : Key 1 (LK StrK) := strKey.list
theorem rowsKey : Key 2 (LK (LK StrK)) := rowKey.list

theorem StrsAre.paired {vs : List Value} {ps : List Str} (h : StrsAre vs ps) (hp : Heap) : Paired (StrK hp) vs ps := by
  induction h with
  | nil => exact .nil
  | cons y t _ ih => exact .cons ⟨t, rfl⟩ ih
theorem paired_strsAre {hp : Heap} : ∀ {vs : List Value} {ps : List Str}, Paired (StrK hp) vs ps → StrsAre vs ps
  | _, _, .nil => .nil
  | _, _, .cons ⟨_, e⟩ t => by subst e; exact .cons _ _ (paired_strsAre t)
end Mine
end

section
open PySem PySem.W PyProof.Rows PySem.Calls PySem.Builtin PySem.SeqAt
set_option Elab.async false
set_option maxRecDepth 100000
set_option maxHeartbeats 8000000
set_option pp.deepTerms false
set_option pp.maxSteps 30000
namespace Mine

/-- as Site, an exception without a context may be handled -/
structure SiteC (w : World) (n : Nat) (A : Around) (h : Heap) (es : List Addr) : Prop where
  at_ : ∃ base outer mean mg mb, Below A base outer h ∧ (hd.heap_39 w.params).In h ∧
    Top hd.view_39 (looseW hd.view_39 [Str.ofString "_deduplicate", Str.ofString "_twin_re_1", Str.ofString "_twin_re_2"]) mean mg mb h
  calm : CalmAt A h es
  depth : A.depth + n < recursionLimit
  units : A.units + 100 + 4 * n < cLine
theorem Site.calm {w : World} {n : Nat} {A : Around} {h : Heap} (C : Site w n A h) : SiteC w n A h [] := ⟨C.at_, .inl ⟨C.quiet, rfl⟩, C.depth, C.units⟩

def ddS {δ : Type} [DecidableEq δ] (acc : List δ) (d : δ) : List δ := if d ∈ acc then acc else acc ++ [d]
theorem ddS_length {δ : Type} [DecidableEq δ] (acc : List δ) (d : δ) : (ddS acc d).length ≤ acc.length + 1 := by
  unfold ddS; split
  · omega
  · simp
def dd {δ : Type} [DecidableEq δ] (ds : List δ) : List δ := ds.foldl ddS []

theorem dd_length {δ : Type} [DecidableEq δ] (ds : List δ) : (dd ds).length ≤ ds.length := by
  have h : ∀ (l acc : List δ), (l.foldl ddS acc).length ≤ acc.length + l.length := by
    intro l
    induction l with
    | nil => intro acc; simp
    | cons d l ih => intro acc; have h1 := ih (ddS acc d); have h2 := ddS_length acc d; simp only [List.foldl_cons, List.length_cons]; omega
  have := h ds []
  simp only [List.length_nil, Nat.zero_add] at this
  exact this
theorem dd_take {δ : Type} [DecidableEq δ] {ds : List δ} {i : Nat} {d : δ} (h : ds[i]? = some d) : dd (ds.take (i + 1)) = ddS (dd (ds.take i)) d := by
  unfold dd
  rw [List.take_add_one, h]; simp

theorem fr_say {h₀ h : Heap} {L : Addr} {m : Str → Option Value} (F : Fr h₀ L h m) {x : Str} {v : Value} (hm : m x = some v) : Fr h₀ L h (fun y => if y = x then some v else m y) := by
  have e : m = (fun y => if y = x then some v else m y) := by
    funext y
    by_cases h : y = x
    · subst h; rw [if_pos rfl, hm]
    · rw [if_neg h]
  rw [← e]; exact F

section
variable {prog : Program} {w : World} {A : Around} {E : Value → Shared → Prop} {s : Shared} {L : Addr} {h₀ : Heap} {m : Str → Option Value}

theorem append_own {T : Addr} {its : List Value} {n : Nat} {x : Value} {own : List (Addr × Obj)} {Q : Value → Shared → Prop} (F : Fr h₀ L s.heap m) (N : News h₀ L s.heap ((T, ({ cls := .type "list", data := .seq its.toArray n } : Obj)) :: own))
    (ho : ∀ p ∈ own, p.1 ≠ T) (hz : its.length ≤ 2 ^ 20)
    (h : ∀ h' n', Fr h₀ L h' m → News h₀ L h' ((T, ({ cls := .type "list", data := .seq (its ++ [x]).toArray n' } : Obj)) :: own) → Q .none { s with heap := h' }) :
    wpAny (model prog w) A (call (.builtin "list.append") [.ref T, x]) Q E s := by
  have e := (N _ (List.mem_cons_self ..)).1
  have hTL := (N _ (List.mem_cons_self ..)).2.1
  have hT0 := (N _ (List.mem_cons_self ..)).2.2
  refine wpAny_list_append_plain (hsz := by simp only [List.size_toArray]; unfold sizeLine; omega) ⟨n, e⟩ fun h' hpl hs => ?_
  obtain ⟨n', e'⟩ := hpl
  have e2 : its.toArray.push x = (its ++ [x]).toArray := by simp
  rw [e2] at e'
  refine h h' n' (F.change hs hTL hT0) fun p hp => ?_
  rcases List.mem_cons.mp hp with rfl | hp
  · exact ⟨e', hTL, hT0⟩
  · have := N p (List.mem_cons_of_mem _ hp)
    exact ⟨(hs.2 p.1 (ho p hp)).trans this.1, this.2⟩

theorem gm_append {T : Addr} {its : Array Value} {n : Nat} {own : List (Addr × Obj)} {pl : Sem Bool} {Q : Value × List Value → Shared → Prop} (N : News h₀ L s.heap ((T, ({ cls := .type "list", data := .seq its n } : Obj)) :: own))
    (h : Q (.builtin "list.append", [.ref T]) s) : wpAny (model prog w) A (getMethod (.ref T) (Str.ofString "append") pl) Q E s :=
  Calls.getMethod_list_append (N _ (List.mem_cons_self ..)).1 rfl rfl h
end

local macro_rules | `(tactic| walk_at "exec For Name Name cons nil") => `(tactic| (k_here; (rename Fr _ _ _ _ => lF'); (with_unfolding_all refine' For_invVF lF' ?k1 ?k2 ?_; (case k1 => exact rfl); (case k2 => exact rfl); k_whole)))
theorem dedupU_at {δ : Type} [DecidableEq δ] {c : Nat} {K : Heap → Value → δ → Prop} (hK : Key c K) (hc : c ≤ 9) {w : World} {A : Around} {s : Shared} {es : List Addr} (C : SiteC w 3 A s.heap es) {l : Addr} {vs : List Value} {ds : List δ}
    (hl : s.heap.IsList l vs.toArray) (hp : Paired (K s.heap) vs ds) (hn : vs.length ≤ 2 ^ 12) {Q E : Value → Shared → Prop}
    (ret : ∀ D ws h' tk, s.heap.get? D = none → h'.PlainList D ws.toArray → Paired (K h') ws (dd ds) → Ext s.heap h' → Q (.ref D) { s with heap := h', toks := tk }) :
    wpAny (model PySem.Challenge.rw_nb0028_01.row.prog w) A (call (.ref 46) [.ref l]) Q E s := by
  obtain ⟨⟨base, outer, mean, mg, mb, B, X, T⟩, hq, hdp, hun⟩ := C
  obtain ⟨hh, dp, fr, gd, un⟩ := A
  obtain rfl : fr = some outer := B.stack
  revert X; k_fill; intro X
  refine wpAny_call ?_
  refine' enter (A := ⟨hh, dp, some outer, gd, un⟩) X T ?k6 ?k7 ?k8 ?k9 ?kB ?_ ?c2 ?c3 ?c4 ?c5
  case k6 => k_is
  case k7 => k_is
  case k8 => show dp < recursionLimit; have h1 : dp + 3 < recursionLimit := hdp; omega
  case k9 => exact BindsTo.of_eq rfl
  case kB => exact locs rfl
  case c2 => exact rfl
  case c3 => exact rfl
  case c4 => exact rfl
  case c5 => decide
  intro L h₁ F N
  try dsimp only
  (try k_fold)
  k_steps
  rename_i T h8 l8 h9 F9 N9
  refine iter_vals (es := es) (vs := vs) (fun i m₁ news₁ => ∃ n ws, news₁ = [(T, ({ cls := .type "list", data := .seq ws.toArray n } : Obj))] ∧ Paired (K s.heap) ws (dd (ds.take i)) ∧ m₁ (Str.ofString "new_unhashable") = some (.ref T)) hq
    (hl.at fun o e => F9.keep _ _ e) ?_ ?_ F9 N9 ⟨0, [], rfl, .nil, rfl⟩ ?_ ?_
  · intro e
    have h1 : l < s.heap.objs.size := by obtain ⟨o, e, _⟩ := hl; exact Heap.lt_size e
    have h2 := F9.above
    have e' : l = L := e
    rw [e'] at h1
    exact absurd (Nat.lt_of_lt_of_le h1 h2) (Nat.lt_irrefl _)
  · intro p hp e
    have h1 := (N9 p hp).2.2
    obtain ⟨o, h2, _⟩ := hl
    rw [e, h2] at h1; cases h1
  · rintro i v m₁ news₁ h tk own hv hadr hoff ⟨n, ws, rfl, hw, hm⟩ F8 N8
    have F7 := fr_say F8 (x := Str.ofString "new_unhashable") (v := .ref T) (by rw [if_neg (by decide)]; exact hm)
    clear F8
    have N7 : News s.heap L h ((T, ({ cls := .type "list", data := .seq ws.toArray n } : Obj)) :: own) := N8
    clear N8
    have ho : ∀ p ∈ own, p.1 ≠ T := fun p hp => hoff p hp T (by simp)
    have hlen : vs.length = ds.length := hp.length
    have hi : i < ds.length := by
      rw [← hlen]
      cases Nat.lt_or_ge i vs.length with
      | inl h => exact h
      | inr h => rw [List.getElem?_eq_none h] at hv; cases hv
    have hKv : K s.heap v ds[i] := by
      have := paired_get hp i (by omega) hi
      rw [List.getElem?_eq_getElem (by omega)] at hv
      cases hv; exact this
    have hdd := dd_take (ds := ds) (i := i) (List.getElem?_eq_getElem hi)
    k_steps
    refine Key.notIn hK (ds := dd (ds.take i)) (d := ds[i]) ?_ (News.isList N7 (.head _)) (hw.mono fun _ _ x => hK.ext _ _ _ _ F7.keep x) (hK.ext _ _ _ _ F7.keep hKv) ?_
    · have h1 : un + 100 + 4 * 3 < cLine := hun
      show un + 3 + (c + 1) < cLine; omega
    · refine wpAny_truthy_bool ?_
      by_cases hmem : ds[i] ∈ dd (ds.take i)
      · rw [decide_eq_true hmem]
        refine wpAny_execs_nil ?_
        dsimp only
        refine wpAny_execs_nil ?_
        refine ⟨h, tk, _, _, [(T, ({ cls := .type "list", data := .seq ws.toArray n } : Obj))], rfl, F7, N7, fun p hp => ?_, fun p hp => List.mem_cons_of_mem _ hp, rfl, n, ws, rfl, ?_, rfl⟩
        · rw [List.mem_singleton.mp hp]; exact List.mem_cons_self ..
        · rw [hdd]; unfold ddS; rw [if_pos hmem]; exact hw
      · rw [decide_eq_false hmem]
        show wpAny _ _ _ _ _ _
        iterate 9 (first | walk1 | (dsimp only; walk1))
        have hwl := hw.length
        have hle := dd_length (ds.take i)
        refine append_own F7 N7 ho ?_ fun h' n' F6 N6 => ?_
        · rw [List.length_take] at hle; omega
        refine wpAny_execs_nil ?_
        dsimp only
        refine wpAny_execs_nil ?_
        refine ⟨h', _, _, _, [(T, ({ cls := .type "list", data := .seq (ws ++ [v]).toArray n' } : Obj))], rfl, F6, N6, fun p hp => ?_, fun p hp => List.mem_cons_of_mem _ hp, rfl, n', ws ++ [v], rfl, ?_, rfl⟩
        · rw [List.mem_singleton.mp hp]; exact List.mem_cons_self ..
        · rw [hdd]; unfold ddS; rw [if_neg hmem]; exact hw.snoc hKv
  · rintro m₁ news₁ h tk ⟨n, ws, rfl, hw, hm⟩ F8 N8
    have hlen : vs.length = ds.length := hp.length
    rw [hlen, List.take_length] at hw
    have F7 := fr_say F8 hm
    clear F8
    iterate 3 (first | walk1 | (dsimp only; walk1))
    show Q (.ref T) _
    exact ret T ws h tk (N8 _ (List.mem_singleton.mpr rfl)).2.2 ⟨n, (N8 _ (List.mem_singleton.mpr rfl)).1⟩ (hw.mono fun _ _ x => hK.ext _ _ _ _ F7.keep x) F7.keep
end Mine
end

section
open PySem PySem.W PyProof.Rows PySem.Calls PySem.Builtin PySem.SeqAt
set_option Elab.async false
set_option maxRecDepth 100000
set_option maxHeartbeats 8000000
namespace Mine

theorem typeCall_dict_0 : checkTypeCall "dict" ⟨[], []⟩ = pure () := by kernel_rfl
theorem newCall_dict_0 : checkBuiltinCall "dict.__new__" ⟨[.type "dict"], []⟩ = pure () := by kernel_rfl

section
variable {prog : Program} {w : World} {A : Around} {E : Value → Shared → Prop} {s : Shared}
theorem call_dict_0 {Q : Value → Shared → Prop} (h : Q (.ref s.heap.objs.size) { s with heap := s.heap.push { cls := .type "dict", data := .dict #[] } }) :
    wpAny (model prog w) A (call (.type "dict") []) Q E s := by
  refine callType_codes (Q₁ := fun obj s₁ => obj = .ref s.heap.objs.size ∧ s₁ = { s with heap := s.heap.push { cls := .type "dict", data := .dict #[] } }) F.kt_called_dict typeCall_dict_0 F.entry_dict_init ?_ ?_
  · refine codeAny_call_builtin F.kt_plain_dict_new F.kt_entry_dict_new (wpAny_of_eq newCall_dict_0 ?_)
    have hsub := F.kt_sub_dict
    have hmro := F.kt_mro_dict
    obtain ⟨hp, g, d, tk, os⟩ := s
    unfold Builtin.«dict.__new__»
    wp_walk
    exact ⟨rfl, rfl⟩
  · rintro obj s₁ ⟨rfl, rfl⟩
    have hnew : (s.heap.push { cls := .type "dict", data := .dict #[] }).DictOf (strKind prog w) s.heap.objs.size [] := Heap.DictOf.new s.heap
    refine ⟨hnew.typeIs, F.args_dict_init_1 _, ?_⟩
    unfold Builtin.«dict.__init__»
    refine wpAny_bind ?_
    unfold Builtin.Dict.selfAndRest
    refine wpAny_bind (wpAny_notOrdered_dict hnew.typeIs ?_)
    show wpAny _ _ (pure (s.heap.objs.size, [])) _ _ _
    refine wpAny_pure ?_
    dsimp only
    show wpAny _ _ (Builtin.Dict.addKeywords s.heap.objs.size [] >>= _) _ _ _
    exact wpAny_bind (wpAny_pure (wpAny_pure ⟨rfl, h⟩))
end

def boundFk : Obj := { cls := .type "builtin_function_or_method", data := .fields #[.builtin "dict.fromkeys", .type "dict"] }
theorem type_fk : typeOf (.builtin "dict.fromkeys") = pure (.type "classmethod_descriptor") := by show builtinType _ = _; rw [builtinType_eq_fast]; kernel_rfl
theorem entry_fk : entryFor table "dict.fromkeys" = some Builtin.«dict.fromkeys» := entryFor_of_tree (by kernel_rfl)
theorem quiet_fk {as : Args} : (Code.builtin "dict.fromkeys" as).quiet = true := Code.quiet_builtin _ (by decide +kernel)
theorem plain_fk : plainId "dict.fromkeys" = true := by decide +kernel
theorem entry_fkl : entryFor table "dict.fromkeys.loop" = some Builtin.«dict.fromkeys.loop» := entryFor_of_tree (by kernel_rfl)
theorem plain_fkl : plainId "dict.fromkeys.loop" = true := by decide +kernel
theorem isType_dict : isType (.type "dict") = pure true := by first | rfl | kernel_rfl
theorem owner_fk : (kfb_private% "ownerAndName") "dict.fromkeys" = ("dict", "fromkeys") := by first | decide +kernel | kernel_rfl
theorem check_fk {l : Addr} : checkBoundCall "dict.fromkeys" ⟨[.type "dict", .ref l], []⟩ = pure () := by first | kernel_rfl | rfl

section
variable {prog : Program} {w : World} {M : Model} {A : Around} {E : Value → Shared → Prop} {s : Shared} {K : Frag} {h₀ : Heap} {L : Addr} {m : PySem.Str → Option Value} {news : List (Addr × Obj)}
theorem run_get_fk {P : PySem.Fin → Shared → Prop} (h : P (.done (.ret (.ref s.heap.objs.size))) { s with heap := s.heap.push boundFk }) :
    wpAny M A (Builtin.«classmethod_descriptor.__get__» ⟨[.builtin "dict.fromkeys", .none, .type "dict"], []⟩) P E s := by
  unfold Builtin.«classmethod_descriptor.__get__»
  refine wpAny_bind (wpAny_of_eq (a := (.builtin "dict.fromkeys", none, some (.type "dict"))) (by first | rfl | kernel_rfl) ?_)
  simp only [owner_fk]
  refine wpAny_bind (wpAny_of_eq (a := .type "dict") rfl ?_)
  refine wpAny_bind (wpAny_of_eq (a := true) isType_dict ?_)
  refine KFB.if_not rfl ?_
  refine wpAny_bind (wpAny_of_eq (a := true) F.kt_sub_dict ?_)
  refine KFB.if_not rfl ?_
  exact wpAny_bind (wpAny_newObj_type (wpAny_pure h))

theorem getm_fk {pl : Sem Bool} {Q : Value × List Value → Shared → Prop} (F : Fr h₀ L s.heap m) (N : News h₀ L s.heap news) (X₀ : K.In h₀)
    (e : findCls K (.type "dict") (.type "type") (PySem.Str.ofString "fromkeys") = some (.get (.builtin "classmethod_descriptor.__get__") (.builtin "dict.fromkeys") .none (.type "dict")))
    (h : ∀ x h', Fr h₀ L h' m → News h₀ L h' ((x, boundFk) :: news) → (∀ p ∈ news, p.1 < x) → Q (.ref x, []) { s with heap := h', toks := s.toks + 1 }) :
    wpAny (model prog w) A (getMethod (.type "dict") (PySem.Str.ofString "fromkeys") pl) Q E s := by
  have X := X₀.keeps F.keep
  have hstub : opaqueClassAbove (.type "dict") = pure none := by unfold opaqueClassAbove; dsimp only; rw [show Manifest.isStub "dict" = false by decide +kernel]; rfl
  have ht : typeOf (.type "dict") = pure (.type "type") := by first | rfl | kernel_rfl
  have L0 : Looks (model prog w) s.heap (typeOf (.type "dict")) (.type "type") := Looks.of_pure ht
  have hg : findIn K (.type "type") "__getattribute__" = some (some (.builtin "type.__getattribute__")) := type_tga
  unfold getMethod specialOf
  refine wpAny_bind (wpAny_bind (L0.here ((looks_findIn X hg).here ?_)))
  dsimp only
  rw [if_pos canon_tga]
  refine wpAny_bind (wpAny_mono (Q := fun v => Q (v, [])) (E := E) ?_ (fun _ _ z => wpAny_pure z) fun _ _ z => z)
  have LO : Looks (model prog w) s.heap (opaqueClassAbove (.type "dict")) none := Looks.of_pure hstub
  refine cls_open X LO L0 hg (looks_hook X (r := none) (by rfl)) (by show subIn K _ _ = _; rfl) e ?_
  show wpAny _ _ (holding [.builtin "dict.fromkeys"] (call (.builtin "classmethod_descriptor.__get__") [.builtin "dict.fromkeys", .none, .type "dict"]) >>= fun v => ret v) _ _ _
  refine wpAny_bind (wpAny_holding (wpAny_call_entry KFB.slot_get type_fk KFB.entry_get (run_get_fk ⟨_, rfl, wpAny_pure (wpAny_pure (h _ _ (F.push _) (News.push F N _) fun p hp => Heap.lt_size (N p hp).1))⟩) (KFB.args_get _ _ _)))
end
end Mine
end

section
open PySem PySem.W PyProof.Rows PySem.Calls PySem.Builtin PySem.SeqAt
set_option Elab.async false
set_option maxRecDepth 100000
set_option maxHeartbeats 8000000
namespace Mine

def nones (xs : List Str) : List (Str × Value) := xs.map fun x => (x, .none)
theorem stored_none (l : List Str) (x : Str) : stored (nones l) x .none = nones (ddS l x) := by
  unfold stored ddS nones
  by_cases h : x ∈ l
  · rw [if_pos h, if_pos (by simp [h])]
    rw [List.map_map]
    apply List.map_congr_left
    intro a _
    simp only [Function.comp]
    split <;> rfl
  · rw [if_neg h, if_neg (by
      simp only [List.any_map, List.any_eq_true, Function.comp]
      rintro ⟨y, hy, e⟩
      exact h (by rw [← of_decide_eq_true e]; exact hy))]
    simp

section
variable {prog : Program} {w : World} {E : Value → Shared → Prop}

theorem fk_loop {A : Around} (hh : A.handled = none) {l it d : Addr} {vs : List Value} {xs : List Str} (hv : StrsAre vs xs) (hn : vs.length ≤ 2 ^ 20) (hdl : d ≠ l) (hdi : d ≠ it) (hli : l ≠ it) :
    ∀ (n i : Nat) (s : Shared) (R : Result → Shared → Prop), vs.length - i = n → i ≤ vs.length → s.heap.IsListIter it l i → s.heap.IsList l vs.toArray → s.heap.DictOf (strKind prog w) d (nones (dd (xs.take i))) →
      (∀ h' tk, h'.DictOf (strKind prog w) d (nones (dd xs)) → (∀ b o, b ≠ d → b ≠ it → s.heap.get? b = some o → h'.get? b = some o) → R (.ok (.ret (.ref d))) { s with heap := h', toks := tk }) →
      codeAny (model prog w) A (.builtin "dict.fromkeys.loop" ⟨[.ref d, .ref it, .none], []⟩) R s := by
  intro n
  have hlen := PyProof.Rows.StrsAre.len_eq hv
  induction n with
  | zero =>
    intro i s R hn hi hit hl hd ret
    refine codeAny_builtin entry_fkl ?_
    rw [Around.under_plainId plain_fkl _]
    unfold Builtin.«dict.fromkeys.loop»
    dsimp only
    refine wpAny_bind (wpAny_pyNext_list_end (A := A.in1) hh hit hl (by simp; omega) fun h' he => ?_)
    refine wpAny_pure ?_
    have ei : xs.take i = xs := List.take_of_length_le (by omega)
    rw [ei] at hd
    exact ret h' s.toks (hd.extBut he hdi) fun b o _ hb e => he b o hb e
  | succ n ih =>
    intro i s R hn hi hit hl hd ret
    have hlt : i < vs.length := by omega
    refine codeAny_builtin entry_fkl ?_
    rw [Around.under_plainId plain_fkl _]
    unfold Builtin.«dict.fromkeys.loop»
    dsimp only
    obtain ⟨x, t, hx1, hx2⟩ : ∃ x t, vs[i]? = some (.str x t) ∧ xs[i]? = some x := by
      have p := StrsAre.paired hv s.heap
      obtain ⟨t, e⟩ := paired_get p i hlt (by omega)
      exact ⟨xs[i], t, by rw [List.getElem?_eq_getElem hlt, e], List.getElem?_eq_getElem (by omega)⟩
    refine wpAny_bind (wpAny_pyNext_list_item (A := A.in1) (x := .str x t) hit hl (by simpa using hx1) fun h' hit' hs' => ?_)
    dsimp only
    have hd' := hd.extBut hs'.extBut hdi
    refine wpAny_bind (wpAny_typeOf (s := { s with heap := h' }) hd'.typeIs ?_)
    rw [if_pos (by decide)]
    refine wpAny_bind ?_
    show wpAny _ _ (pure d) _ _ _
    refine wpAny_pure ?_
    refine wpAny_bind (wpAny_holding ?_)
    refine wpAny_dictSet_pairs (knd := strKind prog w) (k := x) (s := { s with heap := h' }) (by show Value.isStrOf x (.str x t) = true; simp [Value.isStrOf]) hd' (fun h'' hd'' hs'' => ?_) (by
      unfold nones; rw [List.length_map]
      have := dd_length (xs.take i)
      rw [List.length_take] at this
      unfold sizeLine; omega)
    rw [stored_none, ← dd_take hx2] at hd''
    refine wpAny_pure ⟨plainId_quiet plain_fkl _, ?_⟩
    refine ih (i + 1) _ R (by omega) (by omega) ?_ ?_ hd'' fun h3 tk hd3 hk => ?_
    · obtain ⟨o, ho, hc, hdt⟩ := hit'
      exact ⟨o, (hs''.2 _ (Ne.symm hdi)).trans ho, hc, hdt⟩
    · exact (hl.extBut hs'.extBut hli).extBut hs''.extBut (Ne.symm hdl)
    · exact ret h3 tk hd3 fun b o hb1 hb2 e => hk b o hb1 hb2 ((hs''.2 b hb1).trans (hs'.extBut b o hb2 e))

theorem fk_strs {A : Around} {s : Shared} (hh : A.handled = none) {x l : Addr} {vs : List Value} {xs : List Str} (hx : s.heap.get? x = some boundFk) (hl : s.heap.IsList l vs.toArray) (hv : StrsAre vs xs) (hn : vs.length ≤ 2 ^ 20) {Q : Value → Shared → Prop}
    (ret : ∀ d h' tk, s.heap.objs.size ≤ d → h'.DictOf (strKind prog w) d (nones (dd xs)) → Ext s.heap h' → Q (.ref d) { s with heap := h', toks := tk }) :
    wpAny (model prog w) A (call (.ref x) [.ref l]) Q E s := by
  refine wpAny_call (codeAny_of_tree ?_)
  show wpAny _ A.in1 (callAny (.ref x) ⟨[.ref l], []⟩) _ _ s
  simp only [callAny]
  refine wpAny_bind (wpAny_load hx ?_)
  simp only [boundFk, show (Value.type "builtin_function_or_method" == Value.type "method" || Value.type "builtin_function_or_method" == Value.type "builtin_function_or_method" || Value.type "builtin_function_or_method" == Value.type "method-wrapper") = true by decide, if_true]
  refine KFB.if_so (by decide) ?_
  refine wpAny_bind (wpAny_of_eq (a := ()) check_fk ?_)
  refine wpAny_bind (wpAny_pure (wpAny_pure ?_))
  refine ⟨quiet_fk, codeAny_builtin entry_fk ?_⟩
  rw [Around.under_plainId plain_fk _]
  unfold Builtin.«dict.fromkeys»
  dsimp only
  refine wpAny_bind (wpAny_of_eq (a := true) isType_dict ?_)
  refine KFB.if_not rfl ?_
  refine wpAny_bind (wpAny_of_eq (a := true) F.kt_sub_dict ?_)
  refine KFB.if_not rfl ?_
  refine KFB.if_not rfl ?_
  refine wpAny_bind (wpAny_rule (wpAny_bind (wpAny_pure ?_)))
  dsimp only
  refine wpAny_bind (call_dict_0 ?_)
  have hlt : l < s.heap.objs.size := by obtain ⟨o, e, _⟩ := hl; exact Heap.lt_size e
  have hD : (s.heap.push { cls := .type "dict", data := .dict #[] }).DictOf (strKind prog w) s.heap.objs.size [] := Heap.DictOf.new s.heap
  have hl1 : (s.heap.push { cls := .type "dict", data := .dict #[] }).IsList l vs.toArray := hl.at fun o e => Heap.get?_push_of_some _ e
  refine wpAny_holding ?_
  refine wpAny_bind (wpAny_typeOf (s := { s with heap := s.heap.push { cls := .type "dict", data := .dict #[] } }) hl1.typeIs ?_)
  refine wpAny_bind (wpAny_typeOf (s := { s with heap := s.heap.push { cls := .type "dict", data := .dict #[] } }) hD.typeIs ?_)
  refine KFB.if_not (by decide) ?_
  refine wpAny_bind (wpAny_typeOf (s := { s with heap := s.heap.push { cls := .type "dict", data := .dict #[] } }) hD.typeIs ?_)
  refine KFB.if_not (by decide) ?_
  refine wpAny_bind (wpAny_pyIter_list hl1 ?_)
  refine wpAny_pure ⟨plainId_quiet plain_fkl _, ?_⟩
  have hsz : (s.heap.push { cls := .type "dict", data := .dict #[] }).objs.size = s.heap.objs.size + 1 := Heap.size_push ..
  refine fk_loop (l := l) (vs := vs) (xs := xs) hh hv hn (Nat.ne_of_gt hlt) (by show s.heap.objs.size ≠ (s.heap.push { cls := .type "dict", data := .dict #[] }).objs.size; rw [hsz]; exact Nat.ne_of_lt (Nat.lt_succ_self _))
    (by show l ≠ (s.heap.push { cls := .type "dict", data := .dict #[] }).objs.size; rw [hsz]; exact Nat.ne_of_lt (Nat.lt_succ_of_lt hlt)) _ 0 _ _ rfl (Nat.zero_le _) ⟨_, Heap.get?_push_size _ rfl, rfl, rfl⟩ (hl1.at fun o e => Heap.get?_push_of_some _ e) (hD.push _) fun h' tk hd hk => ?_
  refine ret _ h' tk (Nat.le_refl _) hd fun b o e => ?_
  have hb := Heap.lt_size e
  refine hk b o (Nat.ne_of_lt hb) ?_ (Heap.get?_push_of_some _ (Heap.get?_push_of_some _ e))
  show b ≠ (s.heap.push { cls := .type "dict", data := .dict #[] }).objs.size
  rw [hsz]; exact Nat.ne_of_lt (Nat.lt_succ_of_lt hb)

theorem list_no_hash : typeLookup (.type "list") "__hash__" = pure (some .none) := by rw [typeLookup_type, builtinLookup_eq_fast]; kernel_rfl

theorem hash_list {A : Around} {s : Shared} (hh : A.handled = none) (hu : A.units < cLine) {a : Addr} {its : Array Value} (hl : s.heap.IsList a its) {Q : Int → Shared → Prop}
    (h : ∀ h' tk e, Heap.NewExc s.heap h' e "TypeError" → E (.ref e) { s with heap := h', toks := tk }) : wpAny (model prog w) A (pyHash (.ref a)) Q E s := by
  show wpAny _ _ (pyHashByItsType (.ref a)) _ _ _
  unfold pyHashByItsType
  refine wpAny_bind (wpAny_cRoomFor hu ?_)
  refine wpAny_bind (wpAny_specialOf hl.typeIs list_no_hash ?_)
  rw [if_pos (by decide)]
  refine wpAny_bind (wpAny_rule ?_)
  refine wpAny_bind (Q := Q) ?_
  obtain ⟨⟨c, d, dt, sl⟩, e1, e2, n, e3⟩ := hl
  simp only at e2 e3
  subst e2 e3
  unfold PySem.typeNameOf shownTypeOf
  refine wpAny_bind (wpAny_bind (wpAny_typeOf (T := "list") ⟨_, e1, rfl⟩ ?_))
  refine KFB.if_not (by decide) ?_
  refine wpAny_pure ?_
  show wpAny _ _ (pure _) _ _ _
  refine wpAny_pure ?_
  refine wpAny_bind (wpAny_raiseErrorMade ⟨ownMembersOf_TypeError, by decide +kernel⟩ hh h ?_)
  decide +kernel

theorem fk_lists {A : Around} {s : Shared} (hh : A.handled = none) (hu : A.units + 5 < cLine) {x l a : Addr} {its : Array Value} {rest : List Value} (hx : s.heap.get? x = some boundFk) (hl : s.heap.IsList l (Value.ref a :: rest).toArray) (ha : s.heap.IsList a its) {Q : Value → Shared → Prop}
    (ret : ∀ h' tk e, Heap.NewExc s.heap h' e "TypeError" → E (.ref e) { s with heap := h', toks := tk }) :
    wpAny (model prog w) A (call (.ref x) [.ref l]) Q E s := by
  refine wpAny_call (codeAny_of_tree ?_)
  show wpAny _ A.in1 (callAny (.ref x) ⟨[.ref l], []⟩) _ _ s
  simp only [callAny]
  refine wpAny_bind (wpAny_load hx ?_)
  simp only [boundFk, show (Value.type "builtin_function_or_method" == Value.type "method" || Value.type "builtin_function_or_method" == Value.type "builtin_function_or_method" || Value.type "builtin_function_or_method" == Value.type "method-wrapper") = true by decide, if_true]
  refine KFB.if_so (by decide) ?_
  refine wpAny_bind (wpAny_of_eq (a := ()) check_fk ?_)
  refine wpAny_bind (wpAny_pure (wpAny_pure ?_))
  refine ⟨quiet_fk, codeAny_builtin entry_fk ?_⟩
  rw [Around.under_plainId plain_fk _]
  unfold Builtin.«dict.fromkeys»
  dsimp only
  refine wpAny_bind (wpAny_of_eq (a := true) isType_dict ?_)
  refine KFB.if_not rfl ?_
  refine wpAny_bind (wpAny_of_eq (a := true) F.kt_sub_dict ?_)
  refine KFB.if_not rfl ?_
  refine KFB.if_not rfl ?_
  refine wpAny_bind (wpAny_rule (wpAny_bind (wpAny_pure ?_)))
  dsimp only
  refine wpAny_bind (call_dict_0 ?_)
  have hlt : l < s.heap.objs.size := by obtain ⟨o, e, _⟩ := hl; exact Heap.lt_size e
  have hD : (s.heap.push { cls := .type "dict", data := .dict #[] }).DictOf (strKind prog w) s.heap.objs.size [] := Heap.DictOf.new s.heap
  have hl1 : (s.heap.push { cls := .type "dict", data := .dict #[] }).IsList l (Value.ref a :: rest).toArray := hl.at fun o e => Heap.get?_push_of_some _ e
  refine wpAny_holding ?_
  refine wpAny_bind (wpAny_typeOf (s := { s with heap := s.heap.push { cls := .type "dict", data := .dict #[] } }) hl1.typeIs ?_)
  refine wpAny_bind (wpAny_typeOf (s := { s with heap := s.heap.push { cls := .type "dict", data := .dict #[] } }) hD.typeIs ?_)
  refine KFB.if_not (by decide) ?_
  refine wpAny_bind (wpAny_typeOf (s := { s with heap := s.heap.push { cls := .type "dict", data := .dict #[] } }) hD.typeIs ?_)
  refine KFB.if_not (by decide) ?_
  refine wpAny_bind (wpAny_pyIter_list hl1 ?_)
  refine wpAny_pure ⟨plainId_quiet plain_fkl _, ?_⟩
  have hsz : (s.heap.push { cls := .type "dict", data := .dict #[] }).objs.size = s.heap.objs.size + 1 := Heap.size_push ..
  have hdi : s.heap.objs.size ≠ (s.heap.push { cls := .type "dict", data := .dict #[] }).objs.size := by rw [hsz]; exact Nat.ne_of_lt (Nat.lt_succ_self _)
  refine codeAny_builtin entry_fkl ?_
  rw [Around.under_plainId plain_fkl _]
  unfold Builtin.«dict.fromkeys.loop»
  dsimp only
  refine wpAny_bind (wpAny_pyNext_list_item (A := A.in1) (x := .ref a) (i := 0) (l := l) ⟨_, Heap.get?_push_size _ rfl, rfl, rfl⟩ (hl1.at fun o e => Heap.get?_push_of_some _ e) rfl fun h' hit' hs' => ?_)
  dsimp only at hs' ⊢
  have hk : Ext s.heap h' := fun b o e => by
    have hb := Heap.lt_size e
    refine hs'.extBut b o ?_ (Heap.get?_push_of_some _ (Heap.get?_push_of_some _ e))
    show b ≠ (s.heap.push { cls := .type "dict", data := .dict #[] }).objs.size
    rw [hsz]; exact Nat.ne_of_lt (Nat.lt_succ_of_lt hb)
  have hd' : h'.DictOf (strKind prog w) s.heap.objs.size [] := (hD.push _).extBut hs'.extBut hdi
  refine wpAny_bind (wpAny_typeOf (s := { s with heap := h' }) hd'.typeIs ?_)
  rw [if_pos (by decide)]
  refine wpAny_bind ?_
  show wpAny _ _ (pure s.heap.objs.size) _ _ _
  refine wpAny_pure ?_
  refine wpAny_bind (wpAny_holding ?_)
  unfold dictSet
  refine wpAny_holding ?_
  refine wpAny_bind (hash_list (A := A.in1) hh (by show A.units + 1 < _; omega) (ha.at fun o e => hk _ o e) fun h'' tk e hx => ?_)
  refine ret h'' tk e ⟨fun b o e => hx.keeps b o (hk b o e), ?_, hx.there⟩
  cases e' : s.heap.get? e with
  | none => rfl
  | some o => have := hx.new; rw [hk _ _ e'] at this; cases this
end
end Mine
end

section
open PySem PySem.W PyProof.Rows PySem.Calls PySem.Builtin PySem.SeqAt
set_option Elab.async false
set_option maxRecDepth 100000
set_option maxHeartbeats 8000000
set_option pp.deepTerms false
set_option pp.maxSteps 30000
namespace Mine

theorem binds_kwd {s : Shared} {l : Addr} {name qual : Str} {params : Arguments} {body : List Stmt} {scope : Scope} {doc pm cdv ct : Value} {an : Option Addr} {hv : Int}
    (ho : s.heap.get? 32 = some { cls := .type "dict", data := .dict #[{ hash := hv, key := .str (Str.ofString "unhashable_fallback") 284, val := .bool false }] 1 })
    (hp : params = { posonlyargs := [], args := [{ arg := Str.ofString "params", annotation := none, pos := ⟨3, 17, 3, 23⟩ }], vararg := none, kwonlyargs := [{ arg := Str.ofString "unhashable_fallback", annotation := none, pos := ⟨3, 28, 3, 47⟩ }], kw_defaults := [some (.Constant (.bool false) 0 ⟨3, 48, 3, 53⟩)], kwarg := none, defaults := [] }) :
    BindsTo s (fnOf name qual params body scope .none (.ref 32) doc pm an cdv ct) ⟨[.ref l], []⟩ [(Str.ofString "params", .ref l), (Str.ofString "unhashable_fallback", .bool false)] := by
  subst hp
  intro M A E Q hq
  unfold bindArgs
  dsimp only [List.map_cons, List.map_nil, List.nil_append, List.zip_cons_cons, List.zip_nil_right]
  wp_walk
  exact hq

section
variable {M : Model} {A : Around} {E : Value → Shared → Prop} {s : Shared}
theorem callWith_fields_fk {pos : Pos} {u : Addr} {first : List Value} {args : List (Bool × Sem Value)} {Q : Value → Shared → Prop} (hplain : args.any (·.1) = false)
    (h : wpAny M A (evalArgs (.ref u) true args []) (fun x s₁ => s₁.heap.get? u = some boundFk ∧ wpAny M A (call (.ref u) (first ++ x.pos) x.kw) Q E s₁) E s) : wpAny M A (callWith pos (.ref u) first args []) Q E s := by
  unfold callWith
  refine wpAny_bind (wpAny_holding (wpAny_mono h (fun x s₁ h₁ => wpAny_bind (wpAny_standAt ?_)) fun _ _ x => x))
  obtain ⟨ho, hcall⟩ := h₁
  simp only [hplain, List.any_nil, Bool.or_false]
  refine wpAny_bind (m := keeperOf (.ref u)) ?_
  unfold keeperOf
  refine wpAny_bind (wpAny_load ho ?_)
  simp only [boundFk, show (Value.type "builtin_function_or_method" != Value.type "method") = true by decide, show (Value.type "builtin_function_or_method" == Value.type "builtin_function_or_method" || Value.type "builtin_function_or_method" == Value.type "method-wrapper") = true by decide, if_true]
  refine wpAny_pure ?_
  exact wpAny_bind (wpAny_mono hcall (fun r s₂ hr => wpAny_bind (wpAny_holding (wpAny_point (wpAny_pure hr)))) fun _ _ x => x)
theorem callWith_fk {pos : Pos} {u : Addr} {first : List Value} {env : Env} {e : Expr} {rest : List Expr} {Q : Value → Shared → Prop}
    (h : wpAny M A (spliced (backTo pos (starEach (e :: rest) env))) (fun vs s₁ => s₁.heap.get? u = some boundFk ∧ wpAny M A (call (.ref u) (first ++ vs)) Q E s₁) E s)
    (he : starEach (e :: rest) env = (false, eval e env) :: starEach rest env := by rfl) (hplain : (backTo pos (starEach rest env)).any (·.1) = false := by rfl) :
    wpAny M A (callWith pos (.ref u) first (backTo pos (starEach (e :: rest) env)) []) Q E s := by
  rw [he] at h ⊢
  refine callWith_fields_fk (by show (false || (backTo pos (starEach rest env)).any (·.1)) = false; rw [hplain]; rfl) ?_
  exact evalArgs_plain h
end

def Kw (kw : List (Str × Value)) (b : Bool) : Prop := (kw = [] ∧ b = false) ∨ (kw = [(Str.ofString "unhashable_fallback", .bool true)] ∧ b = true)

theorem dedup_strs {w : World} {A : Around} {s : Shared} (C : Site w 5 A s.heap) {kw : List (Str × Value)} {b : Bool} (hkw : Kw kw b) {l : Addr} {vs : List Value} {xs : List Str} (hl : s.heap.IsList l vs.toArray) (hv : StrsAre vs xs) (hn : vs.length ≤ 2 ^ 12) {Q E : Value → Shared → Prop}
    (ret : ∀ d h' tk, s.heap.objs.size ≤ d → h'.DictOf (strKind PySem.Challenge.rw_nb0028_01.row.prog w) d (nones (dd xs)) → Ext s.heap h' → Q (.ref d) { s with heap := h', toks := tk }) :
    wpAny (model PySem.Challenge.rw_nb0028_01.row.prog w) A (call (.ref 39) [.ref l] kw) Q E s := by
  obtain ⟨⟨base, outer, mean, mg, mb, B, X, T⟩, hq, hdp, hun⟩ := C
  obtain ⟨hh, dp, fr, gd, un⟩ := A
  obtain rfl : hh = none := hq
  obtain rfl : fr = some outer := B.stack
  revert X; k_fill; intro X
  refine wpAny_call ?_
  refine' enter (A := ⟨none, dp, some outer, gd, un⟩) (binds := [(Str.ofString "params", .ref l), (Str.ofString "unhashable_fallback", .bool b)]) X T ?k6 ?k7 ?k8 ?k9 ?kB ?_ ?c2 ?c3 ?c4 ?c5
  case k6 => k_is
  case k7 => k_is
  case k8 => show dp < recursionLimit; have h1 : dp + 5 < recursionLimit := hdp; omega
  case k9 =>
    rcases hkw with ⟨rfl, rfl⟩ | ⟨rfl, rfl⟩
    · exact binds_kwd (X 32 _ (by k_is)) rfl
    · exact BindsTo.of_eq rfl
  case kB => exact locs rfl
  case c2 => exact rfl
  case c3 => exact rfl
  case c4 => exact rfl
  case c5 => decide
  intro L h₁ F N
  try dsimp only
  (try k_fold)
  iterate 7 (first | walk1 | (dsimp only; walk1))
  refine getm_fk (by k_asm) (by k_asm) (by k_asm) (by k_is) fun x h2 F2 N2 _ => ?_
  dsimp only
  refine callWith_fk ?_
  iterate 3 (first | walk1 | (dsimp only; walk1))
  refine ⟨N2.get (.head _), ?_⟩
  refine fk_strs rfl (N2.get (.head _)) (hl.at fun o e => F2.keep _ _ e) hv (by omega) fun d h3 tk hd3 hD hk => ?_
  dsimp only
  show Q (.ref d) _
  refine ret d h3 tk ?_ hD fun b o e => hk b o (F2.keep b o e)
  exact Nat.le_trans F2.above (Nat.le_trans (Nat.le_of_lt F2.ns.lt) hd3)

end Mine
end

section
open PySem PySem.W PyProof.Rows PySem.Calls PySem.Builtin PySem.SeqAt
set_option Elab.async false
set_option maxRecDepth 100000
set_option maxHeartbeats 8000000
namespace Mine

abbrev frA (l : List Env) : List Addr := l.filterMap (·.frame)

/-- the same but for the slots of some objects -/
structure UpF (fr : List Addr) (h h' : Heap) : Prop where
  off : ∀ b o, b ∉ fr → h.get? b = some o → h'.get? b = some o
  up : ∀ b o, h.get? b = some o → ∃ sl, h'.get? b = some { o with slots := sl }
theorem UpF.refl (fr : List Addr) (h : Heap) : UpF fr h h := ⟨fun _ _ _ e => e, fun _ o e => ⟨o.slots, e⟩⟩
theorem UpF.of_ext {fr : List Addr} {h h' : Heap} (hk : Ext h h') : UpF fr h h' := ⟨fun b o _ e => hk b o e, fun b o e => ⟨o.slots, hk b o e⟩⟩
theorem UpF.trans {fr : List Addr} {a b c : Heap} (x : UpF fr a b) (y : UpF fr b c) : UpF fr a c :=
  ⟨fun i o hi e => y.off i o hi (x.off i o hi e), fun i o e => by obtain ⟨sl, e1⟩ := x.up i o e; obtain ⟨sl', e2⟩ := y.up i _ e1; exact ⟨sl', e2⟩⟩
theorem UpF.mono {fr fr' : List Addr} {h h' : Heap} (x : UpF fr h h') (hs : ∀ b ∈ fr, b ∈ fr') : UpF fr' h h' := ⟨fun b o hb e => x.off b o (fun hm => hb (hs b hm)) e, x.up⟩
theorem UpF.data {fr : List Addr} {h h' : Heap} (x : UpF fr h h') {b : Addr} {o : Obj} (e : h.get? b = some o) : ∃ o', h'.get? b = some o' ∧ o'.data = o.data ∧ o'.cls = o.cls := by
  obtain ⟨sl, e1⟩ := x.up b o e; exact ⟨_, e1, rfl, rfl⟩
theorem UpF.isList {fr : List Addr} {h h' : Heap} (x : UpF fr h h') {b : Addr} {items : Array Value} (hl : h.IsList b items) : h'.IsList b items := by
  obtain ⟨o, e, hc, n, hd⟩ := hl
  obtain ⟨o', e', hd', hc'⟩ := x.data e
  exact ⟨o', e', hc'.trans hc, n, hd'.trans hd⟩
theorem UpF.ns {fr : List Addr} {h h' : Heap} (x : UpF fr h h') {b : Addr} {m : Str → Option Value} (hn : h.Ns b m) : h'.Ns b m := by
  obtain ⟨o, es, ep, e, hd, r⟩ := hn
  obtain ⟨o', e', hd', _⟩ := x.data e
  exact ⟨o', es, ep, e', hd'.trans hd, r⟩
theorem UpF.frames {fr : List Addr} {h h' base : Heap} (x : UpF fr h h') {l : List Env} (hl : h.FunFrames base l) : h'.FunFrames base l :=
  hl.of_keeps fun b o e _ => by obtain ⟨o', e', hd', _⟩ := x.data e; exact ⟨o', e', hd'⟩
theorem UpF.base {h h' base : Heap} {l : List Env} (x : UpF (frA l) h h') (hl : h.FunFrames base l) (hb : base.StaysIn h) : base.StaysIn h' := fun b o e =>
  x.off b o (fun hm => by rw [(hl.mem hm).1] at e; cases e) (hb b o e)

/-- a raised exception that is noted, its place T -/
structure HeldE (h : Heap) (e T : Addr) (X : String) (fl : Value) : Prop where
  exc : ∃ oe ws, h.get? e = some oe ∧ oe.cls = .type X ∧ oe.data = .fields ws ∧ ws[1]? = some (.ref T) ∧ ws[2]? = some .none
  tb : ∃ oT ts, h.get? T = some oT ∧ oT.data = .fields ts ∧ ts[3]? = some fl
  ne : T ≠ e

section
variable {prog : Program} {w : World} {A : Around} {E : Value → Shared → Prop} {s : Shared}

theorem note_new {base h : Heap} {env : Env} {outer : List Env} {L e : Addr} {X : String} {Q : Unit → Shared → Prop}
    (hfr : A.frames = some (env :: outer)) (hl : h.FunFrames base (env :: outer)) (hf : env.frame = some L) (hx : Heap.NewExc h s.heap e X)
    (k : ∀ h' T, UpF (frA (env :: outer)) h h' → HeldE h' e T X (rawInt L) → h.get? T = none → Q () { s with heap := h' }) : wpAny (model prog w) A (noteFrame (.ref e) env) Q E s := by
  obtain ⟨ob, tp, he, hcls, hd⟩ := hx.there
  have hl' : s.heap.FunFrames base (env :: outer) := hl.of_keeps fun b o eb _ => ⟨o, hx.keeps b o eb, rfl⟩
  have hene : e ∉ frA (env :: outer) := fun hm => by
    obtain ⟨_, o, ho, _⟩ := hl.mem hm
    rw [hx.new] at ho; cases ho
  unfold noteFrame
  rw [hf]
  dsimp only
  refine wpAny_bind (wpAny_field he hd (x := .none) rfl ?_)
  rw [if_neg (by decide)]
  refine wpAny_bind (wpAny_frameOf_fun hfr hl' hf fun h₁ hs₁ => ?_)
  refine wpAny_bind (wpAny_entryPlaceOf fun pl hpl => ?_)
  unfold EntryCells.newEntry newFields
  refine wpAny_bind (wpAny_newObj_type ?_ (hpl.sizeOk5 _ _ _ _ _))
  have he₁ : h₁.get? e = some ob := (hs₁.2.1 e hene).trans he
  have he₂ := Heap.get?_push_of_some (h := h₁) { cls := .type "traceback", dict := none, data := .fields ([Value.none, .ref L, .none, rawInt L, .none] ++ (if pl.isEmpty then List.replicate 6 Value.none else pl)).toArray } he₁
  refine wpAny_setField he₂ hd (by show 1 < 6; decide) ?_
  have hTe : h₁.objs.size ≠ e := Nat.ne_of_gt (Heap.lt_size he₁)
  have hd₃ := Obj.data_mapFields hd (·.setIfInBounds 1 (Value.ref h₁.objs.size))
  have he₃ := Heap.get?_update_self (Obj.mapFields (·.setIfInBounds 1 (Value.ref h₁.objs.size))) he₂ (Obj.isFreed_of_fields hd₃)
  have hT₃ := (Heap.get?_update_other (h₁.push { cls := .type "traceback", dict := none, data := .fields ([Value.none, .ref L, .none, rawInt L, .none] ++ (if pl.isEmpty then List.replicate 6 Value.none else pl)).toArray })
    (Obj.mapFields (·.setIfInBounds 1 (Value.ref h₁.objs.size))) (Ne.symm hTe)).trans (Heap.get?_push_size h₁ rfl)
  have keep : ∀ b o, b ≠ e → h₁.get? b = some o → (((h₁.push { cls := .type "traceback", dict := none, data := .fields ([Value.none, .ref L, .none, rawInt L, .none] ++ (if pl.isEmpty then List.replicate 6 Value.none else pl)).toArray }).update e (Obj.mapFields (·.setIfInBounds 1 (Value.ref h₁.objs.size))))).get? b = some o := fun b o hbe hb => by
    rw [Heap.get?_update_other _ _ (Ne.symm hbe)]
    exact Heap.get?_push_of_some _ hb
  have hne : ∀ b o, h.get? b = some o → b ≠ e := fun b o eb q => by rw [q, hx.new] at eb; cases eb
  refine k _ h₁.objs.size ⟨fun b o hb eb => keep b o (hne b o eb) ((hs₁.2.1 b hb).trans (hx.keeps b o eb)), fun b o eb => ?_⟩ ⟨⟨_, _, he₃, (Obj.cls_mapFields _ _).trans hcls, hd₃, ?_, ?_⟩, ⟨_, _, hT₃, rfl, ?_⟩, hTe⟩ ?_
  · obtain ⟨sl, es⟩ := hs₁.2.2 b o (hx.keeps b o eb)
    exact ⟨sl, keep b _ (hne b o eb) es⟩
  · simp
  · simp
  · simp
  · cases eb : h.get? h₁.objs.size with
    | none => rfl
    | some o =>
      obtain ⟨sl, es⟩ := hs₁.2.2 _ o (hx.keeps _ o eb)
      exact absurd (Heap.lt_size es) (Nat.lt_irrefl _)

theorem flight_none {h : Heap} {fr : List Addr} {e T : Addr} {X : String} {fl : Value} {Q : Unit → Shared → Prop} (U : UpF fr h s.heap) (H : HeldE s.heap e T X fl) (hT : h.get? T = none)
    (k : ∀ h', UpF fr h h' → HeldE h' e T X .none → Q () { s with heap := h' }) : wpAny (model prog w) A (setFlight (.ref e) none) Q E s := by
  obtain ⟨⟨oe, ws, he, hc, hd, h1, h2⟩, ⟨oT, ts, ht, htd, h3⟩, hne⟩ := H
  have hsz : 3 < ts.size := (Array.getElem?_eq_some_iff.mp h3).1
  have hTn : ∀ b o, h.get? b = some o → b ≠ T := fun b o eb q => by rw [q, hT] at eb; cases eb
  have hd₃ := Obj.data_mapFields htd (·.setIfInBounds 3 Value.none)
  refine wpAny_setFlight_none he hd h1 ht htd hsz (k _ ⟨fun b o hb eb => (Heap.get?_update_ne _ _ _ _ (hTn b o eb)).trans (U.off b o hb eb), fun b o eb => ?_⟩ ⟨⟨oe, ws, (Heap.get?_update_ne _ _ _ _ (Ne.symm hne)).trans he, hc, hd, h1, h2⟩, ⟨_, _, Heap.get?_update_self _ ht (Obj.isFreed_of_fields hd₃), hd₃, ?_⟩, hne⟩)
  · obtain ⟨sl, es⟩ := U.up b o eb
    exact ⟨sl, (Heap.get?_update_ne _ _ _ _ (hTn b o eb)).trans es⟩
  · simp [hsz]

theorem caught_new {base h : Heap} {env : Env} {outer : List Env} {L e : Addr} {X X' : String} {x : Str} {np pos : Pos} {b₀ : Stmt} {suite : List Stmt} {rest : List ExceptHandler} {Q : Flow → Shared → Prop}
    (hfr : A.frames = some (env :: outer)) (hl : h.FunFrames base (env :: outer)) (hf : env.frame = some L) (hx : Heap.NewExc h s.heap e X)
    (h1 : isSubtype (.type X') (.type "BaseException") = pure true) (h2 : isSubtype (.type ((Manifest.find? X').elim "type" fun x => x.metatype)) (.type "tuple") = pure false) (h3 : isSubtype (.type X) (.type X') = pure true)
    (hcls : ∀ (A' : Around) (E' : Value → Shared → Prop) (h' : Heap) (Q' : Value → Shared → Prop), UpF (frA (env :: outer)) h h' → Q' (.type X') { s with heap := h' } → wpAny (model prog w) A' (eval (.Name x np) env) Q' E' { s with heap := h' })
    (k : ∀ h' T, UpF (frA (env :: outer)) h h' → HeldE h' e T X .none → h.get? e = none → h.get? T = none →
      wpAny (model prog w) (A.mark (some (.ref e))) (execs (b₀ :: suite) env) Q (notedBy (model prog w) (A.mark (some (.ref e))) env (cameBackBy (model prog w) A env E)) { s with heap := h' }) :
    wpAny (model prog w) A (noteFrame (.ref e) env) (fun _ s₂ => wpAny (model prog w) A (setFlight (.ref e) none) (fun _ s₃ =>
      wpAny (model prog w) A (handleBy (.ref e) env (.ExceptHandler (some (.Name x np)) none (b₀ :: suite) pos :: rest)) Q E s₃) E s₂) E s := by
  refine note_new hfr hl hf hx fun h₁ T U₁ H₁ hT => ?_
  refine flight_none (s := { s with heap := h₁ }) U₁ H₁ hT fun h₂ U₂ H₂ => ?_
  refine wpAny_handleBy_builtin (X := X) (T := X') (b := true) h1 h2 h3 (hcls _ _ h₂ _ U₂ ⟨rfl, ?_, ?_⟩)
  · obtain ⟨oe, ws, he, hc, _⟩ := H₂.exc; exact ⟨oe, he, hc⟩
  · rw [if_pos rfl]
    exact flight_none (s := { s with heap := h₂ }) U₂ H₂ hT fun h₃ U₃ H₃ => k h₃ T U₃ H₃ hx.new hT
end
end Mine
end

section
open PySem PySem.W PyProof.Rows PySem.Calls PySem.Builtin PySem.SeqAt
set_option Elab.async false
set_option maxRecDepth 100000
set_option maxHeartbeats 8000000
namespace Mine
theorem ownMembersOf_ValueError (args : List Value) : ownMembersOf (.type "ValueError") args = #[] := by
  unfold ownMembersOf
  split <;> first | rfl | (rename_i h; revert h; decide) | simp_all

theorem erase_at {δ : Type} [DecidableEq δ] : ∀ (ds : List δ) (i : Nat) (d : δ), ds[i]? = some d → (∀ j, j < i → ds[j]? ≠ some d) → ds.erase d = ds.eraseIdx i
  | [], i, d, h, _ => by simp at h
  | x :: r, 0, d, h, _ => by simp at h; subst h; simp
  | x :: r, i + 1, d, h, hb => by
    have h0 : ¬ x = d := fun e => hb 0 (by omega) (by simp [e])
    rw [List.erase_cons_tail (by simpa using h0), List.eraseIdx_cons_succ, erase_at r i d (by simpa using h) (fun j hj => by have := hb (j + 1) (by omega); simpa using this)]
theorem paired_eraseIdx {α β : Type} {F : α → β → Prop} : ∀ {l₁ : List α} {l₂ : List β} (_ : Paired F l₁ l₂) (i : Nat), Paired F (l₁.eraseIdx i) (l₂.eraseIdx i)
  | _, _, .nil, _ => by simpa using Paired.nil
  | _, _, .cons h t, 0 => by simpa using t
  | _, _, .cons h t, i + 1 => by simpa using Paired.cons h (paired_eraseIdx t i)

section
variable {δ : Type} [DecidableEq δ] {c : Nat} {K : Heap → Value → δ → Prop} {prog : Program} {w : World} {A : Around} {E : Value → Shared → Prop} {s : Shared}

theorem remove_loop (hK : Key c K) (hh : A.handled = none) (hu : A.units + (c + 2) < cLine) {T : Addr} {ws : List Value} {n : Nat} {ds : List δ} {v : Value} {d : δ} {h₀ : Heap} (h0 : Ext h₀ s.heap)
    (hT : s.heap.get? T = some { cls := .type "list", data := .seq ws.toArray n }) (hsz : ws.length ≤ 2 ^ 20) (p : Paired (K h₀) ws ds) (hv : K h₀ v d) {R : Result → Shared → Prop}
    (yes : ∀ h' ws' n', d ∈ ds → h'.get? T = some { cls := .type "list", data := .seq ws'.toArray n' } → Paired (K h₀) ws' (ds.erase d) → Heap.SameBut T s.heap h' → R (.ok (.ret .none)) { s with heap := h' })
    (no : ∀ h' tk e, d ∉ ds → Heap.NewExc s.heap h' e "ValueError" → R (.error (.ref e)) { s with heap := h', toks := tk }) :
    ∀ k i, ws.length - i = k → i ≤ ws.length → (∀ j, j < i → ds[j]? ≠ some d) →
      codeAny (model prog w) A (.builtin "list.remove.loop" ⟨[.ref T, v, rawInt i], []⟩) R s := by
  have hlen := p.length
  intro k
  induction k with
  | zero =>
    intro i hk hi hb
    refine codeAny_builtin PySem.MeetsSeq.entry_remove_loop ?_
    rw [Around.under_plainId PySem.MeetsSeq.plain_remove_loop _]
    unfold Builtin.«list.remove.loop»
    dsimp only
    refine wpAny_bind (listItems_at hT rfl ?_)
    have e : ws.toArray[((i : Nat) : Int).toNat]? = none := by simp; omega
    have e' : (ws.toArray[(Int.toNat ((i : Nat) : Int))]? : Option Value) = none := e
    rw [e']
    refine wpAny_bind (wpAny_rule ?_)
    refine wpAny_raiseErrorWords (A := A.in1) ⟨ownMembersOf_ValueError, by decide +kernel⟩ hh fun h' tk e hx => no h' tk e (fun hm => ?_) hx
    obtain ⟨j, hj⟩ := List.mem_iff_getElem?.mp hm
    refine hb j ?_ hj
    have := (List.getElem?_eq_some_iff.mp hj).1
    omega
  | succ k ih =>
    intro i hk hi hb
    refine codeAny_builtin PySem.MeetsSeq.entry_remove_loop ?_
    rw [Around.under_plainId PySem.MeetsSeq.plain_remove_loop _]
    unfold Builtin.«list.remove.loop»
    dsimp only
    have hlt : i < ws.length := by omega
    refine wpAny_bind (listItems_at hT rfl ?_)
    have e' : (ws.toArray[(Int.toNat ((i : Nat) : Int))]? : Option Value) = some ws[i] := by simp [hlt]
    rw [e']
    dsimp only
    have hKi := paired_get p i hlt (by omega)
    refine wpAny_bind (hK.eq A.in1 s ws[i] v (ds[i]'(by omega)) d (by show A.units + 1 + c < _; omega) (hK.ext _ _ _ _ h0 hKi) (hK.ext _ _ _ _ h0 hv) prog w _ _ ?_)
    by_cases hd : ds[i]'(by omega) = d
    · rw [decide_eq_true hd, if_pos rfl]
      refine wpAny_bind (listUpdate_at hT rfl ?_ ?_ ?_)
      · refine wpAny_pure ?_
        have hget : ds[i]? = some d := by rw [List.getElem?_eq_getElem (by omega), hd]
        have e2 : (ws.eraseIdx i).toArray = ws.toArray.eraseIdxIfInBounds (Int.toNat ((i : Nat) : Int)) := by simp
        have e3 := Heap.get?_update_self (Obj.mapSeq fun x => x.eraseIdxIfInBounds (Int.toNat ((i : Nat) : Int))) hT rfl
        have e4 : (s.heap.update T (Obj.mapSeq fun x => x.eraseIdxIfInBounds (Int.toNat ((i : Nat) : Int)))).get? T = some { cls := .type "list", data := .seq (ws.eraseIdx i).toArray (if (ws.toArray.eraseIdxIfInBounds (Int.toNat ((i : Nat) : Int))).size == ws.toArray.size then n else n + 1) } := by
          rw [e2]; exact e3
        refine yes _ (ws.eraseIdx i) _ (List.mem_of_getElem? hget) e4 (by rw [erase_at ds i d hget hb]; exact paired_eraseIdx p i) (Heap.SameBut.update ..)
      · simp only [List.size_toArray]; unfold sizeLine; omega
      · have e2 : ws.toArray.eraseIdxIfInBounds (Int.toNat ((i : Nat) : Int)) = (ws.eraseIdx i).toArray := by simp
        show (ws.toArray.eraseIdxIfInBounds (Int.toNat ((i : Nat) : Int))).size ≤ _
        rw [e2, List.size_toArray]
        have := List.length_eraseIdx_le ws i
        unfold sizeLine; omega
    · rw [decide_eq_false hd, if_neg Bool.false_ne_true]
      refine wpAny_pure ⟨plainId_quiet PySem.MeetsSeq.plain_remove_loop _, ?_⟩
      have hc : ((i : Int) + 1) = ((i + 1 : Nat) : Int) := by push_cast; rfl
      rw [hc]
      refine ih (i + 1) (by omega) (by omega) fun j hj => ?_
      by_cases hji : j = i
      · subst hji; rw [List.getElem?_eq_getElem (by omega)]; intro h9; exact hd (Option.some.inj h9)
      · exact hb j (by omega)

theorem remove_call (hK : Key c K) (hh : A.handled = none) (hu : A.units + (c + 2) < cLine) {T : Addr} {ws : List Value} {n : Nat} {ds : List δ} {v : Value} {d : δ} {h₀ : Heap} (h0 : Ext h₀ s.heap)
    (hT : s.heap.get? T = some { cls := .type "list", data := .seq ws.toArray n }) (hsz : ws.length ≤ 2 ^ 20) (p : Paired (K h₀) ws ds) (hv : K h₀ v d) {Q : Value → Shared → Prop}
    (yes : ∀ h' ws' n', d ∈ ds → h'.get? T = some { cls := .type "list", data := .seq ws'.toArray n' } → Paired (K h₀) ws' (ds.erase d) → Heap.SameBut T s.heap h' → Q .none { s with heap := h' })
    (no : ∀ h' tk e, d ∉ ds → Heap.NewExc s.heap h' e "ValueError" → E (.ref e) { s with heap := h', toks := tk }) :
    wpAny (model prog w) A (call (.builtin "list.remove") [.ref T, v]) Q E s := by
  have hTy : s.TypeIs (.ref T) "list" := ⟨_, hT, rfl⟩
  refine wpAny_call (codeAny_call_builtin F.slot_list_remove.plain F.entry_list_remove (F.slot_list_remove.check _ _ _ _ _ _ _ _ hTy (F.args_list_remove_2 _ _) ?_))
  unfold Builtin.«list.remove»
  refine wpAny_bind ?_
  show wpAny _ _ (pure (Value.ref T, v)) _ _ _
  refine wpAny_pure ?_
  refine wpAny_pure ⟨plainId_quiet PySem.MeetsSeq.plain_remove_loop _, ?_⟩
  exact remove_loop hK hh hu h0 hT hsz p hv (R := fun r s' => match r with | .ok (.ret v) => Q v s' | .ok _ => False | .error e => E e s') yes no _ 0 rfl (Nat.zero_le _) (fun j hj => absurd hj (Nat.not_lt_zero _))
end
end Mine
end

section
open PySem PySem.W PyProof.Rows PySem.Calls PySem.Builtin PySem.SeqAt
set_option Elab.async false
set_option maxRecDepth 100000
set_option maxHeartbeats 8000000
set_option pp.deepTerms false
set_option pp.maxSteps 30000
namespace Mine

structure SiteE (w : World) (n : Nat) (A : Around) (h : Heap) : Prop where
  at_ : ∃ base outer mean mg mb, Below A base outer h ∧ (hd.heap_39 w.params).In base ∧
    Top hd.view_39 (looseW hd.view_39 [Str.ofString "_deduplicate", Str.ofString "_twin_re_1", Str.ofString "_twin_re_2"]) mean mg mb base
  quiet : A.handled = none
  depth : A.depth + n < recursionLimit
  units : A.units + 100 + 4 * n < cLine
theorem SiteE.site {w : World} {n : Nat} {A : Around} {h : Heap} (C : SiteE w n A h) : Site w n A h := by
  obtain ⟨⟨base, outer, mean, mg, mb, B, X, T⟩, h1, h2, h3⟩ := C
  exact ⟨⟨base, outer, mean, mg, mb, B, X.keeps B.stays, T.keeps B.stays⟩, h1, h2, h3⟩
theorem SiteE.less {w : World} {n k : Nat} {A : Around} {h : Heap} (C : SiteE w n A h) (hk : k ≤ n) : SiteE w k A h :=
  ⟨C.at_, C.quiet, by have := C.depth; omega, by have := C.units; omega⟩
theorem SiteE.upF {w : World} {n : Nat} {A : Around} {h h' : Heap} {fr : List Addr} (C : SiteE w n A h) (U : ∀ outer, A.frames = some outer → UpF (frA outer) h h') : SiteE w n A h' := by
  obtain ⟨⟨base, outer, mean, mg, mb, B, X, T⟩, h1, h2, h3⟩ := C
  have U' := U outer B.stack
  exact ⟨⟨base, outer, mean, mg, mb, ⟨B.stack, U'.base B.frames B.stays, U'.frames B.frames⟩, X, T⟩, h1, h2, h3⟩

theorem gone_size (h : Heap) : ∀ l : List Addr, (TI.gone h l).objs.size = h.objs.size
  | [] => rfl
  | a :: l => by show ((TI.gone h l).update a _).objs.size = _; rw [Heap.size_update, gone_size h l]

/-- what a frame knows behind a turn of slots -/
theorem fr_up {h₀ h h' : Heap} {L : Addr} {fr : List Addr} {m : Str → Option Value} (F : Fr h₀ L h m) (U : UpF (L :: fr) h h') : Fr (TI.gone h₀ fr) L h' m :=
  ⟨U.ns F.ns, fun b o e => by
    obtain ⟨hb, e0⟩ := TI.gone_some e
    refine U.off b o (fun hm => ?_) (F.keep b o e0)
    rcases List.mem_cons.mp hm with q | hm
    · exact absurd (Nat.lt_of_lt_of_le (Heap.lt_size e0) F.above) (by rw [q]; exact Nat.lt_irrefl _)
    · exact hb hm, by rw [gone_size]; exact F.above⟩

theorem up_back {h₀ h h' : Heap} {L : Addr} {fr : List Addr} {m : Str → Option Value} (F : Fr h₀ L h m) (U : UpF (L :: fr) h h') : UpF fr h₀ h' :=
  ⟨fun b o hb e => U.off b o (fun hm => by
    rcases List.mem_cons.mp hm with q | hm
    · exact absurd (Nat.lt_of_lt_of_le (Heap.lt_size e) F.above) (by rw [q]; exact Nat.lt_irrefl _)
    · exact hb hm) (F.keep b o e), fun b o e => U.up b o (F.keep b o e)⟩

theorem base_gone {base h : Heap} {l : List Env} (hl : h.FunFrames base l) (hb : base.StaysIn h) : ∀ b o, base.get? b = some o → (TI.gone h (frA l)).get? b = some o := fun b o e => by
  rw [TI.gone_get (fun hm => by rw [(hl.mem hm).1] at e; cases e)]; exact hb b o e

def rem {δ : Type} [DecidableEq δ] : List δ → List δ → Option (List δ)
  | [], t => some t
  | a :: r, t => if a ∈ t then rem r (t.erase a) else none
theorem rem_append {δ : Type} [DecidableEq δ] : ∀ (a : List δ) (d : δ) (t : List δ), rem (a ++ [d]) t = (rem a t).bind fun u => if d ∈ u then some (u.erase d) else none
  | [], d, t => by simp [rem]
  | x :: r, d, t => by
    simp only [List.cons_append, rem]
    split
    · exact rem_append r d _
    · rfl
theorem rem_none_append {δ : Type} [DecidableEq δ] : ∀ (a b : List δ) (t : List δ), rem a t = none → rem (a ++ b) t = none
  | [], b, t, h => by simp [rem] at h
  | x :: r, b, t, h => by
    simp only [List.cons_append, rem] at h ⊢
    split
    · rename_i hx; rw [if_pos hx] at h; exact rem_none_append r b _ h
    · rfl

theorem rem_length {δ : Type} [DecidableEq δ] : ∀ (a t u : List δ), rem a t = some u → u.length ≤ t.length
  | [], t, u, h => by simp [rem] at h; subst h; exact Nat.le_refl _
  | x :: r, t, u, h => by
    simp only [rem] at h
    split at h
    · have := rem_length r _ _ h
      have h2 := List.length_erase_le (a := x) (l := t)
      omega
    · cases h
section
variable {δ : Type} [DecidableEq δ] {c : Nat} {K : Heap → Value → δ → Prop} {w : World} {E : Value → Shared → Prop} {s : Shared} {dp un : Nat} {gd : Option (List Code)} {outer : List Env} {base h₀ : Heap} {mean : ExcName → Option Value} {mg mb m : Str → Option Value}
  {L f : Addr} {qual : Str} {scope : Scope} {cdv : Value} {news : List (Addr × Obj)} {Q : Value → Shared → Prop}

theorem dedupU_K (hK : Key c K) (hc : c ≤ 9) (B : Below ⟨none, dp, some outer, gd, un⟩ base outer h₀) (X : (hd.heap_39 w.params).In h₀)
    (T : Top hd.view_39 (looseW hd.view_39 [Str.ofString "_deduplicate", Str.ofString "_twin_re_1", Str.ofString "_twin_re_2"]) mean mg mb h₀) (hdp : dp + 5 < recursionLimit) (hun : un + 100 + 4 * 5 < cLine)
    (F : Fr h₀ L s.heap m) (N : News h₀ L s.heap news) {l : Addr} {vs : List Value} {ds : List δ} (hl : h₀.IsList l vs.toArray) (hp : Paired (K h₀) vs ds) (hn : vs.length ≤ 2 ^ 12)
    (h : ∀ D ws n h' tk, Paired (K h₀) ws (dd ds) → Fr h₀ L h' m → News h₀ L h' ((D, ({ cls := .type "list", data := .seq ws.toArray n } : Obj)) :: news) → (∀ p ∈ news, p.1 ≠ D) → Q (.ref D) { s with heap := h', toks := tk })
    (hk : scope.kind = .function := by rfl) :
    wpAny (model PySem.Challenge.rw_nb0028_01.row.prog w) (Around.deeper ⟨none, dp, some outer, gd, un⟩ (envOf qual scope L f cdv)) (call (.ref 46) [.ref l]) Q E s := by
  have S := (Site.inside (n := 3) (qual := qual) (scope := scope) (f := f) (cdv := cdv) B X T rfl (by show dp + 4 < _; omega) (by show un + 100 + 4 * 4 < _; omega) F hk).calm
  refine dedupU_at (hK.atBase h₀) hc S (hl.at fun o e => F.keep _ _ e) (hp.mono fun _ _ x => ⟨Ext.upS F.keep, x⟩) hn fun D ws h' tk hD hpl hw hk' => ?_
  obtain ⟨n, hpl⟩ := hpl
  refine h D ws n h' tk (hw.mono fun _ _ x => x.2) (F.keeps hk') (fun p hp => ?_) fun p hp q => ?_
  · rcases List.mem_cons.mp hp with rfl | hp
    · refine ⟨hpl, fun q => ?_, TI.none_of F.keep hD⟩
      obtain ⟨o, _, _, ho, _⟩ := F.ns
      have q' : D = L := q
      rw [← q', hD] at ho; cases ho
    · exact ⟨hk' _ _ (N p hp).1, (N p hp).2⟩
  · have := (N p hp).1
    rw [q, hD] at this; cases this
end

local macro_rules | `(tactic| walk_at "exec For Name Name cons nil") => `(tactic| (k_here; (rename Fr _ _ _ _ => lF'); (with_unfolding_all refine' For_invVF lF' ?k1 ?k2 ?_; (case k1 => exact rfl); (case k2 => exact rfl); k_whole)))
theorem compare_at {δ : Type} [DecidableEq δ] {c : Nat} {K : Heap → Value → δ → Prop} (hK : Key c K) (hc : c ≤ 9) {w : World} {A : Around} {s : Shared} (C : SiteE w 5 A s.heap) {l1 l2 : Addr} {vs1 vs2 : List Value} {ds1 ds2 : List δ}
    (hl1 : s.heap.IsList l1 vs1.toArray) (hp1 : Paired (K s.heap) vs1 ds1) (hn1 : vs1.length ≤ 2 ^ 12) (hl2 : s.heap.IsList l2 vs2.toArray) (hp2 : Paired (K s.heap) vs2 ds2) (hn2 : vs2.length ≤ 2 ^ 12) {Q E : Value → Shared → Prop}
    (ret : ∀ h' tk, (∀ outer, A.frames = some outer → UpF (frA outer) s.heap h') → Q (.bool (decide (rem (dd ds1) (dd ds2) = some []))) { s with heap := h', toks := tk }) :
    wpAny (model PySem.Challenge.rw_nb0028_01.row.prog w) A (call (.ref 53) [.ref l1, .ref l2]) Q E s := by
  obtain ⟨⟨base, outer, mean, mg, mb, B, X0, T0⟩, hq, hdp, hun⟩ := C
  have X := X0.keeps B.stays
  have T := T0.keeps B.stays
  obtain ⟨hh, dp, fr, gd, un⟩ := A
  obtain rfl : hh = none := hq
  obtain rfl : fr = some outer := B.stack
  have hdp' : dp + 5 < recursionLimit := hdp
  have hun' : un + 100 + 4 * 5 < cLine := hun
  revert X; k_fill; intro X
  refine wpAny_call ?_
  refine' enter (A := ⟨none, dp, some outer, gd, un⟩) X T ?k6 ?k7 ?k8 ?k9 ?kB ?_ ?c2 ?c3 ?c4 ?c5
  case k6 => k_is
  case k7 => k_is
  case k8 => show dp < recursionLimit; omega
  case k9 => exact BindsTo.of_eq rfl
  case kB => exact locs rfl
  case c2 => exact rfl
  case c3 => exact rfl
  case c4 => exact rfl
  case c5 => decide
  intro L h₁ F N
  try dsimp only
  (try k_fold)
  iterate 9 (first | walk1 | (dsimp only; walk1))
  refine ⟨X.keeps (Fr.keep (by assumption)), ?_⟩
  refine dedupU_K hK hc B X T hdp' hun' (by assumption) (by assumption) hl1 hp1 hn1 fun D1 ws1 n1 h2 tk2 hw1 F2 N2 _ => ?_
  dsimp only
  iterate 10 (first | walk1 | (dsimp only; walk1))
  refine ⟨X.keeps (Fr.keep (by assumption)), ?_⟩
  refine dedupU_K hK hc B X T hdp' hun' (by assumption) (by assumption) hl2 hp2 hn2 fun D2 ws2 n2 h3 tk3 hw2 F3 N3 hne3 => ?_
  dsimp only
  iterate 10 (first | walk1 | (dsimp only; walk1))
  rename_i h4 F4 N4
  have hlen2 := hw2.length
  have hdd2 := dd_length ds2
  have hlp2 := hp2.length
  have hlen1 := hw1.length
  have hdd1 := dd_length ds1
  have hlp1 := hp1.length
  refine list_copyK F4 N4 (News.isList N4 (.head _)) (fun T9 c9 h5 F5 N5 hlt5 => ?_) (by simp only [List.size_toArray]; unfold sizeLine; omega)
  dsimp only
  iterate 7 (first | walk1 | (dsimp only; walk1))
  rename_i h6 F6 N6
  have hT9 : (T9, W.listOf ws2.toArray c9) ∈ ((T9, W.listOf ws2.toArray c9) :: (D2, ({ cls := .type "list", data := .seq ws2.toArray n2 } : Obj)) :: [(D1, ({ cls := .type "list", data := .seq ws1.toArray n1 } : Obj))]) := List.mem_cons_self ..
  have hD1 : (D1, ({ cls := .type "list", data := .seq ws1.toArray n1 } : Obj)) ∈ ((T9, W.listOf ws2.toArray c9) :: (D2, ({ cls := .type "list", data := .seq ws2.toArray n2 } : Obj)) :: [(D1, ({ cls := .type "list", data := .seq ws1.toArray n1 } : Obj))]) := by simp
  have hT9D1 : D1 ≠ T9 := Nat.ne_of_lt (hlt5 (D1, ({ cls := .type "list", data := .seq ws1.toArray n1 } : Obj)) (List.mem_cons_of_mem _ (List.mem_cons_self ..)))
  refine iter_vals (es := []) (vs := ws1) (news := [(T9, ({ cls := .type "list", data := .seq ws2.toArray c9 } : Obj))]) (fun i m₁ news₁ => ∃ n ws t, news₁ = [(T9, ({ cls := .type "list", data := .seq ws.toArray n } : Obj))] ∧ rem ((dd ds1).take i) (dd ds2) = some t ∧ Paired (K s.heap) ws t ∧ m₁ (Str.ofString "t") = some (.ref T9))
    (.inl ⟨rfl, rfl⟩) (News.isList N6 hD1) (N6 _ hD1).2.1 (fun p hp => by rw [List.mem_singleton.mp hp]; exact Ne.symm hT9D1) F6 (fun p hp => by rw [List.mem_singleton.mp hp]; exact N6 _ hT9) ⟨c9, ws2, dd ds2, rfl, rfl, hw2, rfl⟩ ?_ ?_
  · rintro i v m₁ news₁ h tk own hv hadr hoff ⟨n, ws, t, rfl, hr, hw, hm⟩ F8 N8
    have F7 := fr_say F8 (x := Str.ofString "t") (v := .ref T9) (by rw [if_neg (by decide)]; exact hm)
    clear F8
    have N7 : News s.heap L h ((T9, ({ cls := .type "list", data := .seq ws.toArray n } : Obj)) :: own) := N8
    clear N8
    have ho : ∀ p ∈ own, p.1 ≠ T9 := fun p hp => hoff p hp T9 (by simp)
    have hi : i < (dd ds1).length := by
      rw [← hlen1]
      cases Nat.lt_or_ge i ws1.length with
      | inl h => exact h
      | inr h => rw [List.getElem?_eq_none h] at hv; cases hv
    have hKv : K s.heap v (dd ds1)[i] := by
      have := paired_get hw1 i (by omega) hi
      rw [List.getElem?_eq_getElem (by omega)] at hv
      cases hv; exact this
    have hstep : rem ((dd ds1).take (i + 1)) (dd ds2) = if (dd ds1)[i] ∈ t then some (t.erase (dd ds1)[i]) else none := by
      rw [List.take_add_one, List.getElem?_eq_getElem hi]
      show rem ((dd ds1).take i ++ [(dd ds1)[i]]) (dd ds2) = _
      rw [rem_append, hr]; rfl
    iterate 4 (first | walk1 | (dsimp only; walk1))
    have hTh : h.get? T9 = some { cls := .type "list", data := .seq ws.toArray n } := (N7 _ (List.mem_cons_self ..)).1
    refine getMethod_builtin (T := "list") (id := "list.remove") ⟨_, hTh, rfl⟩ PySem.F.plainAttrs_list PySem.F.slot_list_remove PySem.F.type_list_remove (fun a e => by cases e; exact ⟨_, hTh, rfl⟩) ?_
    dsimp only
    iterate 4 (first | walk1 | (dsimp only; walk1))
    have hwl := hw.length
    have htl : t.length ≤ 2 ^ 12 := by
      have := rem_length _ _ _ hr
      omega
    refine remove_call (h₀ := s.heap) hK rfl ?_ (fun b o e => F7.keep b o e) hTh (by omega) hw hKv (fun h' ws' n' hin hT' hw' hs' => ?_) (fun h' tk' e hno hx => ?_)
    · show un + 3 + (c + 2) < cLine; omega
    · rw [if_pos hin] at hstep
      have F6' : Fr s.heap L h' _ := F7.change hs' (N7 _ (List.mem_cons_self ..)).2.1 (N7 _ (List.mem_cons_self ..)).2.2
      refine wpAny_execs_nil ?_
      refine ⟨h', tk, _, (T9, ({ cls := .type "list", data := .seq ws'.toArray n' } : Obj)) :: own, [(T9, ({ cls := .type "list", data := .seq ws'.toArray n' } : Obj))], rfl, F6', fun p hp => ?_, fun p hp => ?_, fun p hp => List.mem_cons_of_mem _ hp, rfl, n', ws', _, rfl, hstep, hw', rfl⟩
      · rcases List.mem_cons.mp hp with rfl | hp
        · exact ⟨hT', (N7 _ (List.mem_cons_self ..)).2⟩
        · exact ⟨(hs'.2 p.1 (ho p hp)).trans (N7 p (List.mem_cons_of_mem _ hp)).1, (N7 p (List.mem_cons_of_mem _ hp)).2⟩
      · rw [List.mem_singleton.mp hp]; exact List.mem_cons_self ..
    · rw [if_neg hno] at hstep
      have hres : decide (rem (dd ds1) (dd ds2) = some []) = false := by
        have : rem (dd ds1) (dd ds2) = none := by
          have := rem_none_append _ ((dd ds1).drop (i + 1)) _ hstep
          rwa [List.take_append_drop] at this
        rw [this]; rfl
      refine caught_new (h := h) (base := base) (X' := "ValueError") rfl (Below.frames (B.push F7 rfl)) rfl hx (by rw [isSubtype_type]; kernel_rfl) (by rw [isSubtype_type]; kernel_rfl) (by rw [isSubtype_type]; kernel_rfl) (fun A' E' h'' Q' U hQ => ?_) (fun h'' T'' U H he hT => ?_)
      · exact TT.class_top (fr_up F7 U) (T0.keeps (base_gone B.frames B.stays)) (by decide +kernel) (by decide +kernel) (by decide +kernel) (by decide +kernel) (by decide +kernel) (by decide +kernel) hQ (by decide) rfl rfl (by decide)
      · refine wpAny_execs_cons (wpAny_Return_some ?_)
        refine wpAny_Constant_bool ?_
        show Q (.bool false) _
        rw [← hres]
        refine ret h'' tk' fun outer' ho' => ?_
        cases ho'
        exact up_back F7 U
  · rintro m₁ news₁ h tk ⟨n, ws, t, rfl, hr, hw, hm⟩ F8 N8
    rw [hlen1, List.take_length] at hr
    have F7 := fr_say F8 hm
    clear F8
    have hT : h.get? T9 = some { cls := .type "list", data := .seq ws.toArray n } := (N8 _ (List.mem_singleton.mpr rfl)).1
    iterate 6 (first | walk1 | (dsimp only; walk1))
    have hwl := hw.length
    have htl := rem_length _ _ _ hr
    refine not_of (wpAny_truthy_list ⟨_, hT, rfl, n, rfl⟩ (by simp only [List.size_toArray]; omega) ?_)
    have e : (!(ws.toArray.size != 0)) = decide (rem (dd ds1) (dd ds2) = some []) := by
      rw [hr, List.size_toArray, hwl]
      cases t with
      | nil => simp
      | cons a r => simp
    show Q (.bool (!(ws.toArray.size != 0))) _
    rw [e]
    refine ret h _ fun outer' ho' => UpF.of_ext F7.keep
end Mine
end

section
open PySem PySem.W PyProof.Rows PySem.Calls PySem.Builtin PySem.SeqAt
set_option Elab.async false
set_option maxRecDepth 100000
set_option maxHeartbeats 8000000
set_option pp.deepTerms false
set_option pp.maxSteps 30000
namespace Mine

theorem below_up {A : Around} {base h₀ h h' : Heap} {outer : List Env} {L a : Addr} {m : Str → Option Value} {name : Str} {scope : Scope} {cd : Value} (B : Below A base outer h₀) (F : Fr h₀ L h m)
    (U : UpF (frA (envOf name scope L a cd :: outer)) h h') (hk : scope.kind = .function) : Below (A.deeper (envOf name scope L a cd)) base (envOf name scope L a cd :: outer) h' :=
  have B' := B.push (name := name) (a := a) (cd := cd) F hk
  ⟨B'.stack, U.base B'.frames B'.stays, U.frames B'.frames⟩

theorem dedup_lists {δ : Type} [DecidableEq δ] {c : Nat} {K : Heap → Value → δ → Prop} (hK : Key c K) (hc : c ≤ 9) {w : World} {A : Around} {s : Shared} (C : SiteE w 8 A s.heap) {l a : Addr} {its : Array Value} {rest : List Value} {ds : List δ}
    (hl : s.heap.IsList l (Value.ref a :: rest).toArray) (ha : s.heap.IsList a its) (hp : Paired (K s.heap) (Value.ref a :: rest) ds) (hn : (Value.ref a :: rest).length ≤ 2 ^ 12) {Q E : Value → Shared → Prop}
    (ret : ∀ D ws h' tk, h'.PlainList D ws.toArray → Paired (K s.heap) ws (dd ds) → (∀ outer, A.frames = some outer → UpF (frA outer) s.heap h') → Q (.ref D) { s with heap := h', toks := tk }) :
    wpAny (model PySem.Challenge.rw_nb0028_01.row.prog w) A (call (.ref 39) [.ref l] [(Str.ofString "unhashable_fallback", .bool true)]) Q E s := by
  obtain ⟨⟨base, outer, mean, mg, mb, B, X0, T0⟩, hq, hdp, hun⟩ := C
  have X := X0.keeps B.stays
  have T := T0.keeps B.stays
  obtain ⟨hh, dp, fr, gd, un⟩ := A
  obtain rfl : hh = none := hq
  obtain rfl : fr = some outer := B.stack
  have hdp' : dp + 8 < recursionLimit := hdp
  have hun' : un + 100 + 4 * 8 < cLine := hun
  revert X; k_fill; intro X
  refine wpAny_call ?_
  refine' enter (A := ⟨none, dp, some outer, gd, un⟩) (binds := [(Str.ofString "params", .ref l), (Str.ofString "unhashable_fallback", .bool true)]) X T ?k6 ?k7 ?k8 ?k9 ?kB ?_ ?c2 ?c3 ?c4 ?c5
  case k6 => k_is
  case k7 => k_is
  case k8 => show dp < recursionLimit; omega
  case k9 => exact BindsTo.of_eq rfl
  case kB => exact locs rfl
  case c2 => exact rfl
  case c3 => exact rfl
  case c4 => exact rfl
  case c5 => decide
  intro L h₁ F N
  try dsimp only
  (try k_fold)
  iterate 7 (first | walk1 | (dsimp only; walk1))
  refine getm_fk (by k_asm) (by k_asm) (by k_asm) (by k_is) fun x h2 F2 N2 _ => ?_
  dsimp only
  refine callWith_fk ?_
  iterate 3 (first | walk1 | (dsimp only; walk1))
  refine ⟨N2.get (.head _), ?_⟩
  refine fk_lists rfl ?_ (N2.get (.head _)) (hl.at fun o e => F2.keep _ _ e) (ha.at fun o e => F2.keep _ _ e) fun h3 tk e hx => ?_
  · show un + 3 + 5 < cLine; omega
  refine caught_new (h := h2) (base := base) (X' := "TypeError") rfl (Below.frames (B.push F2 rfl)) rfl hx (by rw [isSubtype_type]; kernel_rfl) (by rw [isSubtype_type]; kernel_rfl) (by rw [isSubtype_type]; kernel_rfl) (fun A' E' h'' Q' U hQ => ?_) (fun h4 T4 U H he hT => ?_)
  · exact TT.class_top (fr_up F2 U) (T0.keeps (base_gone B.frames B.stays)) (by decide +kernel) (by decide +kernel) (by decide +kernel) (by decide +kernel) (by decide +kernel) (by decide +kernel) hQ (by decide) rfl rfl (by decide)
  · have F4 := fr_up F2 U
    have N4 : News (TI.gone s.heap (frA outer)) L h4 [] := News.nil
    have X4 := X0.keeps (base_gone B.frames B.stays)
    have T4' := T0.keeps (base_gone B.frames B.stays)
    clear X T N2 F N
    dsimp only
    iterate 16 (first | walk1 | (dsimp only; walk1))
    refine ⟨X4.keeps F4.keep, ?_⟩
    have B4 := below_up B F2 U rfl
    have hst : base.StaysIn h4 := B4.stays
    obtain ⟨oe, ws, he1, hc1, hd1, hw1, hw2⟩ := H.exc
    have X5 : (hd.heap_39 w.params).In h4 := X0.keeps hst
    have T5 := T0.keeps (h' := h4) hst
    have hup : UpS s.heap h4 := fun b o e => U.up b o (F2.keep b o e)
    refine dedupU_at (es := [e]) (hK.atBase s.heap) hc ⟨⟨base, _, mean, mg, mb, ⟨rfl, hst, B4.frames⟩, X5, T5⟩, .inr ⟨e, oe, ws, rfl, rfl, he1, hd1, hw2⟩, ?_, ?_⟩ (hup.isList hl) (hp.mono fun _ _ x => ⟨hup, x⟩) hn fun D ws' h5 tk5 hD5 hpl hw5 hk5 => ?_
    · show dp + 1 + 3 < _; omega
    · show un + 3 + 100 + 4 * 3 < _; omega
    · show Q (.ref D) _
      refine ret D ws' h5 tk5 hpl (hw5.mono fun _ _ x => x.2) fun outer' ho' => ?_
      cases ho'
      exact (up_back F2 U).trans (UpF.of_ext hk5)
end Mine
end

section
open PySem PySem.W PyProof.Rows PySem.Calls PySem.Builtin PySem.SeqAt
set_option Elab.async false
set_option maxRecDepth 100000
set_option maxHeartbeats 8000000
namespace Mine

section
variable {prog : Program} {w : World} {A : Around} {E : Value → Shared → Prop} {s : Shared}

theorem flight_some {h : Heap} {fr : List Addr} {e T L : Addr} {X : String} {fl : Value} {Q : Unit → Shared → Prop} (U : UpF fr h s.heap) (H : HeldE s.heap e T X fl) (hT : h.get? T = none)
    (k : ∀ h', UpF fr h h' → HeldE h' e T X (rawInt L) → Q () { s with heap := h' }) : wpAny (model prog w) A (setFlight (.ref e) (some L)) Q E s := by
  obtain ⟨⟨oe, ws, he, hc, hd, h1, h2⟩, ⟨oT, ts, ht, htd, h3⟩, hne⟩ := H
  have hsz : 3 < ts.size := (Array.getElem?_eq_some_iff.mp h3).1
  have hTn : ∀ b o, h.get? b = some o → b ≠ T := fun b o eb q => by rw [q, hT] at eb; cases eb
  have hd₃ := Obj.data_mapFields htd (·.setIfInBounds 3 (rawInt L))
  unfold setFlight
  refine wpAny_bind (wpAny_field he hd h1 ?_)
  rw [if_pos (show (Value.ref T != Value.none) = true from by simp)]
  refine wpAny_setField ht htd hsz (k _ ⟨fun b o hb eb => (Heap.get?_update_ne _ _ _ _ (hTn b o eb)).trans (U.off b o hb eb), fun b o eb => ?_⟩ ⟨⟨oe, ws, (Heap.get?_update_ne _ _ _ _ (Ne.symm hne)).trans he, hc, hd, h1, h2⟩, ⟨_, _, Heap.get?_update_self _ ht (Obj.isFreed_of_fields hd₃), hd₃, ?_⟩, hne⟩)
  · obtain ⟨sl, es⟩ := U.up b o eb
    exact ⟨sl, (Heap.get?_update_ne _ _ _ _ (hTn b o eb)).trans es⟩
  · simp [hsz]

theorem note_again {env : Env} {L e T : Addr} {X : String} {Q : Unit → Shared → Prop} (hf : env.frame = some L) (H : HeldE s.heap e T X (rawInt L)) (k : Q () s) : wpAny (model prog w) A (noteFrame (.ref e) env) Q E s := by
  obtain ⟨⟨oe, ws, he, hc, hd, h1, h2⟩, ⟨oT, ts, ht, htd, h3⟩, hne⟩ := H
  unfold noteFrame
  rw [hf]
  dsimp only
  refine wpAny_bind (wpAny_field he hd h1 ?_)
  rw [if_pos (show (Value.ref T != Value.none) = true from by simp)]
  refine wpAny_bind (wpAny_field ht htd h3 ?_)
  rw [if_pos (by simp)]
  exact wpAny_pure k

theorem came_back {h : Heap} {fr : List Addr} {env : Env} {L e T : Addr} {X : String} {fl : Value} (hf : env.frame = some L) (U : UpF fr h s.heap) (H : HeldE s.heap e T X fl) (hT : h.get? T = none)
    (k : ∀ h', UpF fr h h' → HeldE h' e T X (rawInt L) → E (.ref e) { s with heap := h' }) : cameBackBy (model prog w) A env E (.ref e) s := by
  obtain ⟨oe, ws, he, hc, hd, h1, h2⟩ := H.exc
  unfold cameBackBy
  refine wpAny_bind (wpAny_field he hd h1 ?_)
  rw [if_neg (by simp)]
  rw [hf]
  exact flight_some U H hT k

theorem note_on {base h : Heap} {env : Env} {outer : List Env} {L e T : Addr} {X : String} {Q : Unit → Shared → Prop}
    (hfr : A.frames = some (env :: outer)) (hl : s.heap.FunFrames base (env :: outer)) (hf : env.frame = some L) (U : UpF (frA (env :: outer)) h s.heap) (H : HeldE s.heap e T X .none) (hen : h.get? e = none) (hT : h.get? T = none)
    (hef : e ∉ frA (env :: outer)) (hTf : T ∉ frA (env :: outer))
    (k : ∀ h' T', UpF (frA (env :: outer)) h h' → HeldE h' e T' X (rawInt L) → h.get? T' = none → Q () { s with heap := h' }) : wpAny (model prog w) A (noteFrame (.ref e) env) Q E s := by
  obtain ⟨⟨oe, ws, he, hc, hd, h1, h2⟩, ⟨oT, ts, ht, htd, h3⟩, hne⟩ := H
  have hsz : 3 < ts.size := (Array.getElem?_eq_some_iff.mp h3).1
  have hwsz : 2 < ws.size := (Array.getElem?_eq_some_iff.mp h2).1
  unfold noteFrame
  rw [hf]
  dsimp only
  refine wpAny_bind (wpAny_field he hd h1 ?_)
  rw [if_pos (show (Value.ref T != Value.none) = true from by simp)]
  refine wpAny_bind (wpAny_field ht htd h3 ?_)
  rw [if_neg (by show ¬ ((Value.none == rawInt L) = true); unfold rawInt; simp)]
  refine wpAny_bind (wpAny_setField ht htd hsz ?_)
  generalize hH : s.heap.update T (Obj.mapFields (·.setIfInBounds 3 Value.none)) = H1
  have hTn : ∀ b o, h.get? b = some o → b ≠ T := fun b o eb q => by rw [q, hT] at eb; cases eb
  have hen' : ∀ b o, h.get? b = some o → b ≠ e := fun b o eb q => by rw [q, hen] at eb; cases eb
  have k1 : ∀ b, b ≠ T → H1.get? b = s.heap.get? b := fun b hb => by rw [← hH]; exact Heap.get?_update_ne _ _ _ _ hb
  have hl1 : H1.FunFrames base (env :: outer) := hl.of_keeps fun b o eb hnf => by
    refine ⟨o, ?_, rfl⟩
    rw [k1 b (fun q => by rw [q, ht] at eb; cases eb; exact hnf ts htd)]; exact eb
  refine wpAny_bind (wpAny_frameOf_fun (s := { s with heap := H1 }) hfr hl1 hf fun h₁ hs₁ => ?_)
  refine wpAny_bind (wpAny_entryPlaceOf fun pl hpl => ?_)
  unfold EntryCells.newEntry newFields
  refine wpAny_bind (wpAny_newObj_type ?_ (hpl.sizeOk5 _ _ _ _ _))
  have he₁ : h₁.get? e = some oe := (hs₁.2.1 e hef).trans ((k1 e (Ne.symm hne)).trans he)
  have he₂ := Heap.get?_push_of_some (h := h₁) { cls := .type "traceback", dict := none, data := .fields ([Value.ref T, .ref L, .none, rawInt L, .none] ++ (if pl.isEmpty then List.replicate 6 Value.none else pl)).toArray } he₁
  refine wpAny_setField he₂ hd (by omega) ?_
  have hTe : h₁.objs.size ≠ e := Nat.ne_of_gt (Heap.lt_size he₁)
  have hd₃ := Obj.data_mapFields hd (·.setIfInBounds 1 (Value.ref h₁.objs.size))
  have he₃ := Heap.get?_update_self (Obj.mapFields (·.setIfInBounds 1 (Value.ref h₁.objs.size))) he₂ (Obj.isFreed_of_fields hd₃)
  have hT₃ := (Heap.get?_update_other (h₁.push { cls := .type "traceback", dict := none, data := .fields ([Value.ref T, .ref L, .none, rawInt L, .none] ++ (if pl.isEmpty then List.replicate 6 Value.none else pl)).toArray })
    (Obj.mapFields (·.setIfInBounds 1 (Value.ref h₁.objs.size))) (Ne.symm hTe)).trans (Heap.get?_push_size h₁ rfl)
  have keep : ∀ b o, b ≠ e → h₁.get? b = some o → (((h₁.push { cls := .type "traceback", dict := none, data := .fields ([Value.ref T, .ref L, .none, rawInt L, .none] ++ (if pl.isEmpty then List.replicate 6 Value.none else pl)).toArray }).update e (Obj.mapFields (·.setIfInBounds 1 (Value.ref h₁.objs.size))))).get? b = some o := fun b o hbe hb => by
    rw [Heap.get?_update_other _ _ (Ne.symm hbe)]
    exact Heap.get?_push_of_some _ hb
  refine k _ h₁.objs.size ⟨fun b o hb eb => keep b o (hen' b o eb) ((hs₁.2.1 b hb).trans ((k1 b (hTn b o eb)).trans (U.off b o hb eb))), fun b o eb => ?_⟩ ⟨⟨_, _, he₃, (Obj.cls_mapFields _ _).trans hc, hd₃, ?_, ?_⟩, ⟨_, _, hT₃, rfl, ?_⟩, hTe⟩ ?_
  · obtain ⟨sl, e1⟩ := U.up b o eb
    obtain ⟨sl', e2⟩ := hs₁.2.2 b _ ((k1 b (hTn b o eb)).trans e1)
    exact ⟨sl', keep b _ (hen' b o eb) e2⟩
  · simp [show 1 < ws.size by omega]
  · rw [Array.getElem?_setIfInBounds]; simp; simpa using h2
  · simp
  · cases eb : h.get? h₁.objs.size with
    | none => rfl
    | some o =>
      obtain ⟨sl, e1⟩ := U.up _ o eb
      obtain ⟨sl', e2⟩ := hs₁.2.2 _ _ ((k1 _ (hTn _ o eb)).trans e1)
      exact absurd (Heap.lt_size e2) (Nat.lt_irrefl _)

/-- the clause that takes a noted exception -/
theorem taken {h : Heap} {fr : List Addr} {env : Env} {e T : Addr} {X X' : String} {fl : Value} {x : Str} {np pos : Pos} {b₀ : Stmt} {suite : List Stmt} {rest : List ExceptHandler} {Q : Flow → Shared → Prop}
    (U : UpF fr h s.heap) (H : HeldE s.heap e T X fl) (hT : h.get? T = none)
    (h1 : isSubtype (.type X') (.type "BaseException") = pure true) (h2 : isSubtype (.type ((Manifest.find? X').elim "type" fun x => x.metatype)) (.type "tuple") = pure false) (h3 : isSubtype (.type X) (.type X') = pure true)
    (hcls : ∀ (A' : Around) (E' : Value → Shared → Prop) (h' : Heap) (Q' : Value → Shared → Prop), UpF fr h h' → Q' (.type X') { s with heap := h' } → wpAny (model prog w) A' (eval (.Name x np) env) Q' E' { s with heap := h' })
    (k : ∀ h', UpF fr h h' → HeldE h' e T X .none →
      wpAny (model prog w) (A.mark (some (.ref e))) (execs (b₀ :: suite) env) Q (notedBy (model prog w) (A.mark (some (.ref e))) env (cameBackBy (model prog w) A env E)) { s with heap := h' }) :
    wpAny (model prog w) A (setFlight (.ref e) none) (fun _ s₃ =>
      wpAny (model prog w) A (handleBy (.ref e) env (.ExceptHandler (some (.Name x np)) none (b₀ :: suite) pos :: rest)) Q E s₃) E s := by
  refine flight_none U H hT fun h₂ U₂ H₂ => ?_
  refine wpAny_handleBy_builtin (X := X) (T := X') (b := true) h1 h2 h3 (hcls _ _ h₂ _ U₂ ⟨rfl, ?_, ?_⟩)
  · obtain ⟨oe, ws, he, hc, _⟩ := H₂.exc; exact ⟨oe, he, hc⟩
  · rw [if_pos rfl]
    exact flight_none (s := { s with heap := h₂ }) U₂ H₂ hT fun h₃ U₃ H₃ => k h₃ U₃ H₃
end
end Mine
end

section
open PySem PySem.W PyProof.Rows PySem.Calls PySem.Builtin PySem.SeqAt
set_option Elab.async false
set_option maxRecDepth 100000
set_option maxHeartbeats 8000000
set_option pp.deepTerms false
set_option pp.maxSteps 30000
namespace Mine

section
variable {prog : Program} {w : World} {A : Around} {E : Value → Shared → Prop} {s : Shared}
theorem raise_bare {h : Heap} {fr : List Addr} {env : Env} {L e T : Addr} {X : String} {fl : Value} {pos : Pos} {Q : Flow → Shared → Prop} (hA : A.handled = some (.ref e)) (hf : env.frame = some L) (U : UpF fr h s.heap) (H : HeldE s.heap e T X fl) (hT : h.get? T = none)
    (k : ∀ h', UpF fr h h' → HeldE h' e T X (rawInt L) → E (.ref e) { s with heap := h' }) : wpAny (model prog w) A (exec (.Raise none none pos) env) Q E s := by
  obtain ⟨oe, ws, he, hc, hd, h1, h2⟩ := H.exc
  show wpAny _ _ (standAt pos >>= fun _ => raiseStmt env none none) _ _ _
  refine wpAny_bind (wpAny_standAt ?_)
  unfold raiseStmt
  dsimp only
  refine wpAny_bind (wpAny_handled ?_)
  rw [hA]
  dsimp only
  refine wpAny_bind (wpAny_rule (wpAny_bind (wpAny_field he hd h1 ?_)))
  rw [if_neg (by simp)]
  rw [hf]
  exact wpAny_bind (flight_some U H hT fun h' U' H' => wpAny_throw (k h' U' H'))
theorem leaving_held {h : Heap} {fr : List Addr} {env : Env} {L e T : Addr} {X : String} {Q : Unit → Shared → Prop} (hf : env.frame = some L) (U : UpF fr h s.heap) (H : HeldE s.heap e T X (rawInt L)) (hT : h.get? T = none)
    (k : ∀ h', UpF fr h h' → HeldE h' e T X .none → Q () { s with heap := h' }) : wpAny (model prog w) A (leaving env (.ref e)) Q E s := by
  unfold leaving
  exact wpAny_bind (note_again hf H (flight_none U H hT k))
end

theorem dedup_raises {w : World} {A : Around} {s : Shared} (C : SiteE w 8 A s.heap) {l a : Addr} {its : Array Value} {rest : List Value}
    (hl : s.heap.IsList l (Value.ref a :: rest).toArray) (ha : s.heap.IsList a its) {Q E : Value → Shared → Prop}
    (ret : ∀ h' tk e T, (∀ outer, A.frames = some outer → UpF (frA outer) s.heap h') → HeldE h' e T "TypeError" .none → s.heap.get? e = none → s.heap.get? T = none → E (.ref e) { s with heap := h', toks := tk }) :
    wpAny (model PySem.Challenge.rw_nb0028_01.row.prog w) A (call (.ref 39) [.ref l]) Q E s := by
  obtain ⟨⟨base, outer, mean, mg, mb, B, X0, T0⟩, hq, hdp, hun⟩ := C
  have X := X0.keeps B.stays
  have T := T0.keeps B.stays
  obtain ⟨hh, dp, fr, gd, un⟩ := A
  obtain rfl : hh = none := hq
  obtain rfl : fr = some outer := B.stack
  have hdp' : dp + 8 < recursionLimit := hdp
  have hun' : un + 100 + 4 * 8 < cLine := hun
  revert X; k_fill; intro X
  refine wpAny_call ?_
  refine' enter (A := ⟨none, dp, some outer, gd, un⟩) (binds := [(Str.ofString "params", .ref l), (Str.ofString "unhashable_fallback", .bool false)]) X T ?k6 ?k7 ?k8 ?k9 ?kB ?_ ?c2 ?c3 ?c4 ?c5
  case k6 => k_is
  case k7 => k_is
  case k8 => show dp < recursionLimit; omega
  case k9 => exact binds_kwd (X 32 _ (by k_is)) rfl
  case kB => exact locs rfl
  case c2 => exact rfl
  case c3 => exact rfl
  case c4 => exact rfl
  case c5 => decide
  intro L h₁ F N
  try dsimp only
  (try k_fold)
  iterate 7 (first | walk1 | (dsimp only; walk1))
  refine getm_fk (by k_asm) (by k_asm) (by k_asm) (by k_is) fun x h2 F2 N2 _ => ?_
  dsimp only
  refine callWith_fk ?_
  iterate 3 (first | walk1 | (dsimp only; walk1))
  refine ⟨N2.get (.head _), ?_⟩
  refine fk_lists rfl ?_ (N2.get (.head _)) (hl.at fun o e => F2.keep _ _ e) (ha.at fun o e => F2.keep _ _ e) fun h3 tk e hx => ?_
  · show un + 3 + 5 < cLine; omega
  refine caught_new (h := h2) (base := base) (X' := "TypeError") rfl (Below.frames (B.push F2 rfl)) rfl hx (by rw [isSubtype_type]; kernel_rfl) (by rw [isSubtype_type]; kernel_rfl) (by rw [isSubtype_type]; kernel_rfl) (fun A' E' h'' Q' U hQ => ?_) (fun h4 T4 U H he hT => ?_)
  · exact TT.class_top (fr_up F2 U) (T0.keeps (base_gone B.frames B.stays)) (by decide +kernel) (by decide +kernel) (by decide +kernel) (by decide +kernel) (by decide +kernel) (by decide +kernel) hQ (by decide) rfl rfl (by decide)
  · have F4 := fr_up F2 U
    have N4 : News (TI.gone s.heap (frA outer)) L h4 [] := News.nil
    have X4 := X0.keeps (base_gone B.frames B.stays)
    have T4' := T0.keeps (base_gone B.frames B.stays)
    clear X T N2 F N
    dsimp only
    iterate 7 (first | walk1 | (dsimp only; walk1))
    refine wpAny_execs_cons ?_
    refine raise_bare rfl rfl U H hT fun h5 U5 H5 => ?_
    refine note_again rfl H5 ?_
    refine came_back rfl U5 H5 hT fun h6 U6 H6 => ?_
    refine leaving_held rfl U6 H6 hT fun h7 U7 H7 => ?_
    refine ret h7 tk e T4 (fun outer' ho' => ?_) H7 (TI.none_of F2.keep he) (TI.none_of F2.keep hT)
    cases ho'
    exact up_back F2 U7
end Mine
end

section
open PySem PySem.W PyProof.Rows PySem.Calls PySem.Builtin PySem.SeqAt
set_option Elab.async false
set_option maxRecDepth 100000
set_option maxHeartbeats 8000000
set_option pp.deepTerms false
set_option pp.maxSteps 30000
namespace Mine

theorem SiteE.inside {w : World} {n : Nat} {A : Around} {h₀ h : Heap} {base : Heap} {outer : List Env} {mean : ExcName → Option Value} {mg mb m : Str → Option Value} {L f : Addr} {qual : Str} {scope : Scope} {cdv : Value}
    (B : Below A base outer h₀) (X : (hd.heap_39 w.params).In base) (T : Top hd.view_39 (looseW hd.view_39 [Str.ofString "_deduplicate", Str.ofString "_twin_re_1", Str.ofString "_twin_re_2"]) mean mg mb base)
    (hq : A.handled = none) (hd : A.depth + (n + 1) < recursionLimit) (hu : A.units + 100 + 4 * (n + 1) < cLine) (F : Fr h₀ L h m) (hk : scope.kind = .function := by rfl) :
    SiteE w n (A.deeper (envOf qual scope L f cdv)) h :=
  ⟨⟨base, _, mean, mg, mb, B.push F hk, X, T⟩, hq, by show A.depth + 1 + n < _; omega, by show A.units + 3 + 100 + 4 * n < _; omega⟩

theorem refused_at {w : World} {A : Around} {s : Shared} (C : SiteE w 10 A s.heap) {l a : Addr} {its : Array Value} {rest : List Value}
    (hl : s.heap.IsList l (Value.ref a :: rest).toArray) (ha : s.heap.IsList a its) {Q E : Value → Shared → Prop}
    (ret : ∀ h' tk, (∀ outer, A.frames = some outer → UpF (frA outer) s.heap h') → Q (.bool true) { s with heap := h', toks := tk }) :
    wpAny (model PySem.Challenge.rw_nb0028_01.row.prog w) A (call (.ref 94) [.ref l]) Q E s := by
  obtain ⟨⟨base, outer, mean, mg, mb, B, X0, T0⟩, hq, hdp, hun⟩ := C
  have X := X0.keeps B.stays
  have T := T0.keeps B.stays
  obtain ⟨hh, dp, fr, gd, un⟩ := A
  obtain rfl : hh = none := hq
  obtain rfl : fr = some outer := B.stack
  have hdp' : dp + 10 < recursionLimit := hdp
  have hun' : un + 100 + 4 * 10 < cLine := hun
  revert X; k_fill; intro X
  refine wpAny_call ?_
  refine' enter (A := ⟨none, dp, some outer, gd, un⟩) X T ?k6 ?k7 ?k8 ?k9 ?kB ?_ ?c2 ?c3 ?c4 ?c5
  case k6 => k_is
  case k7 => k_is
  case k8 => show dp < recursionLimit; omega
  case k9 => exact BindsTo.of_eq rfl
  case kB => exact locs rfl
  case c2 => exact rfl
  case c3 => exact rfl
  case c4 => exact rfl
  case c5 => decide
  intro L h₁ F N
  try dsimp only
  (try k_fold)
  iterate 11 (first | walk1 | (dsimp only; walk1))
  refine ⟨X.keeps F.keep, ?_⟩
  refine dedup_raises (SiteE.inside B X0 T0 rfl (by show dp + 9 < _; omega) (by show un + 100 + 4 * 9 < _; omega) F) (hl.at fun o e => F.keep _ _ e) (ha.at fun o e => F.keep _ _ e) fun h3 tk3 e T3 U3 H3 he hT => ?_
  have U := U3 _ rfl
  have B3 := below_up B F U rfl
  have Bf := fun (name : Str) (a : Addr) (cd : Value) (scope : Scope) (hk : scope.kind = .function) => Below.frames (B.push (name := name) (a := a) (cd := cd) (scope := scope) F hk)
  refine note_on (base := base) (h := h₁) rfl B3.frames rfl U H3 he hT (fun hm => ?_) (fun hm => ?_) fun h4 T4 U4 H4 hT4 => ?_
  · obtain ⟨_, o, ho, _⟩ := (Bf _ _ _ _ (by rfl)).mem hm
    rw [he] at ho; cases ho
  · obtain ⟨_, o, ho, _⟩ := (Bf _ _ _ _ (by rfl)).mem hm
    rw [hT] at ho; cases ho
  refine taken (X' := "TypeError") (h := h₁) U4 H4 hT4 (by rw [isSubtype_type]; kernel_rfl) (by rw [isSubtype_type]; kernel_rfl) (by rw [isSubtype_type]; kernel_rfl) (fun A' E' h'' Q' U hQ => ?_) (fun h5 U5 H5 => ?_)
  · exact TT.class_top (fr_up F U) (T0.keeps (base_gone B.frames B.stays)) (by decide +kernel) (by decide +kernel) (by decide +kernel) (by decide +kernel) (by decide +kernel) (by decide +kernel) hQ (by decide) rfl rfl (by decide)
  · refine wpAny_execs_cons (wpAny_Return_some ?_)
    refine wpAny_Constant_bool ?_
    show Q (.bool true) _
    refine ret h5 _ fun outer' ho' => ?_
    cases ho'
    exact up_back F U5
end Mine
end

section
open PySem PySem.W PyProof.Rows PySem.Calls PySem.Builtin PySem.SeqAt
set_option Elab.async false
set_option maxRecDepth 100000
set_option maxHeartbeats 8000000
namespace Mine
theorem enterC {w : World} {A : Around} {s : Shared} {p : Program} {loose : List Str} {mean : ExcName → Option Value} {mg mb : Str → Option Value}
    {K : Frag} {R : Result → Shared → Prop} {name qual : Str} {params : Arguments} {body : List Stmt} {scope : Scope} {dV kV doc pm cdv ct oc : Value} {an od : Option Addr} {osl : Array (Option Value)} {f : Addr} {args : Args} {binds : List (Str × Value)}
    (X : K.In s.heap) (T : Top p loose mean mg mb s.heap)
    (ho : K.lookup f = some ⟨oc, od, .func (fnOf name qual params body scope dV kV doc pm an cdv ct), osl⟩) (hcd : codeIn K cdv qual = true) (hroom : A.depth < recursionLimit)
    (hbind : BindsTo s (fnOf name qual params body scope dV kV doc pm an cdv ct) args binds)
    (hkind : (binds.all fun y => scope.names.lookup y.1 == some .local || scope.names.lookup y.1 == some .cell) = true)
    (hnd : ((cellsFrom 0 scope.names []).map (·.1)).Nodup)
    (h : ∀ L h₁ tk cells, Fr s.heap L h₁ (bindL (envOfC qual scope L f cdv).kindOf binds fun _ => none) → News s.heap L h₁ cells →
      CellsAre (bindC (envOfC qual scope L f cdv).kindOf binds fun _ => none) (cellsFrom (L + 1) scope.names []) cells →
      wpAny (model prog w) (A.deeper (envOfC qual scope L f cdv)) (execs body (envOfC qual scope L f cdv))
        (fun fl s' => R (.ok (.ret (match fl with | .ret v => v | _ => .none))) s')
        (fun e s' => wpAny (model prog w) (A.deeper (envOfC qual scope L f cdv)) (leaving (envOfC qual scope L f cdv) e) (fun _ s'' => R (.error e) s'') (fun e' s'' => R (.error e') s'') s')
        { s with heap := h₁, toks := tk })
    (hco : scope.isCoroutine = false) (hgen : scope.isGenerator = false) (hk : scope.kind = .function) : codeAny (model prog w) A (.call (.ref f) args) R s := by
  refine codeAny_call_function hroom (X _ _ ho) rfl hco hgen rfl (codeRec_of X hcd) (hbind _ _ _ _ ?_)
  refine wpAny_newFunctionEnv_cells hk (kindsX hkind _) fun env' he s' x => ?_
  subst he
  refine ⟨T.nolimit.keeps x.toInCall.keep, codeAny_func ?_⟩
  obtain ⟨h₁, tk, rfl, _⟩ := x.done
  have hk₁ := x.toInCall.keep
  obtain ⟨cells, NC, Y⟩ := Cl.news (h₀ := s.heap) (Nat.le_refl _) fun n c hm => ⟨x.cell n c (lookup_of_mem_nodup (cellsFrom_names scope.names 0 (s.heap.objs.size + 1) [] [] rfl ▸ hnd) hm), x.above n c hm⟩
  exact h s.heap.objs.size h₁ tk cells ⟨x.toInCall.ns, hk₁, Nat.le_refl _⟩ NC Y
end Mine
end

section
open PySem PySem.W PyProof.Rows PySem.Calls PySem.Builtin PySem.SeqAt
set_option Elab.async false
set_option maxRecDepth 100000
set_option maxHeartbeats 8000000
set_option pp.deepTerms false
set_option pp.maxSteps 30000
namespace Mine

section
variable {prog : Program} {w : World} {A : Around} {E : Value → Shared → Prop} {s : Shared}
theorem one_test {c : Expr} {env : Env} {b : Bool} (h : wpAny (model prog w) A (isTrue c env (eval c env)) (fun ok s₄ => ok = b ∧ Keeps s s₄) E s) :
    wpAny (model prog w) A (forIn [c] true fun c r => if r = true then do let ok ← isTrue c env (eval c env); pure (ForInStep.yield ok) else pure (ForInStep.yield r)) (fun ok s₄ => ok = b ∧ Keeps s s₄) E s := by
  rw [List.forIn_cons]
  refine wpAny_bind ?_
  rw [if_pos rfl]
  refine wpAny_bind (wpAny_mono h (fun ok s₄ h4 => wpAny_pure ?_) fun _ _ e => e)
  exact wpAny_pure h4
theorem Keeps.refl (s : Shared) : Keeps s s := ⟨s.heap, s.toks, rfl, fun _ _ e => e⟩

/-- [1 for one in l1 if one not in others] -/
theorem comp_ones {δ : Type} [DecidableEq δ] {c : Nat} {K : Heap → Value → δ → Prop} (hK : Key c K) (hu : A.units + (c + 1) < cLine) (hh : A.handled = none) {env : Env} {scope : Scope} {x y : Str} {px pc py pi pp pos : Pos} {iter : Expr} {kk : Nat} {l1 l2 o : Addr} {vs1 vs2 : List Value} {ds1 ds2 : List δ} {oO : Obj}
    (hclos : closureFor scope env = pure [(y, o)]) (hcell : ∀ y ∈ scope.names, y.2 ≠ .cell) (hkind : scope.kind = .function)
    (hnames : ∀ y ∈ scope.names, y.2 = .local → scope.names.lookup y.1 = some .local) (hx : scope.names.lookup x = some .local)
    (hit : ∀ Q, Q (.ref l1) s → wpAny (model prog w) A (eval iter env) Q E s)
    (hxk : ∀ C, (compEnvC scope [(y, o)] C env).kindOf x = some .local) (hyk : ∀ C, (compEnvC scope [(y, o)] C env).kindOf y = some .cell)
    (hdx : (x == ("__debug__" : Str)) = false) (hdy : (y == ("__debug__" : Str)) = false)
    (ho : s.heap.get? o = some oO) (hod : oO.data = .cell (some (.ref l2)))
    (hl1 : s.heap.IsList l1 vs1.toArray) (hp1 : Paired (K s.heap) vs1 ds1) (hn1 : vs1.length ≤ 2 ^ 12) (hl2 : s.heap.IsList l2 vs2.toArray) (hp2 : Paired (K s.heap) vs2 ds2) {Q : Value → Shared → Prop}
    (ret : ∀ D h' tk ys, h'.PlainList D ys → (ys.toList.isEmpty = decide (ds1.filter (fun a => !decide (a ∈ ds2)) = [])) → ys.size ≤ 2 ^ 12 → Ext s.heap h' → Q (.ref D) { s with heap := h', toks := tk })
    (hs : ∀ x, foldedSetIterable iter env x = pure x) (hm : behindInMarks .NotIn (.Name y py) = false) :
    wpAny (model prog w) A (eval (.ListComp (.Constant (.int 1) kk pc) [⟨.Name x px, iter, [.Compare (.Name x pi) [.NotIn] [.Name y py] pp], 0⟩] scope pos) env) Q E s := by
  classical
  let p : Value → Bool := fun v => decide (∃ d, K s.heap v d ∧ d ∉ ds2)
  have hp : ∀ v d, K s.heap v d → p v = !decide (d ∈ ds2) := fun v d hv => by
    show decide (∃ d, K s.heap v d ∧ d ∉ ds2) = _
    by_cases hd : d ∈ ds2
    · rw [decide_eq_true hd, decide_eq_false]; · rfl
      rintro ⟨d', h1, h2⟩
      exact h2 (by rw [hK.fn _ _ _ _ h1 hv]; exact hd)
    · rw [decide_eq_false hd, decide_eq_true ⟨d, hv, hd⟩]; rfl
  refine comp_val (l := l1) (vs := vs1) p (fun _ _ => True) hclos hcell hkind hnames hx hh hit hl1 (by omega) ⟨fun C v s₃ m₃ E' hv hns hm₃ hk hC => one_test ?_⟩ (fun C v s₃ m₃ E' hv _ hns hm₃ hk hC => ?_) (fun D h' tk ys hD hpl hF hk => ?_) hs
  · obtain ⟨d, _, hd⟩ := paired_mem hp1 v hv
    refine wpAny_isTrue_Compare1 (wpAny_Name (wpAny_loadName_local hkind (hxk C) hns hm₃ ?_) hdx) hm
    refine wpAny_Name (wpAny_loadName_cell hkind (hyk C) (c := o) (by show List.lookup y [(y, o)] = some o; simp) ⟨oO, hk _ _ ho, hod⟩ ?_) hdy
    refine hK.notIn hu (hl2.at fun o e => hk _ o e) (hp2.mono fun _ _ x => hK.ext _ _ _ _ hk x) (hK.ext _ _ _ _ hk hd) ?_
    refine wpAny_truthy_bool ⟨(hp v d hd).symm, Keeps.refl _⟩
  · exact wpAny_Constant_int ⟨trivial, _, _, rfl, fun _ _ e => e⟩
  · refine ret D h' tk ys hpl ?_ ?_ hk
    · have hlen := hF.length
      have key : ∀ (vs : List Value) (ds : List δ), Paired (K s.heap) vs ds → ((vs.filter p).isEmpty = decide (ds.filter (fun a => !decide (a ∈ ds2)) = [])) := by
        intro vs ds h
        induction h with
        | nil => rfl
        | @cons a b l1 l2 h1 _ ih =>
          rw [List.filter_cons, List.filter_cons, hp a b h1]
          cases (!decide (b ∈ ds2)) with
          | true => simp
          | false => simpa using ih
      rw [← key vs1 ds1 hp1]
      cases h1 : vs1.filter p with
      | nil => rw [h1] at hlen; have : ys.toList = [] := List.length_eq_zero_iff.mp (by simpa using hlen.symm); rw [this]
      | cons a r => rw [h1] at hlen; cases h2 : ys.toList with
        | nil => rw [h2] at hlen; simp at hlen
        | cons _ _ => rfl
    · have hlen := hF.length
      have h2 := List.length_filter_le p vs1
      simp only [Array.length_toList] at hlen
      omega
end

theorem alike_at {δ : Type} [DecidableEq δ] {c : Nat} {K : Heap → Value → δ → Prop} (hK : Key c K) (hc : c ≤ 9) {w : World} {A : Around} {s : Shared} (C : Site w 5 A s.heap) {l1 l2 : Addr} {vs1 vs2 : List Value} {ds1 ds2 : List δ}
    (hl1 : s.heap.IsList l1 vs1.toArray) (hp1 : Paired (K s.heap) vs1 ds1) (hn1 : vs1.length ≤ 2 ^ 12) (hl2 : s.heap.IsList l2 vs2.toArray) (hp2 : Paired (K s.heap) vs2 ds2) (hn2 : vs2.length ≤ 2 ^ 12) {Q E : Value → Shared → Prop}
    (ret : ∀ h' tk, Ext s.heap h' → Q (.bool (decide (ds1.filter (fun a => !decide (a ∈ ds2)) = [] ∧ ds2.filter (fun a => !decide (a ∈ ds1)) = []))) { s with heap := h', toks := tk }) :
    wpAny (model PySem.Challenge.rw_nb0028_01.row.prog w) A (call (.ref 104) [.ref l1, .ref l2]) Q E s := by
  obtain ⟨⟨base, outer, mean, mg, mb, B, X, T⟩, hq, hdp, hun⟩ := C
  obtain ⟨hh, dp, fr, gd, un⟩ := A
  obtain rfl : hh = none := hq
  obtain rfl : fr = some outer := B.stack
  have hdp' : dp + 5 < recursionLimit := hdp
  have hun' : un + 100 + 4 * 5 < cLine := hun
  revert X; k_fill; intro X
  refine wpAny_call ?_
  refine' enterC (A := ⟨none, dp, some outer, gd, un⟩) X T ?k6 ?k7 ?k8 ?k9 ?kB ?kD ?_ ?c2 ?c3 ?c4
  case k6 => k_is
  case k7 => k_is
  case k8 => show dp < recursionLimit; omega
  case k9 => exact BindsTo.of_eq rfl
  case kB => exact rfl
  case kD => decide +kernel
  case c2 => exact rfl
  case c3 => exact rfl
  case c4 => exact rfl
  intro L h₁ tk1 cells F N Y
  k_cells Y
  try dsimp only
  (try k_fold)
  iterate 4 (first | walk1 | (dsimp only; walk1))
  rename_i oO oS dO dS
  have hO : oO.data = .cell (some (.ref l2)) := dO
  have hS : oS.data = .cell (some (.ref l1)) := dS
  have gO := N.get (.head _)
  have gS := N.get (.tail _ (.head _))
  clear dO dS
  have hl1' : h₁.IsList l1 vs1.toArray := hl1.at fun o e => F.keep _ _ e
  have hl2' : h₁.IsList l2 vs2.toArray := hl2.at fun o e => F.keep _ _ e
  have hp1' : Paired (K h₁) vs1 ds1 := hp1.mono fun _ _ x => hK.ext _ _ _ _ F.keep x
  have hp2' : Paired (K h₁) vs2 ds2 := hp2.mono fun _ _ x => hK.ext _ _ _ _ F.keep x
  refine comp_ones hK (l1 := l1) (l2 := l2) (o := L + 1 + 1) (vs1 := vs1) (vs2 := vs2) (ds1 := ds1) (ds2 := ds2) ?_ rfl rfl (by decide) rfl (by decide) rfl (fun Q' hQ => ?_) (fun _ => rfl) (fun _ => rfl) (by decide) (by decide) gO hO hl1' hp1' hn1 hl2' hp2' (fun D1 h2 tk2 ys1 hpl1 he1 hz1 hk2 => ?_) (fun _ => rfl) rfl
  · show un + 3 + (c + 1) < cLine; omega
  · exact wpAny_Name (wpAny_loadName_cell rfl rfl (c := L + 1) rfl ⟨oS, gS, hS⟩ hQ) (by decide)
  dsimp only
  have gO2 := hk2 _ _ gO
  have gS2 := hk2 _ _ gS
  refine comp_ones hK (l1 := l2) (l2 := l1) (o := L + 1) (vs1 := vs2) (vs2 := vs1) (ds1 := ds2) (ds2 := ds1) (s := { s with heap := h2, toks := tk2 }) ?_ rfl rfl (by decide) rfl (by decide) rfl (fun Q' hQ => ?_) (fun _ => rfl) (fun _ => rfl) (by decide) (by decide) gS2 hS (hl2'.at fun o e => hk2 _ o e) (hp2'.mono fun _ _ x => hK.ext _ _ _ _ hk2 x) hn2 (hl1'.at fun o e => hk2 _ o e) (hp1'.mono fun _ _ x => hK.ext _ _ _ _ hk2 x) (fun D2 h3 tk3 ys2 hpl2 he2 hz2 hk3 => ?_) (fun _ => rfl) rfl
  · show un + 3 + (c + 1) < cLine; omega
  · exact wpAny_Name (wpAny_loadName_cell rfl rfl (c := L + 1 + 1) rfl ⟨oO, gO2, hO⟩ hQ) (by decide)
  dsimp only
  have F3 : Fr s.heap L h3 _ := (F.keeps hk2).keeps hk3
  have N3 : News s.heap L h3 [] := News.nil
  have g1 : h3.IsList D1 ys1 := by obtain ⟨n, e⟩ := hpl1; exact ⟨_, hk3 _ _ e, rfl, n, rfl⟩
  have g2 : h3.IsList D2 ys2 := by obtain ⟨n, e⟩ := hpl2; exact ⟨_, e, rfl, n, rfl⟩
  refine add_arrays F3 N3 g1 g2 (fun h4 F4 N4 => ?_) (by unfold sizeLine; omega)
  dsimp only
  iterate 3 (first | walk1 | (dsimp only; walk1))
  rename_i e5 h5 F5 N5 l5
  have q1 : h5.IsList h3.objs.size (ys1.toList ++ ys2.toList).toArray := News.isList N5 (.tail _ (.head _))
  have q2 : h5.IsList e5 #[] := News.isList N5 (.head _)
  have hval : decide (ds1.filter (fun a => !decide (a ∈ ds2)) = [] ∧ ds2.filter (fun a => !decide (a ∈ ds1)) = []) = (ys1.toList ++ ys2.toList).isEmpty := by
    have h9 : ∀ p q : Prop, ∀ [Decidable p] [Decidable q], decide (p ∧ q) = (decide p && decide q) := fun p q _ _ => by by_cases hp : p <;> by_cases hq : q <;> simp [hp, hq]
    rw [h9, ← he1, ← he2]
    cases ys1.toList <;> cases ys2.toList <;> rfl
  have hR := ret h5 tk3 F5.keep
  rw [hval] at hR
  cases hy : (ys1.toList ++ ys2.toList) with
  | nil =>
    rw [hy] at q1 hR
    refine eq_listAt (e := fun _ => true) q1 q2 rfl (by show un + 3 < cLine; omega) (fun j h1 h2 => absurd h2 (Nat.not_lt_zero _)) ?_
    exact hR
  | cons a r =>
    rw [hy] at q1 hR
    exact eq_list_lengthsAt q1 q2 (by simp) (by show un + 3 < cLine; omega) hR
end Mine
end

section
open PySem PySem.W PyProof.Rows PySem.Calls PySem.Builtin PySem.SeqAt
set_option Elab.async false
set_option maxRecDepth 100000
set_option maxHeartbeats 8000000
namespace Mine

theorem rowsL_bound : ∀ (n : Nat) (l : List Nat), l.length ≤ n → (rowsL l).length ≤ l.length + 1 ∧ ∀ p ∈ rowsL l, p.length ≤ l.length := by
  intro n
  induction n with
  | zero => intro l h; obtain rfl : l = [] := List.length_eq_zero_iff.mp (by omega); simp [rowsL]
  | succ n ih =>
    intro l h
    cases l with
    | nil => simp [rowsL]
    | cons c r =>
      simp only [List.length_cons] at h
      by_cases hc : c = 10 ∨ c = 13
      · by_cases hn : c = 13 ∧ r.head? = some 10
        · obtain ⟨rfl, hr⟩ := hn
          cases r with
          | nil => simp at hr
          | cons d r =>
            simp at hr; subst hr
            simp only [List.length_cons] at h
            obtain ⟨h1, h2⟩ := ih r (by omega)
            rw [rowsL_crlf]
            refine ⟨by simp only [List.length_cons]; omega, fun p hp => ?_⟩
            rcases List.mem_cons.mp hp with rfl | hp
            · simp
            · have := h2 p hp; simp only [List.length_cons]; omega
        · obtain ⟨h1, h2⟩ := ih r (by omega)
          rw [rowsL_end hc hn]
          refine ⟨by simp only [List.length_cons]; omega, fun p hp => ?_⟩
          rcases List.mem_cons.mp hp with rfl | hp
          · simp
          · have := h2 p hp; simp only [List.length_cons]; omega
      · obtain ⟨p, q, e, e'⟩ := rowsL_other (r := r) hc
        obtain ⟨h1, h2⟩ := ih r (by omega)
        rw [e'] ; rw [e] at h1 h2
        simp only [List.length_cons] at h1 ⊢
        refine ⟨by omega, fun x hx => ?_⟩
        rcases List.mem_cons.mp hx with rfl | hx
        · have := h2 p (List.mem_cons_self ..); simp only [List.length_cons]; omega
        · have := h2 x (List.mem_cons_of_mem _ hx); omega

theorem rowsS_length (x : Str) : (rowsS x).length ≤ x.length + 1 := by
  have := (rowsL_bound _ x.cps.toList (Nat.le_refl _)).1
  unfold rowsS
  rw [List.length_map]
  simpa [Str.length] using this
theorem rowsS_row (x : Str) : ∀ p ∈ rowsS x, p.length ≤ x.length := by
  intro p hp
  unfold rowsS at hp
  obtain ⟨q, hq, rfl⟩ := List.mem_map.mp hp
  have := (rowsL_bound _ x.cps.toList (Nat.le_refl _)).2 q hq
  simpa [S, Str.length] using this

theorem S_inj {a b : List Nat} (h : S a = S b) : a = b := by
  have := congrArg (fun x : Str => x.cps.toList) h
  simpa [S] using this
theorem stuffS_inj {p q : Str} (h : stuffS p = stuffS q) : p = q := by
  have := stuff_inj (S_inj h)
  rw [← S_eq p, ← S_eq q, this]

def crlf : Str := Str.ofString "\r\n"
theorem stuffed_rows (x : Str) : (rowsS x).map stuffS = (stuffed x.cps.toList).map S := by
  unfold rowsS stuffed
  rw [List.map_map, List.map_map]
  apply List.map_congr_left
  intro a _
  simp [stuffS, S]
theorem join_rows (x : Str) : Txt.join crlf ((rowsS x).map stuffS) = quoteS x := by
  rw [stuffed_rows, txt_join_is]
  unfold quoteS
  rw [quote_eq]
  rfl
theorem split_quote (x : Str) : (pieces crlf.cps.toList (quoteS x).cps.toList).map S = (rowsS x).map stuffS := by
  rw [stuffed_rows]
  have h : pieces [13, 10] (quote x.cps.toList) = stuffed x.cps.toList := quote_split _
  rw [← h]
  rfl
theorem quoteS_inj {x y : Str} (h : quoteS x = quoteS y) : rowsS x = rowsS y := by
  unfold rowsS
  rw [quote_inj (S_inj h)]

section
variable {δ ε : Type} [DecidableEq δ] [DecidableEq ε]
theorem mem_foldl_ddS (d : δ) : ∀ (l acc : List δ), d ∈ l.foldl ddS acc ↔ d ∈ acc ∨ d ∈ l
  | [], acc => by simp
  | a :: l, acc => by
    rw [List.foldl_cons, mem_foldl_ddS d l]
    unfold ddS
    split
    · rename_i h
      constructor
      · rintro (h1 | h1)
        · exact .inl h1
        · exact .inr (List.mem_cons_of_mem _ h1)
      · rintro (h1 | h1)
        · exact .inl h1
        · rcases List.mem_cons.mp h1 with rfl | h1
          · exact .inl h
          · exact .inr h1
    · simp only [List.mem_append, List.mem_cons, List.not_mem_nil, or_false]
      constructor
      · rintro ((h1 | h1) | h1)
        · exact .inl h1
        · exact .inr (.inl h1)
        · exact .inr (.inr h1)
      · rintro (h1 | h1 | h1)
        · exact .inl (.inl h1)
        · exact .inl (.inr h1)
        · exact .inr h1
theorem mem_dd (d : δ) (l : List δ) : d ∈ dd l ↔ d ∈ l := by
  unfold dd; rw [mem_foldl_ddS]; simp

theorem dd_append (l : List δ) (d : δ) : dd (l ++ [d]) = if d ∈ l then dd l else dd l ++ [d] := by
  unfold dd
  rw [List.foldl_append]
  show ddS (dd l) d = _
  unfold ddS
  by_cases h : d ∈ l
  · rw [if_pos ((mem_dd d l).mpr h), if_pos h]; rfl
  · rw [if_neg (fun x => h ((mem_dd d l).mp x)), if_neg h]; rfl

theorem dd_map (f : δ → ε) : ∀ (n : Nat) (l : List δ), l.length = n → (∀ a ∈ l, ∀ b ∈ l, f a = f b → a = b) → dd (l.map f) = (dd l).map f := by
  intro n
  induction n with
  | zero => intro l h _; obtain rfl : l = [] := List.length_eq_zero_iff.mp h; rfl
  | succ n ih =>
    intro l h hf
    have hne : l ≠ [] := by rintro rfl; simp at h
    have hl : l = l.dropLast ++ [l.getLast hne] := (List.dropLast_concat_getLast hne).symm
    have hlen : l.dropLast.length = n := by simp; omega
    generalize l.dropLast = r at hl hlen
    generalize l.getLast hne = a at hl
    subst hl
    have ih' := ih r hlen fun x hx y hy => hf x (List.mem_append_left _ hx) y (List.mem_append_left _ hy)
    rw [List.map_append, List.map_cons, List.map_nil, dd_append, dd_append, ih']
    have hiff : f a ∈ r.map f ↔ a ∈ r := by
      constructor
      · intro hm
        obtain ⟨b, hb, e⟩ := List.mem_map.mp hm
        have := hf b (List.mem_append_left _ hb) a (List.mem_append_right _ (List.mem_singleton.mpr rfl)) e
        rw [← this]; exact hb
      · exact fun hm => List.mem_map.mpr ⟨a, hm, rfl⟩
    by_cases ha : a ∈ r
    · rw [if_pos ha, if_pos (hiff.mpr ha)]
    · rw [if_neg ha, if_neg (fun h => ha (hiff.mp h))]; simp

def newAt (ds : List δ) (k : Nat) : Bool := match ds[k]? with | some d => !decide (d ∈ ds.take k) | none => false
theorem dd_take' (ds : List δ) (i : Nat) : ∀ n, n ≤ ds.length → n = i → dd (ds.take i) = ((List.range i).filter (newAt ds)).filterMap (ds[·]?) := by
  induction i with
  | zero => intro n _ _; rfl
  | succ i ih =>
    intro n hn e
    have hi : i < ds.length := by omega
    rw [List.take_add_one, List.getElem?_eq_getElem hi, List.range_succ, List.filter_append, List.filterMap_append, ← ih i (by omega) rfl]
    show dd (ds.take i ++ [ds[i]]) = _
    rw [dd_append]
    have hnew : newAt ds i = !decide (ds[i] ∈ ds.take i) := by unfold newAt; rw [List.getElem?_eq_getElem hi]
    by_cases h : ds[i] ∈ ds.take i
    · rw [if_pos h]
      have : newAt ds i = false := by rw [hnew]; simp [h]
      simp [List.filter_cons, this]
    · rw [if_neg h]
      have : newAt ds i = true := by rw [hnew]; simp [h]
      simp [List.filter_cons, this, List.getElem?_eq_getElem hi]
theorem dd_new (ds : List δ) : dd ds = ((List.range ds.length).filter (newAt ds)).filterMap (ds[·]?) := by
  have := dd_take' ds ds.length ds.length (Nat.le_refl _) rfl
  rwa [List.take_length] at this

theorem dd_nodup (l : List δ) : (dd l).Nodup := by
  have h : ∀ (l acc : List δ), acc.Nodup → (l.foldl ddS acc).Nodup := by
    intro l
    induction l with
    | nil => intro acc h; exact h
    | cons a l ih =>
      intro acc h
      refine ih _ ?_
      unfold ddS
      split
      · exact h
      · rename_i hn
        rw [List.nodup_append]
        exact ⟨h, by simp, fun x hx y hy e => by rw [List.mem_singleton.mp hy] at e; exact hn (e ▸ hx)⟩
  exact h l [] (by simp)

theorem rem_iff : ∀ (a t : List δ), a.Nodup → t.Nodup → (rem a t = some [] ↔ (∀ d ∈ a, d ∈ t) ∧ ∀ d ∈ t, d ∈ a)
  | [], t, _, _ => by
    simp only [rem, Option.some.injEq]
    constructor
    · rintro rfl; simp
    · rintro ⟨_, h⟩
      cases t with
      | nil => rfl
      | cons x r => exact absurd (h x (List.mem_cons_self ..)) (by simp)
  | x :: r, t, ha, ht => by
    have ha' := List.nodup_cons.mp ha
    simp only [rem]
    by_cases hx : x ∈ t
    · rw [if_pos hx, rem_iff r (t.erase x) ha'.2 (ht.erase x)]
      constructor
      · rintro ⟨h1, h2⟩
        refine ⟨fun d hd => ?_, fun d hd => ?_⟩
        · rcases List.mem_cons.mp hd with rfl | hd
          · exact hx
          · exact List.mem_of_mem_erase (h1 d hd)
        · by_cases e : d = x
          · rw [e]; exact List.mem_cons_self ..
          · exact List.mem_cons_of_mem _ (h2 d ((List.mem_erase_of_ne e).mpr hd))
      · rintro ⟨h1, h2⟩
        refine ⟨fun d hd => ?_, fun d hd => ?_⟩
        · have e : d ≠ x := fun e => ha'.1 (e ▸ hd)
          exact (List.mem_erase_of_ne e).mpr (h1 d (List.mem_cons_of_mem _ hd))
        · have hd' := (ht.mem_erase_iff).mp hd
          rcases List.mem_cons.mp (h2 d hd'.2) with e | h
          · exact absurd e hd'.1
          · exact h
    · rw [if_neg hx]
      constructor
      · intro h; cases h
      · rintro ⟨h1, _⟩; exact absurd (h1 x (List.mem_cons_self ..)) hx

theorem filter_none (a b : List δ) : a.filter (fun x => !decide (x ∈ b)) = [] ↔ ∀ d ∈ a, d ∈ b := by
  rw [List.filter_eq_nil_iff]
  constructor
  · intro h d hd; have := h d hd; simpa using this
  · intro h d hd; simpa using h d hd

/-- the same answers -/
theorem same_answers (f : δ → ε) (hf : ∀ a b, f a = f b → a = b) (a b : List δ) :
    (rem (dd (a.map f)) (dd (b.map f)) = some []) ↔ (a.filter (fun x => !decide (x ∈ b)) = [] ∧ b.filter (fun x => !decide (x ∈ a)) = []) := by
  have key : ∀ (a b : List δ), (∀ d ∈ dd (a.map f), d ∈ dd (b.map f)) ↔ ∀ d ∈ a, d ∈ b := fun a b => by
    constructor
    · intro h d hd
      have := (mem_dd _ _).mp (h (f d) ((mem_dd _ _).mpr (List.mem_map.mpr ⟨d, hd, rfl⟩)))
      obtain ⟨e, he, h2⟩ := List.mem_map.mp this
      rw [← hf _ _ h2]; exact he
    · intro h d hd
      obtain ⟨e, he, rfl⟩ := List.mem_map.mp ((mem_dd _ _).mp hd)
      exact (mem_dd _ _).mpr (List.mem_map.mpr ⟨e, h e he, rfl⟩)
  rw [rem_iff _ _ (dd_nodup _) (dd_nodup _), filter_none, filter_none, key, key]
end

theorem dd_quotes (xs : List Str) : dd (xs.map quoteS) = (dd (xs.map rowsS)).map (fun r => Txt.join crlf (r.map stuffS)) := by
  rw [← dd_map _ _ _ rfl]
  · rw [List.map_map]
    congr 1
    apply List.map_congr_left
    intro x _
    exact (join_rows x).symm
  · intro a ha b hb e
    obtain ⟨x, _, rfl⟩ := List.mem_map.mp ha
    obtain ⟨y, _, rfl⟩ := List.mem_map.mp hb
    try dsimp only at e
    rw [join_rows, join_rows] at e
    exact quoteS_inj e
theorem map_stuff_inj {a b : List Str} (h : a.map stuffS = b.map stuffS) : a = b := (List.map_inj_right (fun _ _ e => stuffS_inj e)).mp h
theorem dd_stuffed (rs : List (List Str)) : dd (rs.map (List.map stuffS)) = (dd rs).map (List.map stuffS) := dd_map _ _ _ rfl fun _ _ _ _ e => map_stuff_inj e
end Mine
end

section
open PySem PySem.W PyProof.Rows PySem.Calls PySem.Builtin PySem.SeqAt
set_option Elab.async false
set_option maxRecDepth 100000
set_option maxHeartbeats 8000000
namespace Mine

theorem Site.insideX {w : World} {n : Nat} {A : Around} {h₀ h : Heap} {base : Heap} {outer : List Env} {mean : ExcName → Option Value} {mg mb m : Str → Option Value} {L : Addr} {env : Env}
    (B : Below A base outer h₀) (X : (hd.heap_39 w.params).In h₀) (T : Top hd.view_39 (looseW hd.view_39 [Str.ofString "_deduplicate", Str.ofString "_twin_re_1", Str.ofString "_twin_re_2"]) mean mg mb h₀)
    (hq : A.handled = none) (hd : A.depth + (n + 1) < recursionLimit) (hu : A.units + 100 + 4 * (n + 1) < cLine) (F : Fr h₀ L h m) (hf : env.frame = some L) (hk : env.scope.kind = .function) :
    Site w n (A.deeper env) h :=
  ⟨⟨base, _, mean, mg, mb, pushX B F hf hk, X.keeps F.keep, T.keeps F.keep⟩, hq, by show A.depth + 1 + n < _; omega, by show A.units + 3 + 100 + 4 * n < _; omega⟩

theorem SiteE.insideX {w : World} {n : Nat} {A : Around} {h₀ h : Heap} {base : Heap} {outer : List Env} {mean : ExcName → Option Value} {mg mb m : Str → Option Value} {L : Addr} {env : Env}
    (B : Below A base outer h₀) (X : (hd.heap_39 w.params).In base) (T : Top hd.view_39 (looseW hd.view_39 [Str.ofString "_deduplicate", Str.ofString "_twin_re_1", Str.ofString "_twin_re_2"]) mean mg mb base)
    (hq : A.handled = none) (hd : A.depth + (n + 1) < recursionLimit) (hu : A.units + 100 + 4 * (n + 1) < cLine) (F : Fr h₀ L h m) (hf : env.frame = some L) (hk : env.scope.kind = .function) :
    SiteE w n (A.deeper env) h :=
  ⟨⟨base, _, mean, mg, mb, pushX B F hf hk, X, T⟩, hq, by show A.depth + 1 + n < _; omega, by show A.units + 3 + 100 + 4 * n < _; omega⟩

/-- all that stands beside the frame, in a ledger -/
theorem freeze {h₀ h : Heap} {L : Addr} {m : Str → Option Value} (F : Fr h₀ L h m) : ∃ fz : List (Addr × Obj), News h₀ L h fz ∧ (∀ b o, h.get? b = some o → h₀.get? b = none → b ≠ L → (b, o) ∈ fz) := by
  refine ⟨(List.range h.objs.size).filterMap (fun b => match h.get? b, h₀.get? b with | some o, none => if b = L then none else some (b, o) | _, _ => none), fun p hp => ?_, fun b o e e0 hb => ?_⟩
  · obtain ⟨b, _, hb⟩ := List.mem_filterMap.mp hp
    cases e : h.get? b with
    | none => rw [e] at hb; cases hb
    | some o =>
      cases e0 : h₀.get? b with
      | some o' => rw [e, e0] at hb; cases hb
      | none =>
        rw [e, e0] at hb
        dsimp only at hb
        by_cases hL : b = L
        · rw [if_pos hL] at hb; cases hb
        · rw [if_neg hL] at hb; cases hb; exact ⟨e, hL, e0⟩
  · refine List.mem_filterMap.mpr ⟨b, List.mem_range.mpr (Heap.lt_size e), ?_⟩
    rw [e, e0]
    dsimp only
    rw [if_neg hb]

theorem frozen {h₀ h h' : Heap} {L : Addr} {m : Str → Option Value} {fz : List (Addr × Obj)} (hz : ∀ b o, h.get? b = some o → h₀.get? b = none → b ≠ L → (b, o) ∈ fz) (F0 : ∀ b o, h₀.get? b = some o → h.get? b = some o)
    (F' : Fr h₀ L h' m) (N' : News h₀ L h' fz) : Ext (TI.gone h [L]) h' := fun b o e => by
  obtain ⟨hb, e1⟩ := TI.gone_some e
  have hb' : b ≠ L := fun q => hb (by rw [q]; exact List.mem_singleton.mpr rfl)
  cases e0 : h₀.get? b with
  | none => exact (N' _ (hz b o e1 e0 hb')).1
  | some o' =>
    have := F0 b o' e0
    rw [e1] at this; cases this
    exact F'.keep b o e0

theorem ext_gone {G h : Heap} {L : Addr} (hG : Ext G h) (hL : G.get? L = none) : Ext G (TI.gone h [L]) := fun b o e => by
  rw [TI.gone_get (fun hm => by rw [List.mem_singleton.mp hm, hL] at e; cases e)]; exact hG b o e
theorem gone_at {h : Heap} {L b : Addr} {o : Obj} (e : h.get? b = some o) (hb : b ≠ L) : (TI.gone h [L]).get? b = some o := by
  rw [TI.gone_get (fun hm => hb (List.mem_singleton.mp hm))]; exact e
theorem gone_L {h : Heap} {L : Addr} : (TI.gone h [L]).get? L = none := by
  cases e : (TI.gone h [L]).get? L with
  | none => rfl
  | some o => exact absurd (List.mem_singleton.mpr rfl) (TI.gone_some e).1

section
variable {prog : Program} {w : World} {A : Around} {E : Value → Shared → Prop} {env : Env} {s : Shared}

/-- a def of the text called by its name, with one argument -/
theorem call1 {K : Frag} {fe e : Expr} {pos : Pos} {f : Value} {Q : Value → Shared → Prop} (X : K.In s.heap) (hk : keepIn K f = true) (hf : ∀ Q', Q' f s → wpAny (model prog w) A (eval fe env) Q' E s)
    (h : wpAny (model prog w) A (eval e env) (fun v s₁ => Ext s.heap s₁.heap ∧ wpAny (model prog w) A (call f [v]) Q E s₁) E s)
    (he : eval (.Call fe [e] [] pos) env = (do callWith pos (← eval fe env) [] (backTo pos (starEach [e] env)) (backToKw pos (keywordEach [] env))) := by rfl)
    (he1 : starEach [e] env = (false, eval e env) :: starEach [] env := by rfl) : wpAny (model prog w) A (eval (.Call fe [e] [] pos) env) Q E s := by
  refine Call_ (hf _ ?_) he
  refine callWith_K X hk (args_cons (wpAny_mono h (fun v s₁ h₁ => args_nil ⟨X.keeps h₁.1, h₁.2⟩) fun _ _ e => e) he1) he1

theorem name_glob {K : Frag} {h₀ : Heap} {mg mb : Str → Option Value} {p : Program} {loose : List Str} {x : Str} {pos : Pos} {v : Value} {Q : Value → Shared → Prop} (X : K.In h₀) (T : TopRead p loose mg mb h₀) (hx0 : Ext h₀ s.heap)
    (e : nsIn K mainGlobals x = some (some v)) (h : Q v s) (hg : env.globals = mainGlobals) (hk : env.scope.kind = .function) (hx : env.kindOf x = some .globalImplicit) (hd : (x == ("__debug__" : Str)) = false) :
    wpAny (model prog w) A (eval (.Name x pos) env) Q E s :=
  Name_function_global hk hx (loadGlobal_global (env := env) (by rw [hg]; exact T.g.keeps hx0) (mg_of X T.g e) h) hd

section
variable {elt iter : Expr} {x y : Str} {px py : Pos} {ifs : List Expr} {scope : Scope} {cl : List (Str × Addr)} {pos spos : Pos} {l : Addr} {vs : List Value} {m : Str → Option Value}

/-- y = [elt for x in l], elements that are values -/
theorem asg_val (p : Value → Bool) (F : Value → Value → Prop) {Q : Flow → Shared → Prop}
    (hsw : swapsWith (.ListComp elt [⟨.Name x px, iter, ifs, 0⟩] scope pos) (some (.Name y py)) spos.line env = pure true)
    (hclos : closureFor scope env = pure cl) (hcell : ∀ y ∈ scope.names, y.2 ≠ .cell) (hkind : scope.kind = .function)
    (hnames : ∀ y ∈ scope.names, y.2 = .local → scope.names.lookup y.1 = some .local) (hx : scope.names.lookup x = some .local)
    (hy : env.kindOf y = some .local) (hp : (env.scope.kind == .class || (env.scope.kind == .module && env.locals != env.globals)) = false)
    (hh : A.handled = none) (hm : s.heap.Ns env.locals m) (hit : ∀ Q, Q (.ref l) s → wpAny (model prog w) A (eval iter env) Q E s) (hl : s.heap.IsList l vs.toArray) (hsz : vs.length ≤ 2 ^ 20)
    (ht : OverL prog w A env scope cl x ifs vs p s)
    (he : ∀ C v s₃ m₃ E', v ∈ vs → p v = true → s₃.heap.Ns C m₃ → m₃ x = some v → Ext s.heap s₃.heap → s.heap.get? C = none → wpAny (model prog w) A (eval elt (compEnvC scope cl C env)) (fun y s₄ => F v y ∧ Keeps s₃ s₄) E' s₃)
    (ret : ∀ D h' tk ys, s.heap.get? D = none → h'.PlainList D ys → Paired F (vs.filter p) ys.toList → h'.Ns env.locals (fun z => if z = y then some (.ref D) else m z) → (∀ b o, b ≠ env.locals → s.heap.get? b = some o → h'.get? b = some o) → Q .next { s with heap := h', toks := tk })
    (hs : ∀ x, foldedSetIterable iter env x = pure x := by intro _; rfl) :
    wpAny (model prog w) A (exec (.Assign [.Name y py] (.ListComp elt [⟨.Name x px, iter, ifs, 0⟩] scope pos) spos) env) Q E s := by
  have hlt : l < s.heap.objs.size := by obtain ⟨o, e, _⟩ := hl; exact Heap.lt_size e
  have up : ∀ {b : Addr} {o : Obj}, s.heap.get? b = some o → b ∉ [s.heap.objs.size] := fun e hm => absurd (Heap.lt_size e) ((List.mem_singleton.mp hm) ▸ Nat.lt_irrefl _)
  refine wpAny_Assign_ListComp_free p F hsw hclos hcell hkind hnames hx hy hp (hit _ (wpAny_pyIter_list hl ?_)) hs
  refine ⟨_, _, _, _, _, _, m, rfl, Walks.list hh s.heap.objs.size l (Nat.ne_of_lt hlt) vs.toArray, by simp only [List.size_toArray]; unfold sizeLine; omega,
    ⟨⟨_, Heap.get?_push_size _ rfl, rfl, rfl⟩, hl.at fun o e => Heap.get?_push_of_some _ e⟩, ?_, ?_, hm.keeps (fun _ _ e => Heap.get?_push_of_some _ e), ⟨?_, ?_⟩, ?_⟩
  · intro b hb
    show b < (s.heap.push _).objs.size
    rw [Heap.size_push]
    rcases List.mem_cons.mp hb with rfl | hb
    · exact Nat.lt_succ_self _
    · rw [List.mem_singleton.mp hb]; exact Nat.lt_succ_of_lt hlt
  · obtain ⟨o, _, _, ho, _⟩ := hm
    exact up ho
  · intro C i v s₃ m₃ E' hC hP hn hm hk _
    have hC' : s.heap.objs.size + 1 ≤ C := by have : (s.heap.push _).objs.size ≤ C := hC; rwa [Heap.size_push] at this
    exact ht.tests C v s₃ m₃ E' (by have := Array.mem_of_getElem? hP; simpa using this) hn hm (fun b o e => hk b o (up e) (Heap.get?_push_of_some _ e)) (PySem.Heap.get?_none_of_le (Nat.le_of_succ_le hC'))
  · intro C i v s₃ m₃ E' hC hP hpv hn hm hk _
    have hC' : s.heap.objs.size + 1 ≤ C := by have : (s.heap.push _).objs.size ≤ C := hC; rwa [Heap.size_push] at this
    exact he C v s₃ m₃ E' (by have := Array.mem_of_getElem? hP; simpa using this) hpv hn hm (fun b o e => hk b o (up e) (Heap.get?_push_of_some _ e)) (PySem.Heap.get?_none_of_le (Nat.le_of_succ_le hC'))
  · intro D h' tk ys us hD _ hpl hlen hP hF hns hk
    have e : us = vs := mem_of_get (by simpa using hlen) hP
    subst e
    refine ret D h' tk ys ?_ hpl hF hns fun b o hb e => hk b o hb (up e) (Heap.get?_push_of_some _ e)
    cases e : s.heap.get? D with
    | none => rfl
    | some o => rw [Heap.get?_push_of_some _ e] at hD; cases hD

/-- y = [elt for x in l], elements that are new lists -/
theorem asg_lst (p : Value → Bool) (G : Value → Array Value → Prop) {Q : Flow → Shared → Prop}
    (hsw : swapsWith (.ListComp elt [⟨.Name x px, iter, ifs, 0⟩] scope pos) (some (.Name y py)) spos.line env = pure true)
    (hclos : closureFor scope env = pure cl) (hcell : ∀ y ∈ scope.names, y.2 ≠ .cell) (hkind : scope.kind = .function)
    (hnames : ∀ y ∈ scope.names, y.2 = .local → scope.names.lookup y.1 = some .local) (hx : scope.names.lookup x = some .local)
    (hy : env.kindOf y = some .local) (hp : (env.scope.kind == .class || (env.scope.kind == .module && env.locals != env.globals)) = false)
    (hh : A.handled = none) (hm : s.heap.Ns env.locals m) (hit : ∀ Q, Q (.ref l) s → wpAny (model prog w) A (eval iter env) Q E s) (hl : s.heap.IsList l vs.toArray) (hsz : vs.length ≤ 2 ^ 20)
    (ht : OverL prog w A env scope cl x ifs vs p s)
    (he : ∀ C v s₃ m₃ E', v ∈ vs → p v = true → s₃.heap.Ns C m₃ → m₃ x = some v → Ext s.heap s₃.heap → s.heap.get? C = none →
      wpAny (model prog w) A (eval elt (compEnvC scope cl C env)) (fun y s₄ => (∃ T its, y = .ref T ∧ s₃.heap.get? T = none ∧ s₄.heap.IsList T its ∧ G v its) ∧ Keeps s₃ s₄) E' s₃)
    (ret : ∀ D h' tk ys, s.heap.get? D = none → h'.PlainList D ys → Paired (LstIs s.heap G h') (vs.filter p) ys.toList → h'.Ns env.locals (fun z => if z = y then some (.ref D) else m z) → (∀ b o, b ≠ env.locals → s.heap.get? b = some o → h'.get? b = some o) → Q .next { s with heap := h', toks := tk })
    (hs : ∀ x, foldedSetIterable iter env x = pure x := by intro _; rfl) :
    wpAny (model prog w) A (exec (.Assign [.Name y py] (.ListComp elt [⟨.Name x px, iter, ifs, 0⟩] scope pos) spos) env) Q E s := by
  have hlt : l < s.heap.objs.size := by obtain ⟨o, e, _⟩ := hl; exact Heap.lt_size e
  have up : ∀ {b : Addr} {o : Obj}, s.heap.get? b = some o → b ∉ [s.heap.objs.size] := fun e hm => absurd (Heap.lt_size e) ((List.mem_singleton.mp hm) ▸ Nat.lt_irrefl _)
  have older : ∀ (ob : Obj) (T : Addr), (s.heap.push ob).get? T = none → s.heap.get? T = none := fun ob T hT => by
    cases e : s.heap.get? T with
    | none => rfl
    | some o => rw [Heap.get?_push_of_some _ e] at hT; cases hT
  refine assign_compO p G hsw hclos hcell hkind hnames hx hy hp (hit _ (wpAny_pyIter_list hl ?_)) hs
  refine ⟨_, _, _, _, _, _, m, rfl, Walks.list hh s.heap.objs.size l (Nat.ne_of_lt hlt) vs.toArray, by simp only [List.size_toArray]; unfold sizeLine; omega, ?_,
    ⟨⟨_, Heap.get?_push_size _ rfl, rfl, rfl⟩, hl.at fun o e => Heap.get?_push_of_some _ e⟩, ?_, ?_, hm.keeps (fun _ _ e => Heap.get?_push_of_some _ e), ⟨?_, ?_⟩, ?_⟩
  · rintro i h ⟨⟨o, ho, _⟩, _⟩ b hb
    rw [List.mem_singleton.mp hb]; exact ⟨o, ho⟩
  · intro b hb
    show b < (s.heap.push _).objs.size
    rw [Heap.size_push]
    rcases List.mem_cons.mp hb with rfl | hb
    · exact Nat.lt_succ_self _
    · rw [List.mem_singleton.mp hb]; exact Nat.lt_succ_of_lt hlt
  · obtain ⟨o, _, _, ho, _⟩ := hm
    exact up ho
  · intro C i v s₃ m₃ E' hC hP hn hm hk _
    have hC' : s.heap.objs.size + 1 ≤ C := by have : (s.heap.push _).objs.size ≤ C := hC; rwa [Heap.size_push] at this
    exact ht.tests C v s₃ m₃ E' (by have := Array.mem_of_getElem? hP; simpa using this) hn hm (fun b o e => hk b o (up e) (Heap.get?_push_of_some _ e)) (PySem.Heap.get?_none_of_le (Nat.le_of_succ_le hC'))
  · intro C i v s₃ m₃ E' hC hP hpv hn hm hk _
    have hC' : s.heap.objs.size + 1 ≤ C := by have : (s.heap.push _).objs.size ≤ C := hC; rwa [Heap.size_push] at this
    exact he C v s₃ m₃ E' (by have := Array.mem_of_getElem? hP; simpa using this) hpv hn hm (fun b o e => hk b o (up e) (Heap.get?_push_of_some _ e)) (PySem.Heap.get?_none_of_le (Nat.le_of_succ_le hC'))
  · intro D h' tk ys us hD _ hpl hlen hP hF _ hns hk
    have e : us = vs := mem_of_get (by simpa using hlen) hP
    subst e
    refine ret D h' tk ys (older _ _ hD) hpl (hF.mono fun _ _ hy => ?_) hns fun b o hb e => hk b o hb (up e) (Heap.get?_push_of_some _ e)
    obtain ⟨T, its, rfl, h1, h2, h3⟩ := hy
    exact ⟨T, its, rfl, older _ _ h1, h2, h3⟩

/-- y = [elt for x in range(n) if ..], elements that are new lists -/
theorem asg_range (p : Value → Bool) (G : Value → Array Value → Prop) {Q : Flow → Shared → Prop}
    (hsw : swapsWith (.ListComp elt [⟨.Name x px, iter, ifs, 0⟩] scope pos) (some (.Name y py)) spos.line env = pure true)
    (hclos : closureFor scope env = pure cl) (hcell : ∀ y ∈ scope.names, y.2 ≠ .cell) (hkind : scope.kind = .function)
    (hnames : ∀ y ∈ scope.names, y.2 = .local → scope.names.lookup y.1 = some .local) (hx : scope.names.lookup x = some .local)
    (hy : env.kindOf y = some .local) (hp : (env.scope.kind == .class || (env.scope.kind == .module && env.locals != env.globals)) = false)
    (hh : A.handled = none)
    (h : wpAny (model prog w) A (eval iter env) (fun xv s₁ => ∃ r, ∃ n : Nat, ∃ t u v m, xv = .ref r ∧ IsRange s₁.heap r 0 n 1 t u v ∧ n ≤ 2 ^ 20 ∧ s₁.heap.Ns env.locals m ∧
      (∀ C k t s₃ m₃ E', k < n → s₃.heap.Ns C m₃ → m₃ x = some (.int (k : Nat) t) → Ext s₁.heap s₃.heap → s₁.heap.get? C = none →
        wpAny (model prog w) A (forIn ifs true fun c r => if r = true then do let ok ← isTrue c (compEnvC scope cl C env) (eval c (compEnvC scope cl C env)); pure (ForInStep.yield ok) else pure (ForInStep.yield r))
        (fun ok s₄ => ok = p (.int (k : Nat) t) ∧ Keeps s₃ s₄) E' s₃) ∧
      (∀ C k t s₃ m₃ E', k < n → p (.int (k : Nat) t) = true → s₃.heap.Ns C m₃ → m₃ x = some (.int (k : Nat) t) → Ext s₁.heap s₃.heap → s₁.heap.get? C = none →
        wpAny (model prog w) A (eval elt (compEnvC scope cl C env)) (fun y s₄ => (∃ T its, y = .ref T ∧ s₃.heap.get? T = none ∧ s₄.heap.IsList T its ∧ G (.int (k : Nat) t) its) ∧ Keeps s₃ s₄) E' s₃) ∧
      (∀ D h' tk ys (us : List Value), s₁.heap.get? D = none → h'.PlainList D ys → us.length = n → (∀ (j : Nat) v, us[j]? = some v → ∃ t, v = .int (j : Nat) t) → Paired (LstIs s₁.heap G h') (us.filter p) ys.toList → h'.Ns env.locals (fun z => if z = y then some (.ref D) else m z) → (∀ b o, b ≠ env.locals → s₁.heap.get? b = some o → h'.get? b = some o) → Q .next { s₁ with heap := h', toks := tk })) E s)
    (hs : ∀ x, foldedSetIterable iter env x = pure x := by intro _; rfl) :
    wpAny (model prog w) A (exec (.Assign [.Name y py] (.ListComp elt [⟨.Name x px, iter, ifs, 0⟩] scope pos) spos) env) Q E s := by
  refine assign_compO p G hsw hclos hcell hkind hnames hx hy hp (wpAny_mono h (fun xv s₁ h₁ => ?_) fun _ _ e => e) hs
  obtain ⟨r, n, t₀, u₀, v₀, m, rfl, hr, hsz, hm, htests, helt, hQ⟩ := h₁
  have up : ∀ {b : Addr} {o : Obj}, s₁.heap.get? b = some o → b ∉ [s₁.heap.objs.size] := fun e hm => absurd (Heap.lt_size e) ((List.mem_singleton.mp hm) ▸ Nat.lt_irrefl _)
  have older : ∀ (ob : Obj) (T : Addr), (s₁.heap.push ob).get? T = none → s₁.heap.get? T = none := fun ob T hT => by
    cases e : s₁.heap.get? T with
    | none => rfl
    | some o => rw [Heap.get?_push_of_some _ e] at hT; cases hT
  have hrs : Builtin.Range.rangeSize 0 n 1 = (n : Int) := by
    unfold Builtin.Range.rangeSize
    cases n with
    | zero => rfl
    | succ k => simp
  have hsm : Builtin.Range.small 0 n 1 = true := by
    unfold Builtin.Range.small
    rw [hrs]
    have h1 : Builtin.Range.rangeFitsLong (n : Int) = true := by unfold Builtin.Range.rangeFitsLong; simp; omega
    have h2 : ((n : Int) + (1 - 1)) = n := by omega
    rw [if_pos (by decide), h2, h1]
    simp
    decide
  refine wpAny_pyIter_range hr hsm ?_
  refine ⟨s₁.heap.objs.size, [s₁.heap.objs.size], [s₁.heap.objs.size], n, _, _, m, rfl, (Walks.range hh _ 0 1 n).bound, by unfold sizeLine; omega, ?_, (by show IsRangeIter _ _ _ _ _; rw [hrs]; simpa using Heap.get?_push_size _ rfl), ?_, ?_, hm.push _, ⟨?_, ?_⟩, ?_⟩
  · intro i h hst b hb
    rw [List.mem_singleton.mp hb]
    exact ⟨_, hst⟩
  · intro b hb
    show b < (s₁.heap.push _).objs.size
    rw [Heap.size_push, List.mem_singleton.mp hb]
    exact Nat.lt_succ_self _
  · obtain ⟨o, _, _, ho, _⟩ := hm
    exact up ho
  · intro C i v s₃ m₃ E' hC hP hn hm hk _
    obtain ⟨hi, t, e⟩ := hP
    have e' : v = .int (i : Nat) t := by rw [e, Int.zero_add, Int.mul_one]
    subst e'
    have hC' : s₁.heap.objs.size + 1 ≤ C := by have : (s₁.heap.push _).objs.size ≤ C := hC; rwa [Heap.size_push] at this
    exact htests C i t s₃ m₃ E' hi hn hm (fun b o e => hk b o (up e) (Heap.get?_push_of_some _ e)) (PySem.Heap.get?_none_of_le (Nat.le_of_succ_le hC'))
  · intro C i v s₃ m₃ E' hC hP hpv hn hm hk _
    obtain ⟨hi, t, e⟩ := hP
    have e' : v = .int (i : Nat) t := by rw [e, Int.zero_add, Int.mul_one]
    subst e'
    have hC' : s₁.heap.objs.size + 1 ≤ C := by have : (s₁.heap.push _).objs.size ≤ C := hC; rwa [Heap.size_push] at this
    exact helt C i t s₃ m₃ E' hi hpv hn hm (fun b o e => hk b o (up e) (Heap.get?_push_of_some _ e)) (PySem.Heap.get?_none_of_le (Nat.le_of_succ_le hC'))
  · intro D h' tk ys us hD _ hpl hlen hP hF _ hns hk
    refine hQ D h' tk ys us (older _ _ hD) hpl hlen (fun j v hv => ?_) (hF.mono fun _ _ hy => ?_) hns fun b o hb e => hk b o hb (up e) (Heap.get?_push_of_some _ e)
    · obtain ⟨hi, t, e⟩ := hP j v hv
      exact ⟨t, by rw [e, Int.zero_add, Int.mul_one]⟩
    obtain ⟨T, its, rfl, h1, h2, h3⟩ := hy
    exact ⟨T, its, rfl, older _ _ h1, h2, h3⟩
end
end
end Mine
end

section
open PySem PySem.W PyProof.Rows PySem.Calls PySem.Builtin PySem.SeqAt
set_option Elab.async false
set_option maxRecDepth 100000
set_option maxHeartbeats 8000000
namespace Mine
theorem ns_rows (w : World) : nsIn (hd.heap_39 w.params) mainGlobals (Str.ofString "_law_rows") = some (some (.ref 82)) ∧ keepIn (hd.heap_39 w.params) (.ref 82) = true := by
  have r : PySem.Challenge.rw_nb0028_01 = PySem.Challenge.rw_nb0028_01 := rfl
  revert r; k_fill; intro _
  constructor <;> k_is
theorem ns_stuffed (w : World) : nsIn (hd.heap_39 w.params) mainGlobals (Str.ofString "_law_stuffed") = some (some (.ref 87)) ∧ keepIn (hd.heap_39 w.params) (.ref 87) = true := by
  have r : PySem.Challenge.rw_nb0028_01 = PySem.Challenge.rw_nb0028_01 := rfl
  revert r; k_fill; intro _
  constructor <;> k_is
theorem ns_quote (w : World) : nsIn (hd.heap_39 w.params) mainGlobals (Str.ofString "quotedata") = some (some (.ref 70)) ∧ keepIn (hd.heap_39 w.params) (.ref 70) = true := by
  have r : PySem.Challenge.rw_nb0028_01 = PySem.Challenge.rw_nb0028_01 := rfl
  revert r; k_fill; intro _
  constructor <;> k_is

section
variable {w : World} {A : Around} {E : Value → Shared → Prop} {env : Env} {s : Shared}
theorem fn_call {n : Nat} {fn : Str} {f : Addr} {e : Expr} {p pos : Pos} {Q : Value → Shared → Prop} (S : Site w n A s.heap) (hns : nsIn (hd.heap_39 w.params) mainGlobals fn = some (some (.ref f)) ∧ keepIn (hd.heap_39 w.params) (.ref f) = true)
    (hg : env.globals = mainGlobals) (hk : env.scope.kind = .function) (hx : env.kindOf fn = some .globalImplicit) (hd : (fn == ("__debug__" : Str)) = false)
    (h : wpAny (model PySem.Challenge.rw_nb0028_01.row.prog w) A (eval e env) (fun v s₁ => Ext s.heap s₁.heap ∧ wpAny (model PySem.Challenge.rw_nb0028_01.row.prog w) A (call (.ref f) [v]) Q E s₁) E s)
    (he1 : starEach [e] env = (false, eval e env) :: starEach [] env := by rfl) :
    wpAny (model PySem.Challenge.rw_nb0028_01.row.prog w) A (eval (.Call (.Name fn p) [e] [] pos) env) Q E s := by
  obtain ⟨⟨base, outer, mean, mg, mb, B, X, T⟩, _, _, _⟩ := S
  exact call1 X hns.2 (fun Q' hQ => name_glob X (topRead_of T) (fun _ _ e => e) hns.1 hQ hg hk hx hd) h rfl he1

theorem elt_rows {x t : Str} {fp pp pos : Pos} {m : Str → Option Value} {tk : Tok} (S : Site w 3 A s.heap) (hg : env.globals = mainGlobals) (hk : env.scope.kind = .function) (hx : env.kindOf (Str.ofString "_law_rows") = some .globalImplicit)
    (hl : env.kindOf t = some .local) (hn : s.heap.Ns env.locals m) (hm : m t = some (.str x tk)) (hz : x.length ≤ 2 ^ 12) (hd : (t == ("__debug__" : Str)) = false) :
    wpAny (model PySem.Challenge.rw_nb0028_01.row.prog w) A (eval (.Call (.Name (Str.ofString "_law_rows") fp) [.Name t pp] [] pos) env)
      (fun y s₄ => (∃ T its, y = .ref T ∧ s.heap.get? T = none ∧ s₄.heap.IsList T its ∧ StrsAre its.toList (rowsS x)) ∧ Keeps s s₄) E s := by
  refine fn_call S (ns_rows w) hg hk hx (by decide) (wpAny_Name (wpAny_loadName_local hk hl hn hm ⟨fun _ _ e => e, ?_⟩) hd)
  refine rows_at S hz fun D vs h' tk' hD hp hs he => ⟨⟨D, vs.toArray, rfl, hD, ?_, hs⟩, _, _, rfl, he⟩
  obtain ⟨n, e⟩ := hp
  exact ⟨_, e, rfl, n, rfl⟩

theorem elt_quote {x t : Str} {fp pp pos : Pos} {m : Str → Option Value} {tk : Tok} (S : Site w 3 A s.heap) (hg : env.globals = mainGlobals) (hk : env.scope.kind = .function) (hx : env.kindOf (Str.ofString "quotedata") = some .globalImplicit)
    (hl : env.kindOf t = some .local) (hn : s.heap.Ns env.locals m) (hm : m t = some (.str x tk)) (hz : x.length ≤ 2 ^ 12) (hd : (t == ("__debug__" : Str)) = false) {Q : Value → Shared → Prop}
    (ret : ∀ h' tk t', Ext s.heap h' → Q (.str (quoteS x) t') { s with heap := h', toks := tk }) :
    wpAny (model PySem.Challenge.rw_nb0028_01.row.prog w) A (eval (.Call (.Name (Str.ofString "quotedata") fp) [.Name t pp] [] pos) env) Q E s := by
  refine fn_call S (ns_quote w) hg hk hx (by decide) (wpAny_Name (wpAny_loadName_local hk hl hn hm ⟨fun _ _ e => e, ?_⟩) hd)
  exact quote_at S hz ret

theorem item_at {value : Expr} {kx : Str} {pk pos : Pos} {D : Addr} {ws : Array Value} {k : Nat} {t : Tok} {v : Value} {Q : Value → Shared → Prop} (hr : ∀ Q, Q (.ref D) s → wpAny (model PySem.Challenge.rw_nb0028_01.row.prog w) A (eval value env) Q E s)
    (hk : ∀ Q, Q (.int (k : Nat) t) s → wpAny (model PySem.Challenge.rw_nb0028_01.row.prog w) A (eval (.Name kx pk) env) Q E s) (hl : s.heap.IsList D ws) (hkz : k < 2 ^ 20) (hv : ws[k]? = some v) (h : Q v s)
    (hg : ∀ r, letTemporaryGo value (.ref D) r = pure ()) : wpAny (model PySem.Challenge.rw_nb0028_01.row.prog w) A (eval (.Subscript value (.Name kx pk) pos) env) Q E s :=
  Subscript_ (hr _ (hk _ (item_list hl (by omega) (by omega) (by simpa using hv) h (by with_unfolding_all rfl) hg)))

theorem upto_at {value : Expr} {kx : Str} {pk p pos : Pos} {D : Addr} {ws : Array Value} {k : Nat} {t : Tok} {Q : Value → Shared → Prop} (hr : ∀ Q, Q (.ref D) s → wpAny (model PySem.Challenge.rw_nb0028_01.row.prog w) A (eval value env) Q E s)
    (hk : ∀ Q, Q (.int (k : Nat) t) s → wpAny (model PySem.Challenge.rw_nb0028_01.row.prog w) A (eval (.Name kx pk) env) Q E s) (hl : s.heap.IsList D ws) (hkz : k ≤ ws.size) (hz : ws.size ≤ 2 ^ 20)
    (h : ∀ T h', h'.IsList T (ws.toList.take k).toArray → Ext s.heap h' → Q (.ref T) { s with heap := h' })
    (ht : ∀ o r, letTemporaryGo value o r = pure ()) : wpAny (model PySem.Challenge.rw_nb0028_01.row.prog w) A (eval (.Subscript value (.Slice none (some (.Name kx pk)) none p) pos) env) Q E s := by
  refine wpAny_Subscript_list_slice (hr _ (wpAny_evalPart_none (wpAny_evalPart_some (hk _ ?_)))) ht
  refine ⟨D, ws, none, some (k : Nat), rfl, hl, by unfold sizeLine; omega, .none, .int _ _, h _ _ ?_ fun b o e => Heap.get?_push_of_some _ (Heap.get?_push_of_some _ e)⟩
  rw [slicePick_upto ws k hkz]
  refine ⟨{ cls := .type "list", data := .seq (ws.toList.take k).toArray }, ?_, rfl, 0, rfl⟩
  have e1 := Heap.get?_push_size (s.heap.push { cls := .type "slice", data := .fields #[.none, .int (k : Nat) t, .none] }) (o := { cls := .type "list", data := .seq (ws.toList.take k).toArray }) rfl
  rw [Heap.size_push] at e1
  exact e1

theorem paired_take {α β : Type} {F : α → β → Prop} : ∀ {l₁ : List α} {l₂ : List β}, Paired F l₁ l₂ → ∀ k, Paired F (l₁.take k) (l₂.take k)
  | _, _, .nil, k => by simp only [List.take_nil]; exact .nil
  | _, _, .cons h t, 0 => .nil
  | _, _, .cons h t, k + 1 => .cons h (paired_take t k)

theorem test_new {δ : Type} [DecidableEq δ] {c : Nat} {K : Heap → Value → δ → Prop} (hK : Key c K) (hu : A.units + (c + 1) < cLine) {value value2 : Expr} {kx : Str} {p1 p2 p3 pk pk2 pos : Pos} {D : Addr} {ws : Array Value} {ds : List δ} {k : Nat} {t : Tok} {d : δ}
    (hr : ∀ Q, Q (.ref D) s → wpAny (model PySem.Challenge.rw_nb0028_01.row.prog w) A (eval value env) Q E s) (hr2 : ∀ Q, Q (.ref D) s → wpAny (model PySem.Challenge.rw_nb0028_01.row.prog w) A (eval value2 env) Q E s)
    (hk : ∀ Q pk, Q (.int (k : Nat) t) s → wpAny (model PySem.Challenge.rw_nb0028_01.row.prog w) A (eval (.Name kx pk) env) Q E s) (hl : s.heap.IsList D ws) (hz : ws.size ≤ 2 ^ 12) (hp : Paired (K s.heap) ws.toList ds) (hd : ds[k]? = some d)
    (hg : ∀ o r, letTemporaryGo value o r = pure ()) (hg2 : ∀ o r, letTemporaryGo value2 o r = pure ()) (hm : behindInMarks .NotIn (.Subscript value2 (.Slice none (some (.Name kx pk2)) none p2) p3) = false) :
    wpAny (model PySem.Challenge.rw_nb0028_01.row.prog w) A (forIn [.Compare (.Subscript value (.Name kx pk) p1) [.NotIn] [.Subscript value2 (.Slice none (some (.Name kx pk2)) none p2) p3] pos] true fun c r => if r = true then do let ok ← isTrue c env (eval c env); pure (ForInStep.yield ok) else pure (ForInStep.yield r))
      (fun ok s₄ => ok = (!decide (d ∈ ds.take k)) ∧ Keeps s s₄) E s := by
  have hlen := hp.length
  simp only [Array.length_toList] at hlen
  have hkl : k < ds.length := by
    cases Nat.lt_or_ge k ds.length with
    | inl h => exact h
    | inr h => rw [List.getElem?_eq_none h] at hd; cases hd
  have hKv := paired_get hp k (by simpa using (by omega : k < ws.size)) hkl
  have hd' : d = ds[k] := by rw [List.getElem?_eq_getElem hkl] at hd; cases hd; rfl
  subst hd'
  refine one_test (wpAny_isTrue_Compare1 ?_ hm)
  refine item_at hr (fun Q h => hk Q _ h) hl (by omega) (v := ws[k]'(by omega)) (Array.getElem?_eq_getElem (by omega)) ?_ (hg _)
  refine upto_at hr2 (fun Q h => hk Q _ h) hl (by omega) (by omega) (fun T h' hT he => ?_) hg2
  refine hK.notIn (s := { s with heap := h' }) hu hT (ds := ds.take k) (d := ds[k]) ?_ (hK.ext _ _ _ _ he (by simpa using hKv)) ?_
  · exact (paired_take hp k).mono fun _ _ x => hK.ext _ _ _ _ he x
  · exact wpAny_truthy_bool ⟨rfl, h', s.toks, rfl, he⟩

theorem str_meth1 {o e : Expr} {name : Str} {apos pos : Pos} {id : String} {pl : Sem Bool} {Q : Value → Shared → Prop} (hslot : Slot "str" name id) (hty : typeOf (.builtin id) = pure (.type "method_descriptor"))
    (h : wpAny (model PySem.Challenge.rw_nb0028_01.row.prog w) A (eval o env) (fun ov s₁ => ∃ x t, ov = .str x t ∧ wpAny (model PySem.Challenge.rw_nb0028_01.row.prog w) A (eval e env) (fun v s₂ => wpAny (model PySem.Challenge.rw_nb0028_01.row.prog w) A (call (.builtin id) [.str x t, v]) Q E s₂) E s₁) E s)
    (he : eval (.Call (.Attribute o name apos) [e] [] pos) env = (do
      let ov ← eval o env
      standAt apos.atName
      let (f, first) ← holding [ov] (getMethod ov name pl)
      callWith pos f first (backTo pos (starEach [e] env)) []))
    (he1 : starEach [e] env = (false, eval e env) :: starEach [] env) :
    wpAny (model PySem.Challenge.rw_nb0028_01.row.prog w) A (eval (.Call (.Attribute o name apos) [e] [] pos) env) Q E s := by
  refine MethodCall_ (wpAny_mono h (fun ov s₁ h₁ => ?_) fun _ _ e => e) he
  obtain ⟨x, t, rfl, h₁⟩ := h₁
  refine getMethod_builtin (T := "str") (typeIs_str _ _ _) PySem.F.plainAttrs_str hslot hty (fun _ e => nomatch e) ?_
  exact callWith_method1 (args_cons (wpAny_mono h₁ (fun v s₂ h₂ => args_nil h₂) fun _ _ e => e) he1) he1

theorem elt_split {o : Expr} {apos pos pc : Pos} {kk : Nat} {pl : Sem Bool} {x : Str} {Q : Value → Shared → Prop} (hx : x.length ≤ 2 ^ 20)
    (ho : ∀ Q' : Value → Shared → Prop, (∀ h' tk t', Ext s.heap h' → Q' (.str x t') { s with heap := h', toks := tk }) → wpAny (model PySem.Challenge.rw_nb0028_01.row.prog w) A (eval o env) Q' E s)
    (h : ∀ D vs h' tk, s.heap.get? D = none → h'.IsList D vs.toArray → StrsAre vs ((pieces crlf.cps.toList x.cps.toList).map S) → Ext s.heap h' → Q (.ref D) { s with heap := h', toks := tk })
    (he : eval (.Call (.Attribute o (Str.ofString "split") apos) [.Constant (.str crlf) kk pc] [] pos) env = (do
      let ov ← eval o env
      standAt apos.atName
      let (f, first) ← holding [ov] (getMethod ov (Str.ofString "split") pl)
      callWith pos f first (backTo pos (starEach [.Constant (.str crlf) kk pc] env)) []))
    (he1 : starEach [.Constant (.str crlf) kk pc] env = (false, eval (.Constant (.str crlf) kk pc) env) :: starEach [] env) :
    wpAny (model PySem.Challenge.rw_nb0028_01.row.prog w) A (eval (.Call (.Attribute o (Str.ofString "split") apos) [.Constant (.str crlf) kk pc] [] pos) env) Q E s := by
  refine str_meth1 PySem.F.slot_str_split PySem.F.type_str_split (ho _ fun h' tk t' hk => ⟨x, t', rfl, ?_⟩) he he1
  refine Constant_str ?_
  refine split_call (by decide +kernel) (by decide +kernel) hx fun vs tk' hv => ?_
  refine h _ vs _ tk' ?_ ⟨_, Heap.get?_push_size _ rfl, rfl, 0, rfl⟩ hv fun b o e => Heap.get?_push_of_some _ (hk b o e)
  cases e : s.heap.get? h'.objs.size with
  | none => rfl
  | some o => exact absurd (Heap.lt_size (hk _ _ e)) (Nat.lt_irrefl _)

theorem elt_join {sep : Str} {r : Str} {apos pos pc pr : Pos} {kk : Nat} {pl : Sem Bool} {Q : Value → Shared → Prop} {T : Addr} {its : Array Value} {ys : List Str}
    (hr : ∀ tk (Q' : Value → Shared → Prop), Q' (.ref T) { s with toks := tk } → wpAny (model PySem.Challenge.rw_nb0028_01.row.prog w) A (eval (.Name r pr) env) Q' E { s with toks := tk })
    (hl : s.heap.IsList T its) (hi : StrsAre its.toList ys) (hsep : sep.length ≤ 16) (hw : (ys.map (·.length)).sum + ys.length ≤ 1048576)
    (h : ∀ t' tk, Q (.str (Txt.join sep ys) t') { s with toks := tk })
    (he : eval (.Call (.Attribute (.Constant (.str sep) kk pc) (Str.ofString "join") apos) [.Name r pr] [] pos) env = (do
      let ov ← eval (.Constant (.str sep) kk pc) env
      standAt apos.atName
      let (f, first) ← holding [ov] (getMethod ov (Str.ofString "join") pl)
      callWith pos f first (backTo pos (starEach [.Name r pr] env)) []))
    (he1 : starEach [.Name r pr] env = (false, eval (.Name r pr) env) :: starEach [] env) :
    wpAny (model PySem.Challenge.rw_nb0028_01.row.prog w) A (eval (.Call (.Attribute (.Constant (.str sep) kk pc) (Str.ofString "join") apos) [.Name r pr] [] pos) env) Q E s := by
  refine str_meth1 PySem.F.slot_str_join PySem.F.type_str_join (Constant_str ⟨sep, _, rfl, hr _ _ ?_⟩) he he1
  exact join_listW hl hi hsep hw fun t' k => h t' k
end
end Mine
end

section
open PySem PySem.W PyProof.Rows PySem.Calls PySem.Builtin PySem.SeqAt
set_option Elab.async false
set_option maxRecDepth 100000
set_option maxHeartbeats 8000000
namespace Mine
def PairK (h : Heap) (v : Value) (x : Str) : Prop := ∃ a t, v = .ref a ∧ h.IsTuple a #[.str x t, .none]
theorem tuple_one {h : Heap} {a : Addr} {x y : Array Value} (h1 : h.IsTuple a x) (h2 : h.IsTuple a y) : x = y := by
  obtain ⟨o, e, _, n, hd⟩ := h1
  obtain ⟨o', e', _, n', hd'⟩ := h2
  rw [e] at e'; cases e'
  rw [hd] at hd'; cases hd'; rfl
theorem pairKey : Key 1 PairK where
  eq := fun A s v v' d d' hu h h' => by
    obtain ⟨a, t, rfl, h1⟩ := h
    obtain ⟨b, t', rfl, h2⟩ := h'
    by_cases hne : a = b
    · subst hne
      have e := tuple_one h1 h2
      have e1 : d = d' := by
        have := congrArg (fun z : Array Value => z[0]?) e
        simp at this
        exact this.1
      subst e1
      intro prog w E Q hQ
      refine EqAt.same (A := A) (s := s) (.ref a) prog w E Q ?_
      simpa using hQ
    · refine EqAt.of_refs hne ?_
      have := RcAt.tuples (A := A) (s := s) (e := fun j => if j = 0 then decide (d = d') else true) h1 h2 (by omega) (fun j j1 j2 => by
        match j, j1, j2 with
        | 0, _, _ =>
          have := EqAt.str_str (A := A.in1) (s := s) d t d' t'
          rw [show (d == d') = decide (d = d') from by by_cases e : d = d' <;> simp [e]] at this
          exact this
        | 1, _, _ => exact EqAt.same (A := A.in1) (s := s) .none
        | n + 2, j1, _ => exact absurd j1 (by simp))
      have e : ((List.range (min (#[Value.str d t, .none] : Array Value).size (#[Value.str d' t', .none] : Array Value).size)).all (fun j => if j = 0 then decide (d = d') else true) && ((#[Value.str d t, .none] : Array Value).size == (#[Value.str d' t', .none] : Array Value).size)) = decide (d = d') := by
        simp [List.range_succ]
      rw [e] at this
      exact this
  ext := fun h h' v x hk hv => by
    obtain ⟨a, t, rfl, o, e, r⟩ := hv
    exact ⟨a, t, rfl, o, hk _ _ e, r⟩
  ups := fun h h' v x hk hv => by
    obtain ⟨a, t, rfl, o, e, r⟩ := hv
    obtain ⟨sl, e'⟩ := hk _ _ e
    exact ⟨a, t, rfl, _, e', r⟩
  fn := fun h v x y hv hv' => by
    obtain ⟨a, t, rfl, h1⟩ := hv
    obtain ⟨b, t', e, h2⟩ := hv'
    cases e
    have e := tuple_one h1 h2
    have := congrArg (fun z : Array Value => z[0]?) e
    simp at this
    exact this.1


theorem items_pairs {prog : Program} {w : World} {ds : List Str} {lo : Addr} {h h' : Heap} {as : List Addr} {acc : Array Value} (g : KdxG (PySem.strKind prog w) (nones ds) lo h as) (hl : as.length = (nones ds).length) (ha : acc.toList = as.map Value.ref) (hk : Ext h h') :
    Paired (PairK h') acc.toList ds := by
  rw [ha]
  have hl' : as.length = ds.length := by rw [hl]; unfold nones; rw [List.length_map]
  have key : ∀ (as : List Addr) (ds : List Str), as.length = ds.length → (∀ (j : Nat) a x, as[j]? = some a → ds[j]? = some x → PairK h' (.ref a) x) → Paired (PairK h') (as.map Value.ref) ds := by
    intro as
    induction as with
    | nil => intro ds e _; cases ds with | nil => exact .nil | cons _ _ => cases e
    | cons a as ih =>
      intro ds e g
      cases ds with
      | nil => cases e
      | cons d ds => exact .cons (g 0 a d rfl rfl) (ih ds (Nat.succ.inj e) fun j b x hb hx => g (j + 1) b x hb hx)
  refine key as ds hl' fun j a x h1 h2 => ?_
  obtain ⟨ky, k, y, e1, e2, e3⟩ := g.pairs j a h1
  unfold nones at e1
  rw [List.getElem?_map, h2] at e1
  cases e1
  obtain ⟨t, rfl⟩ := PySem.Value.isStrOf_shape e2
  exact ⟨a, t, rfl, _, hk _ _ e3, rfl, 0, rfl⟩

theorem stuffS_length (p : Str) : (stuffS p).length ≤ p.length + 1 := by
  unfold stuffS stuff
  split <;> simp [S, Str.length]
theorem join_weight (x : Str) (hx : x.length ≤ 2 ^ 9) : (((rowsS x).map stuffS).map (·.length)).sum + ((rowsS x).map stuffS).length ≤ 1048576 := by
  have h1 := PySem.StrLaws.sumLen_le (B := 2 ^ 9 + 1) ((rowsS x).map stuffS) (fun y hy => by
    obtain ⟨p, hp, rfl⟩ := List.mem_map.mp hy
    have h1 := stuffS_length p
    have h2 := rowsS_row x p hp
    omega)
  have h2 := rowsS_length x
  rw [List.length_map] at h1 ⊢
  have h3 : (rowsS x).length * (2 ^ 9 + 1) ≤ (2 ^ 9 + 1) * (2 ^ 9 + 1) := Nat.mul_le_mul_right _ (by omega)
  omega

theorem tups_pairs {h h8 : Heap} {vs ys : List Value} {rs : List (List Str)} (hP : Paired (TupIs (fun v ws => ∃ r t, LK StrK h8 v r ∧ ws = #[.str (Txt.join crlf r) t, .none]) h) (vs.filter fun _ => true) ys) (hv : Paired (LK StrK h8) vs rs) :
    Paired (PairK h) ys (rs.map (Txt.join crlf)) := by
  rw [List.filter_eq_self.mpr (fun _ _ => rfl)] at hP
  induction hv generalizing ys with
  | nil => cases hP; exact .nil
  | cons h1 _ ih =>
    cases hP with
    | cons h2 h3 =>
      obtain ⟨T, ws, rfl, h4, r, t, h5, rfl⟩ := h2
      rw [rowKey.fn _ _ _ _ h1 h5]
      exact .cons ⟨T, t, rfl, h4⟩ (ih h3)
theorem joins_strs {h8 : Heap} {vs ys : List Value} {rs : List (List Str)} (hP : Paired (fun v y => ∃ r t, LK StrK h8 v r ∧ y = .str (Txt.join crlf r) t) (vs.filter fun _ => true) ys) (hv : Paired (LK StrK h8) vs rs) :
    StrsAre ys (rs.map (Txt.join crlf)) := by
  rw [List.filter_eq_self.mpr (fun _ _ => rfl)] at hP
  induction hv generalizing ys with
  | nil => cases hP; exact .nil
  | cons h1 _ ih =>
    cases hP with
    | cons h2 h3 =>
      obtain ⟨r, t, h5, rfl⟩ := h2
      rw [rowKey.fn _ _ _ _ h1 h5]
      exact .cons _ _ (ih h3)
end Mine
end

section
open PySem PySem.W PyProof.Rows PySem.Calls PySem.Builtin PySem.SeqAt
set_option Elab.async false
set_option maxRecDepth 100000
set_option maxHeartbeats 8000000
set_option pp.deepTerms false
set_option pp.maxSteps 30000
namespace Mine
theorem strs_mem (hp : Heap) {vs : List Value} {xs : List Str} (h : StrsAre vs xs) {v : Value} (hv : v ∈ vs) : ∃ x ∈ xs, ∃ t, v = .str x t := by
  obtain ⟨x, hx, t, e⟩ := paired_mem (Mine.StrsAre.paired h hp) v hv
  exact ⟨x, hx, t, e⟩

theorem paired_lk {h₁ h G : Heap} {f : Str → List Str} {vs : List Value} {xs : List Str} {ys : List Value} (hP : Paired (LstIs h₁ (fun v its => ∃ x t, v = .str x t ∧ StrsAre its.toList (f x)) h) (vs.filter fun _ => true) ys) (hx : StrsAre vs xs)
    (hG : ∀ b o, h₁.get? b = none → h.get? b = some o → G.get? b = some o) : Paired (LK StrK G) ys (xs.map f) := by
  rw [List.filter_eq_self.mpr (fun _ _ => rfl)] at hP
  induction hx generalizing ys with
  | nil => cases hP; exact .nil
  | cons x t _ ih =>
    cases hP with
    | cons h1 h2 =>
      refine .cons ?_ (ih h2)
      obtain ⟨T, its, rfl, h3, ⟨o, h4, h4'⟩, x', t', e, h5⟩ := h1
      cases e
      exact ⟨T, its, rfl, ⟨o, hG _ _ h3 h4, h4'⟩, Mine.StrsAre.paired h5 _⟩

theorem paired_of_get {α β : Type} {F : α → β → Prop} : ∀ {l₁ : List α} {l₂ : List β}, l₁.length = l₂.length → (∀ (j : Nat) a b, l₁[j]? = some a → l₂[j]? = some b → F a b) → Paired F l₁ l₂
  | [], [], _, _ => .nil
  | [], _ :: _, h, _ => nomatch h
  | _ :: _, [], h, _ => nomatch h
  | a :: l, b :: r, h, g => .cons (g 0 a b rfl rfl) (paired_of_get (Nat.succ.inj h) fun j x y hx hy => g (j + 1) x y hx hy)
theorem paired_filter {α β : Type} {F : α → β → Prop} {p : α → Bool} {q : β → Bool} (hpq : ∀ a b, F a b → p a = q b) : ∀ {l₁ : List α} {l₂ : List β}, Paired F l₁ l₂ → Paired F (l₁.filter p) (l₂.filter q)
  | _, _, .nil => .nil
  | a :: _, b :: _, .cons h t => by
    rw [List.filter_cons, List.filter_cons, hpq a b h]
    cases q b with
    | true => exact .cons h (paired_filter hpq t)
    | false => exact paired_filter hpq t

theorem kinds_lk {H h G : Heap} {rs : List (List Str)} {us ys : List Value} (hl : us.length = rs.length) (hu : ∀ (j : Nat) v, us[j]? = some v → ∃ t, v = .int (j : Nat) t)
    (hP : Paired (LstIs H (fun v its => ∃ k t r, v = .int ((k : Nat) : Int) t ∧ rs[k]? = some r ∧ StrsAre its.toList (r.map stuffS)) h) (us.filter (fun v => match v with | .int k _ => newAt rs k.toNat | _ => false)) ys)
    (hG : ∀ b o, H.get? b = none → h.get? b = some o → G.get? b = some o) : Paired (LK StrK G) ys ((dd rs).map (List.map stuffS)) := by
  have P1 : Paired (fun v k => ∃ t, v = Value.int ((k : Nat) : Int) t) us (List.range rs.length) := paired_of_get (by simp [hl]) fun j a b ha hb => by
    obtain ⟨t, e⟩ := hu j a ha
    have : j < rs.length := by rw [← hl]; exact (List.getElem?_eq_some_iff.mp ha).1
    rw [List.getElem?_range this] at hb
    cases hb
    exact ⟨t, e⟩
  have P2 := paired_filter (p := fun v => match v with | .int k _ => newAt rs k.toNat | _ => false) (q := newAt rs) (fun a b h => by obtain ⟨t, rfl⟩ := h; rfl) P1
  rw [dd_new]
  generalize us.filter (fun v => match v with | .int k _ => newAt rs k.toNat | _ => false) = A at hP P2
  generalize (List.range rs.length).filter (newAt rs) = ks at P2
  clear P1
  induction P2 generalizing ys with
  | nil => cases hP; exact .nil
  | @cons a b l1 l2 h1 _ ih =>
    obtain ⟨t, rfl⟩ := h1
    cases hP with
    | cons h2 h3 =>
      obtain ⟨T, its, rfl, h4, ⟨o, h5, h5'⟩, k, t', r, e, h6, h7⟩ := h2
      have e' : k = b := by
        injection e with e1 _
        exact (Int.ofNat.inj e1).symm
      subst e'
      rw [List.filterMap_cons, h6, List.map_cons]
      exact .cons ⟨T, its, rfl, ⟨o, hG _ _ h4 h5, h5'⟩, Mine.StrsAre.paired h7 _⟩ (ih h3)

theorem quoted_are {vs : List Value} {xs : List Str} {ys : List Value} (hP : Paired (fun v y => ∃ x t t', v = Value.str x t ∧ y = .str (quoteS x) t') (vs.filter fun _ => true) ys) (hx : StrsAre vs xs) : StrsAre ys (xs.map quoteS) := by
  rw [List.filter_eq_self.mpr (fun _ _ => rfl)] at hP
  induction hx generalizing ys with
  | nil => cases hP; exact .nil
  | cons x t _ ih =>
    cases hP with
    | cons h1 h2 =>
      obtain ⟨x', t', t'', e, rfl⟩ := h1
      cases e
      exact .cons _ _ (ih h2)

local macro_rules | `(tactic| walk_at "exec For Name List cons nil") => `(tactic| (k_here; (rename Fr _ _ _ _ => lF'); (with_unfolding_all refine' For_invVF lF' ?k1 ?k2 ?_; (case k1 => exact rfl); (case k2 => exact rfl); k_whole)))
theorem told_at {w : World} {A : Around} {s : Shared} (C : SiteE w 16 A s.heap) {l : Addr} {vs : List Value} {xs : List Str}
    (hl : s.heap.IsList l vs.toArray) (hx : StrsAre vs xs) (hne : xs ≠ []) (hn : xs.length ≤ 2 ^ 6) (hb : ∀ x ∈ xs, x.length ≤ 2 ^ 9) {Q E : Value → Shared → Prop}
    (ret : ∀ h' tk, (∀ outer, A.frames = some outer → UpF (frA outer) s.heap h') → Q (.bool true) { s with heap := h', toks := tk }) :
    wpAny (model PySem.Challenge.rw_nb0028_01.row.prog w) A (call (.ref 99) [.ref l]) Q E s := by
  obtain ⟨⟨base, outer, mean, mg, mb, B, X0, T0⟩, hq, hdp, hun⟩ := C
  have X := X0.keeps B.stays
  have T := T0.keeps B.stays
  obtain ⟨hh, dp, fr, gd, un⟩ := A
  obtain rfl : hh = none := hq
  obtain rfl : fr = some outer := B.stack
  have hdp' : dp + 16 < recursionLimit := hdp
  have hun' : un + 100 + 4 * 16 < cLine := hun
  have X' : (hd.heap_39 w.params).In s.heap := X
  revert X; k_fill; intro X
  refine wpAny_call ?_
  refine' enterC (A := ⟨none, dp, some outer, gd, un⟩) X T ?k6 ?k7 ?k8 ?k9 ?kB ?kD ?_ ?c2 ?c3 ?c4
  case k6 => k_is
  case k7 => k_is
  case k8 => show dp < recursionLimit; omega
  case k9 => exact BindsTo.of_eq rfl
  case kB => exact rfl
  case kD => decide +kernel
  case c2 => exact rfl
  case c3 => exact rfl
  case c4 => exact rfl
  intro L h₁ tk1 cells F N Y
  k_cells Y
  try dsimp only
  (try k_fold)
  have hvl := (Mine.StrsAre.paired hx s.heap).length
  iterate 1 (first | walk1 | (dsimp only; walk1))
  refine wpAny_Assign_Name ?_ rfl
  refine comp_lst (l := l) (vs := vs) (fun _ => true) (fun v its => ∃ x t, v = .str x t ∧ StrsAre its.toList (rowsS x)) rfl (by decide) rfl (by decide) rfl rfl (fun Q' hQ => ?_) (hl.at fun o e => F.keep _ _ e) (by omega) no_tests (fun C v s₃ m₃ E' hv _ hns hm hk hC => ?_) (fun D1 h2 tk2 ys1 hD1 hp1 hP1 hy1 hk2 => ?_) (fun _ => rfl)
  · exact wpAny_Name (wpAny_loadName_local rfl rfl F.ns rfl hQ) (by decide)
  · obtain ⟨x, hx1, t, rfl⟩ := strs_mem s.heap hx hv
    refine wpAny_mono (elt_rows (by exact Site.insideX (n := 3) B X' T rfl (by show dp + 4 < _; omega) (by show un + 100 + 4 * 4 < _; omega) (F.keeps hk) rfl rfl) rfl rfl rfl rfl hns hm (by have := hb x hx1; omega) (by decide)) (fun y s₄ h4 => ?_) fun _ _ e => e
    obtain ⟨⟨T', its, rfl, h5, h6, h7⟩, h8⟩ := h4
    exact ⟨⟨T', its, rfl, h5, h6, x, t, rfl, h7⟩, h8⟩
  dsimp only
  rename_i oc dc
  have gc := N.get (.head _)
  refine wpAny_storeName_cell rfl rfl (c := L + 1) rfl ⟨oc, hk2 _ _ gc, dc⟩ fun h3 hv3 hs3 => ?_
  have hLc : L ≠ L + 1 := by intro h; exact absurd h (Nat.ne_of_lt (Nat.lt_succ_self L))
  obtain ⟨oc3, gc3, dc3⟩ := hv3
  have F2 : Fr s.heap L h2 _ := F.keeps hk2
  have F3 : Fr s.heap L h3 _ := ⟨F2.ns.sameBut hs3 hLc, fun b o e => (hs3.2 b (fun q => by have := (N _ (.head _)).2.2; rw [← q, e] at this; cases this)).trans (F2.keep b o e), F2.above⟩
  have hoff : ∀ b o, h₁.get? b = none → h2.get? b = some o → (TI.gone h3 [L]).get? b = some o := fun b o e0 e2 => by
    have hb1 : b ≠ L + 1 := fun q => by rw [q, gc] at e0; cases e0
    have hb2 : b ≠ L := fun q => by obtain ⟨o, _, _, ho, _⟩ := F.ns; rw [q, ho] at e0; cases e0
    exact gone_at ((hs3.2 b hb1).trans e2) hb2
  have hP1' := paired_lk hP1 hx hoff
  have hl1 : (TI.gone h3 [L]).IsList D1 ys1 := by obtain ⟨n, e⟩ := hp1; exact ⟨_, hoff _ _ hD1 e, rfl, n, rfl⟩
  have gc3' : (TI.gone h3 [L]).get? (L + 1) = some oc3 := gone_at gc3 (Ne.symm hLc)
  obtain ⟨fz3, N3, hz3⟩ := freeze F3
  have N3c : News s.heap L h3 ((L + 1, oc3) :: fz3) := fun p hp => by
    rcases List.mem_cons.mp hp with rfl | hp
    · exact N3 _ (hz3 _ _ gc3 (N (L + 1, oc) (.head _)).2.2 (Ne.symm hLc))
    · exact N3 p hp
  clear N3 N
  dsimp only
  refine wpAny_execs_cons ?_
  refine asg_range (fun v => match v with | .int k _ => newAt (xs.map rowsS) k.toNat | _ => false)
    (fun v its => ∃ k t r, v = .int ((k : Nat) : Int) t ∧ (xs.map rowsS)[k]? = some r ∧ StrsAre its.toList (r.map stuffS)) rfl rfl (by decide) rfl (by decide) rfl rfl rfl rfl ?_ (fun _ => rfl)
  have hl3 : h3.IsList D1 ys1 := hl1.at fun o e => (TI.gone_some e).2
  have hy1l := hP1'.length
  simp only [Array.length_toList, List.length_map] at hy1l
  iterate 10 (first | walk1 | (dsimp only; walk1))
  refine len_list hl3 (by omega) ?_
  dsimp only
  iterate 1 (first | walk1 | (dsimp only; walk1))
  refine call_range_1 ?_
  dsimp only
  refine ⟨_, ys1.size, _, _, _, _, rfl, IsRange.new _ _ _ _ _ _ _, by omega, F3.ns.push _, fun C k t s₃ m₃ E' hkn hns hm he hC => ?_, fun C k t s₃ m₃ E' hkn hpk hns hm he hC => ?_, fun D2 h4 tk4 ys2 us hD2 hp2 hul hus hP2 hns4 hk4 => ?_⟩
  · have he3 : Ext h3 s₃.heap := fun b o e => he b o (Heap.get?_push_of_some _ e)
    have heG : Ext (TI.gone h3 [L]) s₃.heap := fun b o e => he3 b o (TI.gone_some e).2
    have hkx : k < (xs.map rowsS).length := by rw [List.length_map]; omega
    have hkk : (xs.map rowsS)[k]? = some ((xs.map rowsS)[k]) := List.getElem?_eq_getElem hkx
    refine wpAny_mono (test_new rowKey (by show un + 3 + 2 < _; omega) (D := D1) (ws := ys1) (ds := xs.map rowsS) (k := k) (t := t) (d := (xs.map rowsS)[k]) (fun Q' hQ => ?_) (fun Q' hQ => ?_) (fun Q' pk hQ => ?_) (hl3.at fun o e => he3 _ o e) (by omega) (hP1'.mono fun _ _ x => rowKey.ext _ _ _ _ heG x) hkk (fun _ _ => rfl) (fun _ _ => rfl) rfl) (fun ok s₄ h4 => ⟨?_, h4.2⟩) fun _ _ e => e
    · exact wpAny_Name (wpAny_loadName_cell rfl rfl (c := L + 1) rfl ⟨oc3, he3 _ _ gc3, dc3⟩ hQ) (by decide)
    · exact wpAny_Name (wpAny_loadName_cell rfl rfl (c := L + 1) rfl ⟨oc3, he3 _ _ gc3, dc3⟩ hQ) (by decide)
    · exact wpAny_Name (wpAny_loadName_local rfl rfl hns hm hQ) (by decide)
    · rw [h4.1]
      show _ = newAt (xs.map rowsS) k
      unfold newAt
      rw [hkk]
  · have he3 : Ext h3 s₃.heap := fun b o e => he b o (Heap.get?_push_of_some _ e)
    have heG : Ext (TI.gone h3 [L]) s₃.heap := fun b o e => he3 b o (TI.gone_some e).2
    have hkx : k < (xs.map rowsS).length := by rw [List.length_map]; omega
    have hkk : (xs.map rowsS)[k]? = some ((xs.map rowsS)[k]) := List.getElem?_eq_getElem hkx
    have hKv := paired_get hP1' k (by simpa using (by omega : k < ys1.size)) hkx
    obtain ⟨a, its, ea, hla, hpa⟩ := hKv
    have hy : ys1[k]? = some (.ref a) := by
      rw [← ea, Array.getElem_toList, Array.getElem?_eq_getElem (by omega)]
    have hro : ∃ x ∈ xs, (xs.map rowsS)[k] = rowsS x := by
      have := List.getElem_mem hkx
      obtain ⟨x, hx1, e⟩ := List.mem_map.mp this
      exact ⟨x, hx1, e.symm⟩
    obtain ⟨x, hx1, hrx⟩ := hro
    have hbx := hb x hx1
    have hrl := rowsS_length x
    have hpl := hpa.length
    refine fn_call (by exact Site.insideX (n := 3) B X' T rfl (by show dp + 4 < _; omega) (by show un + 100 + 4 * 4 < _; omega) (F3.keeps he3) rfl rfl) (ns_stuffed w) rfl rfl rfl (by decide) ?_ rfl
    refine item_at (D := D1) (ws := ys1) (k := k) (t := t) (fun Q' hQ => ?_) (fun Q' hQ => ?_) (hl3.at fun o e => he3 _ o e) (by omega) hy ?_ (fun _ => rfl)
    · exact wpAny_Name (wpAny_loadName_cell rfl rfl (c := L + 1) rfl ⟨oc3, he3 _ _ gc3, dc3⟩ hQ) (by decide)
    · exact wpAny_Name (wpAny_loadName_local rfl rfl hns hm hQ) (by decide)
    refine ⟨fun _ _ e => e, ?_⟩
    refine stuffed_at (by exact Site.insideX (n := 3) B X' T rfl (by show dp + 4 < _; omega) (by show un + 100 + 4 * 4 < _; omega) (F3.keeps he3) rfl rfl) (vs := its.toList) (ps := (xs.map rowsS)[k]) (by rw [Array.toArray_toList]; exact hla.at fun o e => heG _ o e) (paired_strsAre hpa) (by rw [hpl, hrx]; omega) (fun p hp => by rw [hrx] at hp; have := rowsS_row x p hp; omega) fun D ws h' tk hD hp hs hx' => ?_
    refine ⟨⟨D, ws.toArray, rfl, hD, ?_, k, t, _, rfl, hkk, hs⟩, _, _, rfl, hx'⟩
    obtain ⟨n, e⟩ := hp
    exact ⟨_, e, rfl, n, rfl⟩
  have hk4' : ∀ b o, b ≠ L → h3.get? b = some o → h4.get? b = some o := fun b o hb e => hk4 b o hb (Heap.get?_push_of_some _ e)
  have F4 : Fr s.heap L h4 _ := ⟨hns4, fun b o e => hk4' b o (Nat.ne_of_lt (Nat.lt_of_lt_of_le (Heap.lt_size e) F3.above)) (F3.keep b o e), F3.above⟩
  have hoff4 : ∀ b o, (h3.push { cls := .type "range", data := .fields #[.int 0 (tk2 + 1 + 1), .int ys1.size (tk2 + 1), .int 1 (tk2 + 1 + 1 + 1)] }).get? b = none → h4.get? b = some o → (TI.gone h4 [L]).get? b = some o := fun b o e0 e4 => by
    refine gone_at e4 fun q => ?_
    obtain ⟨o', _, _, ho, _⟩ := F3.ns
    rw [q, Heap.get?_push_of_some _ ho] at e0; cases e0
  have hkin := kinds_lk (by rw [hul, List.length_map]; omega) hus hP2 hoff4
  have hl2 : (TI.gone h4 [L]).IsList D2 ys2 := by obtain ⟨n, e⟩ := hp2; exact ⟨_, hoff4 _ _ hD2 e, rfl, n, rfl⟩
  have hlt2 : Ext (TI.gone h3 [L]) (TI.gone h4 [L]) := ext_gone (fun b o e => hk4' b o (fun q => (TI.gone_some e).1 (List.mem_singleton.mpr q)) (TI.gone_some e).2) gone_L
  refine wpAny_execs_cons ?_
  refine asg_val (l := l) (vs := vs) (fun _ => true) (fun v y => ∃ x t t', v = .str x t ∧ y = .str (quoteS x) t') rfl rfl (by decide) rfl (by decide) rfl rfl rfl rfl F4.ns (fun Q' hQ => ?_) (hl.at fun o e => F4.keep _ _ e) (by omega) no_tests (fun C v s₃ m₃ E' hv _ hns hm hk hC => ?_) (fun D3 h5 tk5 ys3 hD3 hp3 hP3 hns5 hk5 => ?_) (fun _ => rfl)
  · exact wpAny_Name (wpAny_loadName_local rfl rfl F4.ns rfl hQ) (by decide)
  · obtain ⟨x, hx1, t, rfl⟩ := strs_mem s.heap hx hv
    refine elt_quote (by exact Site.insideX (n := 3) B X' T rfl (by show dp + 4 < _; omega) (by show un + 100 + 4 * 4 < _; omega) (F4.keeps hk) rfl rfl) rfl rfl rfl rfl hns hm (by have := hb x hx1; omega) (by decide) fun h' tk t' hk' => ?_
    exact ⟨⟨x, t, t', rfl, rfl⟩, _, _, rfl, hk'⟩
  have F5 : Fr s.heap L h5 _ := ⟨hns5, fun b o e => hk5 b o (Nat.ne_of_lt (Nat.lt_of_lt_of_le (Heap.lt_size e) F4.above)) (F4.keep b o e), F4.above⟩
  have hq3 : StrsAre ys3.toList (xs.map quoteS) := quoted_are hP3 hx
  have hD3L : D3 ≠ L := fun q => by obtain ⟨o, _, _, ho, _⟩ := F4.ns; have h9 : h4.get? D3 = none := hD3; rw [q, ho] at h9; cases h9
  have hl3' : (TI.gone h5 [L]).IsList D3 ys3 := by obtain ⟨n, e⟩ := hp3; exact ⟨_, gone_at e hD3L, rfl, n, rfl⟩
  have hlt3 : Ext (TI.gone h4 [L]) (TI.gone h5 [L]) := ext_gone (fun b o e => hk5 b o (fun q => (TI.gone_some e).1 (List.mem_singleton.mpr q)) (TI.gone_some e).2) gone_L
  have hq3l := (Mine.StrsAre.paired hq3 s.heap).length
  simp only [Array.length_toList, List.length_map] at hq3l
  refine wpAny_execs_cons ?_
  refine asg_lst (l := D3) (vs := ys3.toList) (fun _ => true) (fun v its => ∃ x t, v = .str x t ∧ StrsAre its.toList ((pieces crlf.cps.toList x.cps.toList).map S)) rfl rfl (by decide) rfl (by decide) rfl rfl rfl rfl F5.ns (fun Q' hQ => ?_) (by rw [Array.toArray_toList]; exact hl3'.at fun o e => (TI.gone_some e).2) (by rw [Array.length_toList]; omega) no_tests (fun C v s₃ m₃ E' hv _ hns hm hk hC => ?_) (fun D4 h6 tk6 ys4 hD4 hp4 hP4 hns6 hk6 => ?_) (fun _ => rfl)
  · exact wpAny_Name (wpAny_loadName_local rfl rfl F5.ns rfl hQ) (by decide)
  · obtain ⟨x, hx1, t, rfl⟩ := strs_mem s.heap hq3 hv
    obtain ⟨x0, hx0, rfl⟩ := List.mem_map.mp hx1
    have hq0 := quoteS_length x0
    have hb0 := hb x0 hx0
    refine elt_split (x := quoteS x0) (by omega) (fun Q' hQ => wpAny_Name (wpAny_loadName_local rfl rfl hns hm (hQ _ _ _ fun _ _ e => e)) (by decide)) (fun D vs' h' tk hD hl' hs' hx' => ?_) rfl rfl
    exact ⟨⟨D, vs'.toArray, rfl, hD, hl', _, t, rfl, hs'⟩, _, _, rfl, hx'⟩
  have F6 : Fr s.heap L h6 _ := ⟨hns6, fun b o e => hk6 b o (Nat.ne_of_lt (Nat.lt_of_lt_of_le (Heap.lt_size e) F5.above)) (F5.keep b o e), F5.above⟩
  have hoff6 : ∀ b o, h5.get? b = none → h6.get? b = some o → (TI.gone h6 [L]).get? b = some o := fun b o e0 e4 => by
    refine gone_at e4 fun q => ?_
    obtain ⟨o', _, _, ho, _⟩ := F5.ns
    rw [q, ho] at e0; cases e0
  have hpart : Paired (LK StrK (TI.gone h6 [L])) ys4.toList ((xs.map rowsS).map (List.map stuffS)) := by
    have := paired_lk hP4 hq3 hoff6
    rw [List.map_map] at this ⊢
    have e9 : xs.map ((fun x : Str => (pieces crlf.cps.toList x.cps.toList).map S) ∘ quoteS) = xs.map (List.map stuffS ∘ rowsS) := List.map_congr_left fun x _ => split_quote x
    rw [e9] at this
    exact this
  have hl4 : (TI.gone h6 [L]).IsList D4 ys4 := by obtain ⟨n, e⟩ := hp4; exact ⟨_, hoff6 _ _ hD4 e, rfl, n, rfl⟩
  have hlt4 : Ext (TI.gone h5 [L]) (TI.gone h6 [L]) := ext_gone (fun b o e => hk6 b o (fun q => (TI.gone_some e).1 (List.mem_singleton.mpr q)) (TI.gone_some e).2) gone_L
  have hkin6 : Paired (LK StrK (TI.gone h6 [L])) ys2.toList ((dd (xs.map rowsS)).map (List.map stuffS)) := hkin.mono fun _ _ x => rowKey.ext _ _ _ _ (hlt3.trans hlt4) x
  have hl2' : (TI.gone h6 [L]).IsList D2 ys2 := hl2.at fun o e => (hlt3.trans hlt4) _ o e
  have hl3'' : (TI.gone h6 [L]).IsList D3 ys3 := hl3'.at fun o e => hlt4 _ o e
  obtain ⟨fz6, N6, hz6⟩ := freeze F6
  clear N3c F F2 F3 F4 F5
  iterate 10 (first | walk1 | (dsimp only; walk1))
  rename Fr _ _ _ _ => F6
  rename News _ _ _ _ => N6
  refine ⟨X.keeps F6.keep, ?_⟩
  have hl3q : h6.IsList D3 ys3.toList.toArray := by rw [Array.toArray_toList]; exact hl3''.at fun o e => (TI.gone_some e).2
  refine dedup_strs (by exact Site.insideX (n := 5) B X' T rfl (by show dp + 6 < _; omega) (by show un + 100 + 4 * 6 < _; omega) F6 rfl rfl) (kw := []) (b := false) (.inl ⟨rfl, rfl⟩) hl3q hq3 (by rw [Array.length_toList]; omega) fun d1 h7 tk7 hd1 hdo1 hk7 => ?_
  have F7 : Fr s.heap L h7 _ := F6.keeps hk7
  have N7 : News s.heap L h7 fz6 := N6.grown hk7
  have F6x := F6
  clear F6 N6
  iterate 10 (first | walk1 | (dsimp only; walk1))
  refine ⟨X.keeps F7.keep, ?_⟩
  have hl3r : h7.IsList D3 ys3.toList.toArray := hl3q.at fun o e => hk7 _ o e
  refine dedup_strs (by exact Site.insideX (n := 5) B X' T rfl (by show dp + 6 < _; omega) (by show un + 100 + 4 * 6 < _; omega) F7 rfl rfl) (kw := _) (b := true) (.inr ⟨rfl, rfl⟩) hl3r hq3 (by rw [Array.length_toList]; omega) fun d2 h8 tk8 hd2 hdo2 hk8 => ?_
  have F8 : Fr s.heap L h8 _ := F7.keeps hk8
  obtain ⟨fz8, N8, hz8⟩ := freeze F8
  have hlt8 : Ext (TI.gone h6 [L]) (TI.gone h8 [L]) := ext_gone (fun b o e => hk8 b o (hk7 b o (TI.gone_some e).2)) gone_L
  have hd1L : L < d1 := Nat.lt_of_lt_of_le F6x.ns.lt hd1
  have hd2L : L < d2 := Nat.lt_of_lt_of_le F7.ns.lt hd2
  have hdo1' : (TI.gone h8 [L]).DictOf (strKind PySem.Challenge.rw_nb0028_01.row.prog w) d1 (nones (dd (xs.map quoteS))) := hdo1.at fun o e => gone_at (hk8 _ _ e) (Nat.ne_of_gt hd1L)
  have hdo2' : (TI.gone h8 [L]).DictOf (strKind PySem.Challenge.rw_nb0028_01.row.prog w) d2 (nones (dd (xs.map quoteS))) := hdo2.at fun o e => gone_at e (Nat.ne_of_gt hd2L)
  clear F7 N7
  have hkin8 : Paired (LK StrK (TI.gone h8 [L])) ys2.toList ((dd (xs.map rowsS)).map (List.map stuffS)) := hkin6.mono fun _ _ x => rowKey.ext _ _ _ _ hlt8 x
  have hl28 : (TI.gone h8 [L]).IsList D2 ys2 := hl2'.at fun o e => hlt8 _ o e
  have hkeep8 : ∀ b o, s.heap.get? b = some o → h8.get? b = some o := F8.keep
  iterate 2 (first | walk1 | (dsimp only; walk1))
  rename_i D9 h9 F9 N9 l9
  refine iter_vals (es := []) (vs := [.ref d1, .ref d2]) (news := fz8) (fun i m₁ news₁ => news₁ = fz8 ∧ m₁ (Str.ofString "kinds") = some (.ref D2) ∧ m₁ (Str.ofString "quoted") = some (.ref D3) ∧ m₁ (Str.ofString "parted") = some (.ref D4))
    (.inl ⟨rfl, rfl⟩) (News.isList N9 (.head _)) (N9 _ (.head _)).2.1 (fun p hp => Nat.ne_of_lt (l9 p hp)) F9 (fun p hp => N9 p (List.mem_cons_of_mem _ hp)) ⟨rfl, rfl, rfl, rfl⟩ ?_ ?_
  · rintro i v m₁ news₁ h tk own hv hadr hoff ⟨rfl, hm1, hm2, hm3⟩ F10 N10
    have F11 : Fr s.heap L h _ := fr_say F10 (x := Str.ofString "kinds") (v := .ref D2) (by rw [if_neg (by decide)]; exact hm1)
    have N11 : News s.heap L h (news₁ ++ own) := N10
    clear F10 N10
    have hGh : Ext (TI.gone h8 [L]) h := frozen hz8 hkeep8 F11 (fun p hp => N11 p (List.mem_append_left _ hp))
    have hvd : ∃ d, v = .ref d ∧ L < d ∧ (TI.gone h8 [L]).DictOf (strKind PySem.Challenge.rw_nb0028_01.row.prog w) d (nones (dd (xs.map quoteS))) := by
      match i, hv with
      | 0, hv => cases hv; exact ⟨d1, rfl, hd1L, hdo1'⟩
      | 1, hv => cases hv; exact ⟨d2, rfl, hd2L, hdo2'⟩
      | _ + 2, hv => simp at hv
    obtain ⟨d, rfl, hdl, hdo⟩ := hvd
    have hdoh := hdo.keep hGh
    iterate 10 (first | walk1 | (dsimp only; walk1))
    refine call_type_of (Tx := "dict") (Heap.DictOf.typeIs (s := { s with heap := h, toks := tk }) hdoh) (by decide) ?_
    iterate 12 (first | walk1 | (dsimp only; walk1))
    have hTd : Shared.TypeIs { s with heap := h, toks := tk } (.ref d) "dict" := Heap.DictOf.typeIs (s := { s with heap := h, toks := tk }) hdoh
    refine getMethod_builtin (T := "dict") (id := "dict.items") hTd PySem.F.plainAttrs_dict PySem.F.slot_dict_items PySem.F.type_dict_items (fun a e => by cases e; obtain ⟨o, _, _, ho, hex, _⟩ := hdoh; exact ⟨o, ho, hex.2.1⟩) ?_
    dsimp only
    refine callWith_method0 ?_
    have hlo : (d == sysModules) = false := beq_eq_false_iff_ne.mpr (Nat.ne_of_gt (Nat.lt_trans (Nat.lt_of_lt_of_le (modules_low T.nolimit) F11.above) hdl))
    refine call_meetsIn PySem.F.slot_dict_items hTd PySem.F.entry_dict_items (PySem.F.args_dict_items_1 _) (meets_dict_items (PySem.strKind PySem.Challenge.rw_nb0028_01.row.prog w) d hlo) ⟨⟨_, hdoh⟩, ?_⟩
    have F12 := F11.push { cls := .type "dict_items", data := .fields #[.ref d] }
    have N12 := N11.grown (fun b o e => Heap.get?_push_of_some { cls := .type "dict_items", data := .fields #[.ref d] } e)
    dsimp only
    iterate 1 (first | walk1 | (dsimp only; walk1))
    obtain ⟨od, es, ep, hdr⟩ := id (hdoh.push { cls := .type "dict_items", data := .fields #[.ref d] })
    have hddl := dd_length (xs.map quoteS)
    rw [List.length_map] at hddl
    refine kdx_call (knd := PySem.strKind PySem.Challenge.rw_nb0028_01.row.prog w) (ep := ep) (d := d) (kvs := nones (dd (xs.map quoteS))) rfl ⟨_, Heap.get?_push_size _ rfl, rfl, rfl⟩ ⟨od, es, hdr⟩ (by unfold nones; rw [List.length_map]; unfold sizeLine; omega) fun h13 tk13 acc c as hk13 hS13 hlen13 hG13 hacc13 => ?_
    have F13 : Fr s.heap L h13 _ := F12.keeps hk13
    have N13 : News s.heap L h13 _ := N12.grown hk13
    clear F12 N12
    dsimp only
    have hG8 : Ext (TI.gone h8 [L]) h13 := fun b o e => hk13 b o (Heap.get?_push_of_some _ (hGh b o e))
    refine wpAny_ListComp_tup (fun _ => true) (fun v ws => ∃ r t, LK StrK (TI.gone h8 [L]) v r ∧ ws = #[.str (Txt.join crlf r) t, .none]) rfl (by decide) (by decide) rfl (by decide) rfl ?_ (fun _ => rfl)
    refine wpAny_Name (wpAny_loadName_local rfl rfl F13.ns rfl ?_) (by decide)
    have hkl := hkin8.length
    simp only [Array.length_toList, List.length_map] at hkl
    have hdl2 := dd_length (xs.map rowsS)
    rw [List.length_map] at hdl2
    refine ⟨D2, ys2, rfl, hl28.at fun o e => hG8 _ o e, by unfold sizeLine; omega, fun C v s₂ m₂ E' _ _ _ _ => wpAny_pure ⟨rfl, Keeps.refl _⟩, fun C v s₂ m₂ E' hv _ hns hm he => ?_, fun D14 h14 tk14 ys5 hD14 hl14 hP14 hk14 => ?_⟩
    · obtain ⟨r, hr1, hr2⟩ := paired_mem hkin8 v (by simpa using hv)
      obtain ⟨r0, hr0, rfl⟩ := List.mem_map.mp hr1
      obtain ⟨x, hx1, rfl⟩ := List.mem_map.mp ((mem_dd _ _).mp hr0)
      obtain ⟨T', its, rfl, hT1, hT2⟩ := id hr2
      refine wpAny_Tuple (args_cons (elt_join (T := T') (its := its) (ys := (rowsS x).map stuffS) (fun tk Q' hQ => wpAny_Name (wpAny_loadName_local rfl rfl hns hm hQ) (by decide)) (hT1.at fun o e => he _ o (hG8 _ o e)) (paired_strsAre hT2) (by decide +kernel) (join_weight x (hb x hx1)) (fun t' tk' => ?_) rfl rfl) rfl)
      refine args_cons (wpAny_Constant_none (args_nil ⟨by show 2 ≤ sizeLine; unfold sizeLine; omega, ?_⟩)) rfl
      refine ⟨⟨_, _, rfl, PySem.Heap.get?_none_of_le (Nat.le_refl _), ⟨_, Heap.get?_push_size _ rfl, rfl, 0, rfl⟩, _, t', hr2, rfl⟩, _, _, rfl, fun b o e => Heap.get?_push_of_some _ e⟩
    have hS14 : h14.IsList (h.push { cls := .type "dict_items", data := .fields #[.ref d] }).objs.size acc := ⟨_, hk14 _ _ hS13, rfl, c, rfl⟩
    have hpA := items_pairs (h' := h14) hG13 hlen13 hacc13 hk14
    have hpB := tups_pairs hP14 hkin8
    have hsame : dd (xs.map quoteS) = ((dd (xs.map rowsS)).map (List.map stuffS)).map (Txt.join crlf) := by rw [dd_quotes, List.map_map]; rfl
    have F14 : Fr s.heap L h14 _ := F13.keeps hk14
    have N14 : News s.heap L h14 _ := N13.grown hk14
    refine pairKey.rcNe (s := { s with heap := h14, toks := tk14 }) (by show un + 3 + 2 < _; omega) hS14 hl14 hpA hpB _ w _ _ ?_
    rw [decide_eq_true hsame]
    clear F13 N13
    iterate 4 (first | walk1 | (dsimp only; walk1))
    refine wpAny_execs_nil ?_
    try dsimp only
    refine wpAny_execs_nil ?_
    refine ⟨h14, tk14, _, news₁ ++ own, news₁, rfl, F14, N14, fun p hp => List.mem_append_left _ hp, fun p hp => List.mem_append_right _ hp, rfl, rfl, rfl, ?_, ?_⟩
    · show (if _ then _ else if _ then _ else _) = _
      rw [if_neg (by decide), if_neg (by decide)]; exact hm2
    · show (if _ then _ else if _ then _ else _) = _
      rw [if_neg (by decide), if_neg (by decide)]; exact hm3
  · rintro m₁ news₁ h tk ⟨rfl, hm1, hm2, hm3⟩ F15 N15
    have F16 := fr_say F15 (x := Str.ofString "kinds") (v := .ref D2) hm1
    have F17 := fr_say F16 (x := Str.ofString "quoted") (v := .ref D3) (by rw [if_neg (by decide)]; exact hm2)
    have F18 : Fr s.heap L h _ := fr_say F17 (x := Str.ofString "parted") (v := .ref D4) (by rw [if_neg (by decide), if_neg (by decide)]; exact hm3)
    have N18 : News s.heap L h news₁ := N15
    clear F15 F16 F17 N15
    have hGh : Ext (TI.gone h8 [L]) h := frozen hz8 hkeep8 F18 N18
    iterate 4 (first | walk1 | (dsimp only; walk1))
    have hpart8 : Paired (LK StrK (TI.gone h8 [L])) ys4.toList ((xs.map rowsS).map (List.map stuffS)) := hpart.mono fun _ _ x => rowKey.ext _ _ _ _ hlt8 x
    have hl48 : (TI.gone h8 [L]).IsList D4 ys4 := hl4.at fun o e => hlt8 _ o e
    have hpl4 := hpart8.length
    simp only [Array.length_toList, List.length_map] at hpl4
    refine comp_val (l := D4) (vs := ys4.toList) (fun _ => true) (fun v y => ∃ r t, LK StrK (TI.gone h8 [L]) v r ∧ y = .str (Txt.join crlf r) t) rfl (by decide) rfl (by decide) rfl rfl (fun Q' hQ => ?_) (by rw [Array.toArray_toList]; exact hl48.at fun o e => hGh _ o e) (by rw [Array.length_toList]; omega) no_tests (fun C v s₃ m₃ E' hv _ hns hm hk hC => ?_) (fun D19 h19 tk19 ys6 hD19 hp19 hP19 hk19 => ?_) (fun _ => rfl)
    · exact wpAny_Name (wpAny_loadName_local rfl rfl F18.ns rfl hQ) (by decide)
    · obtain ⟨r, hr1, hr2⟩ := paired_mem hpart8 v hv
      obtain ⟨r0, hr0, rfl⟩ := List.mem_map.mp hr1
      obtain ⟨x, hx1, rfl⟩ := List.mem_map.mp hr0
      obtain ⟨T', its, rfl, hT1, hT2⟩ := id hr2
      refine elt_join (T := T') (its := its) (ys := (rowsS x).map stuffS) (fun tk Q' hQ => wpAny_Name (wpAny_loadName_local rfl rfl hns hm hQ) (by decide)) (hT1.at fun o e => hk _ o (hGh _ o e)) (paired_strsAre hT2) (by decide +kernel) (join_weight x (hb x hx1)) (fun t' tk' => ?_) rfl rfl
      exact ⟨⟨_, t', hr2, rfl⟩, _, _, rfl, fun _ _ e => e⟩
    have hj6 := joins_strs hP19 hpart8
    have hl38 : (TI.gone h8 [L]).IsList D3 ys3 := hl3''.at fun o e => hlt8 _ o e
    have hG19 : Ext (TI.gone h8 [L]) h19 := fun b o e => hk19 b o (hGh b o e)
    have hl19 : h19.IsList D19 ys6 := by obtain ⟨n, e⟩ := hp19; exact ⟨_, e, rfl, n, rfl⟩
    have hsame : xs.map quoteS = ((xs.map rowsS).map (List.map stuffS)).map (Txt.join crlf) := by
      rw [List.map_map, List.map_map]
      exact List.map_congr_left fun x _ => (join_rows x).symm
    refine strKey.rcNe (s := { s with heap := h19, toks := tk19 }) (by show un + 3 + 1 < _; omega) (hl38.at fun o e => hG19 _ o e) hl19 (Mine.StrsAre.paired hq3 _) (Mine.StrsAre.paired hj6 _) _ w _ _ ?_
    rw [decide_eq_true hsame]
    have F19 : Fr s.heap L h19 _ := F18.keeps hk19
    have N19 : News s.heap L h19 _ := N18.grown hk19
    clear F18 N18
    iterate 2 (first | walk1 | (dsimp only; walk1))
    refine wpAny_execs_nil ?_
    try dsimp only
    iterate 9 (first | walk1 | (dsimp only; walk1))
    refine ⟨X.keeps F19.keep, ?_⟩
    have hfirst : ∃ a its rest, ys4.toList = .ref a :: rest ∧ (TI.gone h8 [L]).IsList a its := by
      cases hc : xs with
      | nil => exact absurd hc hne
      | cons x0 xr =>
        rw [hc] at hpart8
        generalize ys4.toList = y4 at hpart8
        cases hpart8 with
        | cons h1 _ =>
          obtain ⟨a, its, rfl, h2, _⟩ := h1
          exact ⟨a, its, _, rfl, h2⟩
    obtain ⟨a4, its4, rest4, ey4, hla4⟩ := hfirst
    have hl49 : h19.IsList D4 (Value.ref a4 :: rest4).toArray := by rw [← ey4, Array.toArray_toList]; exact hl48.at fun o e => hG19 _ o e
    refine refused_at (by exact SiteE.insideX (n := 10) B X0 T0 rfl (by show dp + 11 < _; omega) (by show un + 100 + 4 * 11 < _; omega) F19 rfl rfl) hl49 (hla4.at fun o e => hG19 _ o e) fun h20 tk20 U20 => ?_
    have U := U20 _ rfl
    have F20 : Fr (TI.gone s.heap (frA outer)) L h20 _ := fr_up F19 U
    have X20 := X0.keeps (base_gone B.frames B.stays)
    have T20 := T0.keeps (base_gone B.frames B.stays)
    have N20 : News (TI.gone s.heap (frA outer)) L h20 [] := News.nil
    dsimp only
    have hback := up_back F19 U
    have hF19 : ∃ m, Fr s.heap L h19 m := ⟨_, F19⟩
    clear F19 N19
    iterate 13 (first | walk1 | (dsimp only; walk1))
    refine ⟨X20.keeps F20.keep, ?_⟩
    obtain ⟨m19, F19⟩ := hF19
    have hUS : UpS (TI.gone h8 [L]) h20 := (Ext.upS hG19).trans fun b o e => U.up b o e
    refine dedup_lists rowKey (by decide) (by exact (SiteE.insideX (n := 8) B X0 T0 rfl (by show dp + 9 < _; omega) (by show un + 100 + 4 * 9 < _; omega) F19 rfl rfl).upF (fr := []) U20) (U.isList hl49) (hUS.isList hla4) (ds := (xs.map rowsS).map (List.map stuffS)) (by rw [← ey4]; exact hpart8.mono fun _ _ x => rowKey.ups _ _ _ _ hUS x) (by rw [← ey4, Array.length_toList]; omega) fun D21 ws h21 tk21 hp21 hw21 U21 => ?_
    have U' := U21 _ rfl
    have F21 : Fr (TI.gone s.heap (frA outer)) L h21 _ := fr_up (h₀ := TI.gone s.heap (frA outer)) F20 U' |> fun F => ⟨F.ns, fun b o e => F.keep b o (by rw [TI.gone_get (TI.gone_some e).1]; exact e), F20.above⟩
    dsimp only
    iterate 1 (first | walk1 | (dsimp only; walk1))
    have hU2 : UpS h20 h21 := fun b o e => U'.up b o e
    have hl21 : h21.IsList D21 ws.toArray := by obtain ⟨n, e⟩ := hp21; exact ⟨_, e, rfl, n, rfl⟩
    have hsame2 : dd ((xs.map rowsS).map (List.map stuffS)) = (dd (xs.map rowsS)).map (List.map stuffS) := dd_stuffed _
    refine rowKey.rc (s := { s with heap := h21, toks := tk21 }) (by show un + 3 + 2 < _; omega) hl21 ((hUS.trans hU2).isList hl28) (hw21.mono fun _ _ x => rowKey.ups _ _ _ _ hU2 x) (hkin8.mono fun _ _ x => rowKey.ups _ _ _ _ (hUS.trans hU2) x) _ w _ _ ?_
    rw [decide_eq_true hsame2]
    refine ret h21 tk21 fun outer' ho' => ?_
    cases ho'
    exact up_back F19 (U.trans U')
end Mine
end

section
open PySem PySem.W PyProof.Rows PySem.Calls PySem.Builtin PySem.SeqAt
set_option Elab.async false
set_option maxRecDepth 100000
set_option maxHeartbeats 8000000
namespace Mine

/-- what a turn of a loop leaves, the ledger may grow -/
def GrowPost (h₀ : Heap) (L I : Addr) (own : List (Addr × Obj)) (J : (Str → Option Value) → List (Addr × Obj) → Prop) (s : Shared) (f : Flow) (s' : Shared) : Prop :=
  f = .next ∧ ∃ h' tk' m' nx, s' = { s with heap := h', toks := tk' } ∧ Fr h₀ L h' m' ∧ News h₀ L h' (nx ++ own) ∧ (∀ p ∈ nx, p.1 ≠ I) ∧ J m' nx

section
variable {prog : Program} {w : World} {A : Around} {E : Value → Shared → Prop} {s : Shared}
theorem iter_grow {env : Env} {h₀ : Heap} {x : Str} {body : List Stmt} {Q : Flow → Shared → Prop} {l : Addr} {vs : List Value} {m₀ : Str → Option Value} {news : List (Addr × Obj)} (J : Nat → (Str → Option Value) → List (Addr × Obj) → Prop)
    (hh : A.handled = none) (hl0 : h₀.IsList l vs.toArray) (F : Fr h₀ env.locals s.heap m₀) (N : News h₀ env.locals s.heap news) (hj : J 0 m₀ news)
    (turn : ∀ i v m₁ news₁ h tk I own, vs[i]? = some v → (∀ p ∈ own, p.1 = I) → (∃ oI, (I, oI) ∈ own) → (∀ p ∈ news₁, p.1 ≠ I) → J i m₁ news₁ → Fr h₀ env.locals h (fun y => if y = x then some v else m₁ y) → News h₀ env.locals h (news₁ ++ own) →
      wpAny (model prog w) A (execs body env) (GrowPost h₀ env.locals I own (J (i + 1)) { s with heap := h, toks := tk }) E { s with heap := h, toks := tk })
    (done : ∀ m₁ news₁ h tk, J vs.length m₁ news₁ → Fr h₀ env.locals h m₁ → News h₀ env.locals h news₁ → Q .next { s with heap := h, toks := tk }) :
    wpAny (model prog w) A (pyIter (.ref l)) (fun it s₂ => LoopAtV prog w A h₀ env x body Q E it s₂) E s := by
  have hls : s.heap.IsList l vs.toArray := hl0.at fun o e => F.keep _ o e
  obtain ⟨ol, hol, _⟩ := id hls
  obtain ⟨ol0, hol0, _⟩ := id hl0
  have hlt : l < s.heap.objs.size := Heap.lt_size hol
  have hne : l ≠ s.heap.objs.size := Nat.ne_of_lt hlt
  have hLs : env.locals < s.heap.objs.size := F.ns.lt
  have hlL : l ≠ env.locals := Nat.ne_of_lt (Nat.lt_of_lt_of_le (Heap.lt_size hol0) F.above)
  refine wpAny_pyIter_list hls ?_
  have W := walks_calm (prog := prog) (w := w) (A := A) s.heap.objs.size l hne [] (by simp) vs.toArray
  have hlen : vs.toArray.size = vs.length := by simp
  rw [hlen] at W
  have hI0 : h₀.get? s.heap.objs.size = none := by
    cases e : h₀.get? s.heap.objs.size with
    | none => rfl
    | some o => exact absurd (Heap.lt_size (F.keep _ _ e)) (Nat.lt_irrefl _)
  refine ⟨_, _, _, vs.length, _, _, m₀, news, J, rfl, W, ?_, ?_, ?_, ⟨⟨_, Heap.get?_push_size _ rfl, rfl, rfl⟩, hls.at fun o e => Heap.get?_push_of_some _ e, .inl ⟨hh, rfl⟩⟩, F.push _, (fun p hp => ⟨Heap.get?_push_of_some _ (N p hp).1, (N p hp).2⟩), hj, ?_, ?_⟩
  · intro hm
    rcases List.mem_cons.mp hm with e | hm
    · exact absurd hLs (e ▸ Nat.lt_irrefl _)
    · rcases List.mem_cons.mp hm with e | hm
      · exact hlL e.symm
      · exact nomatch hm
  · intro b hb
    rw [List.mem_singleton.mp hb]
    exact hI0
  · intro p hp hI
    exact absurd (Heap.lt_size (N p hp).1) ((List.mem_singleton.mp hI) ▸ Nat.lt_irrefl _)
  · rintro i v m₁ news₁ s₁ own ⟨hh', tk', rfl⟩ hin hP hJ hoff hown hlive hall hst F₁ N₁
    have hv : vs[i]? = some v := by simpa using hP
    have N₂ : News h₀ env.locals hh' (news₁ ++ own) := fun p hp => N₁ p ((List.mem_append.mp hp).elim (fun h => List.mem_append.mpr (.inr h)) fun h => List.mem_append.mpr (.inl h))
    have hownI : ∀ p ∈ own, p.1 = s.heap.objs.size := fun p hp => by
      rcases List.mem_cons.mp (hown p hp) with h1 | h1
      · exact h1
      · rcases List.mem_cons.mp h1 with h1 | h1
        · have := (N₁ p (List.mem_append_left _ hp)).2.2
          rw [h1, hol0] at this; cases this
        · exact nomatch h1
    have hIs : ∃ oI, (s.heap.objs.size, oI) ∈ own := by
      obtain ⟨⟨oI, hoI, _⟩, _⟩ := hst
      exact ⟨oI, hall _ (List.mem_cons_self ..) hI0 oI hoI⟩
    refine wpAny_mono (turn i v m₁ news₁ hh' tk' s.heap.objs.size own hv hownI hIs (fun p hp e => hoff p hp (List.mem_singleton.mpr e)) hJ F₁ N₂) (fun f s₂ p => ?_) fun _ _ e => e
    obtain ⟨rfl, h', tk, m', nx, e, F', N', hn, hJ'⟩ := p
    refine .next ⟨rfl, h', tk, m', nx, e, F', fun p hp => N' p ((List.mem_append.mp hp).elim (fun h => List.mem_append.mpr (.inr h)) fun h => List.mem_append.mpr (.inl h)), fun p hp hq => hn p hp (List.mem_singleton.mp hq), hJ'⟩
  · rintro h' tk m' news' F' N' _ hJ
    exact done m' news' h' tk hJ F' N'
end
end Mine
end

section
open PySem PySem.W PyProof.Rows PySem.Calls PySem.Builtin PySem.SeqAt
set_option Elab.async false
set_option maxRecDepth 100000
set_option maxHeartbeats 8000000
namespace Mine

abbrev lo (vals : List Value) (n : Nat) : Obj := { cls := .type "list", data := .seq vals.toArray n }
abbrev Mail := Addr × List Value × Nat
def mailE (m : Mail) : Addr × Obj := (m.1, lo m.2.1 m.2.2)
def refs (ms : List Mail) : List Value := ms.map fun m => Value.ref m.1
def blockE (b : Addr) (ms : List Mail) (n : Nat) : List (Addr × Obj) := (b, lo (refs ms) n) :: ms.map mailE
def ShortMail (k : Nat) (vals : List Value) : Prop := ∃ ds : List Str, StrsAre vals ds ∧ ds.length ≤ k ∧ ∀ d ∈ ds, d.length ≤ 8
theorem ShortMail.more {k k' : Nat} {vals : List Value} (h : ShortMail k vals) (hk : k ≤ k') : ShortMail k' vals := by
  obtain ⟨ds, h1, h2, h3⟩ := h
  exact ⟨ds, h1, by omega, h3⟩
theorem strsAre_snoc : ∀ {vs : List Value} {xs : List Str}, StrsAre vs xs → ∀ (y : Str) (t : Tok), StrsAre (vs ++ [.str y t]) (xs ++ [y])
  | _, _, .nil, y, t => .cons y t .nil
  | _, _, .cons x t' h, y, t => .cons x t' (strsAre_snoc h y t)
theorem ShortMail.snoc {k : Nat} {vals : List Value} (h : ShortMail k vals) {y : Str} {t : Tok} (hy : y.length ≤ 8) : ShortMail (k + 1) (vals ++ [.str y t]) := by
  obtain ⟨ds, h1, h2, h3⟩ := h
  refine ⟨ds ++ [y], strsAre_snoc h1 y t, by simp; omega, fun d hd => ?_⟩
  rcases List.mem_append.mp hd with hd | hd
  · exact h3 d hd
  · rw [List.mem_singleton.mp hd]; exact hy

/-- what holds of one box at turn i -/
def BoxOk (i : Nat) (ms : List Mail) : Prop := 1 ≤ ms.length ∧ ms.length ≤ 5 ∧ ∀ m ∈ ms, ShortMail (1 + i) m.2.1
theorem BoxOk.more {i : Nat} {ms : List Mail} (h : BoxOk i ms) : BoxOk (i + 1) ms := ⟨h.1, h.2.1, fun m hm => (h.2.2 m hm).more (by omega)⟩

def BoxesJ (P B b0 b1 : Addr) (pv : List Value) (nP nB : Nat) (i : Nat) (m : Str → Option Value) (nx : List (Addr × Obj)) : Prop :=
  ∃ ms0 ms1 n0 n1, nx = blockE b0 ms0 n0 ++ (blockE b1 ms1 n1 ++ [(P, lo pv nP), (B, lo [.ref b0, .ref b1] nB)]) ∧ (nx.map (·.1)).Nodup ∧ m (Str.ofString "pieces") = some (.ref P) ∧ m (Str.ofString "boxes") = some (.ref B) ∧ BoxOk i ms0 ∧ BoxOk i ms1

theorem select {P B b0 b1 : Addr} {pv : List Value} {nP nB i : Nat} {m : Str → Option Value} {nx : List (Addr × Obj)} (J : BoxesJ P B b0 b1 pv nP nB i m nx) {k : Nat} (hk : k < 2) :
    ∃ bx ms n rest, [Value.ref b0, .ref b1][k]? = some (.ref bx) ∧ nx.Perm (blockE bx ms n ++ rest) ∧ (P, lo pv nP) ∈ rest ∧ (B, lo [.ref b0, .ref b1] nB) ∈ rest ∧ BoxOk i ms ∧ ((blockE bx ms n ++ rest).map (·.1)).Nodup ∧
      ∀ ms2 n2 m', BoxOk (i + 1) ms2 → ((blockE bx ms2 n2 ++ rest).map (·.1)).Nodup → m' (Str.ofString "pieces") = some (.ref P) → m' (Str.ofString "boxes") = some (.ref B) →
        ∃ nx2, nx2.Perm (blockE bx ms2 n2 ++ rest) ∧ BoxesJ P B b0 b1 pv nP nB (i + 1) m' nx2 := by
  obtain ⟨ms0, ms1, n0, n1, rfl, hnd, hp, hB, h0, h1⟩ := J
  match k, hk with
  | 0, _ =>
    refine ⟨b0, ms0, n0, _, rfl, .refl _, by simp, by simp, h0, hnd, fun ms2 n2 m' h2 hd hp' hB' => ⟨_, .refl _, ms2, ms1, n2, n1, rfl, hd, hp', hB', h2, h1.more⟩⟩
  | 1, _ =>
    have hperm := List.perm_append_comm_assoc (blockE b0 ms0 n0) (blockE b1 ms1 n1) [(P, lo pv nP), (B, lo [.ref b0, .ref b1] nB)]
    refine ⟨b1, ms1, n1, blockE b0 ms0 n0 ++ [(P, lo pv nP), (B, lo [.ref b0, .ref b1] nB)], rfl, hperm, by simp, by simp, h1, (hperm.map _).nodup_iff.mp hnd, fun ms2 n2 m' h2 hd hp' hB' => ?_⟩
    have hperm2 := List.perm_append_comm_assoc (blockE b0 ms0 n0) (blockE b1 ms2 n2) [(P, lo pv nP), (B, lo [.ref b0, .ref b1] nB)]
    exact ⟨_, hperm2, ms0, ms2, n0, n2, rfl, (hperm2.map _).nodup_iff.mpr hd, hp', hB', h0.more, h2⟩

theorem block_adr (b : Addr) (ms : List Mail) (n : Nat) (rest : List (Addr × Obj)) : (blockE b ms n ++ rest).map (·.1) = b :: (ms.map (·.1) ++ rest.map (·.1)) := by
  simp [blockE, mailE, Function.comp_def]
theorem nodup_grow {b D : Addr} {ms : List Mail} {n n2 k : Nat} {vals : List Value} {rest : List (Addr × Obj)} (hnd : ((blockE b ms n ++ rest).map (·.1)).Nodup) (hD : ∀ p ∈ blockE b ms n ++ rest, p.1 < D) :
    ((blockE b (ms ++ [(D, vals, k)]) n2 ++ rest).map (·.1)).Nodup := by
  have hD' : D ∉ (blockE b ms n ++ rest).map (·.1) := fun hm => by
    obtain ⟨p, hp, e⟩ := List.mem_map.mp hm
    exact absurd (hD p hp) (by rw [e]; exact Nat.lt_irrefl _)
  rw [block_adr] at hnd hD' ⊢
  have hperm : (b :: ((ms ++ [(D, vals, k)]).map (·.1) ++ rest.map (·.1))).Perm (D :: (b :: (ms.map (·.1) ++ rest.map (·.1)))) := by
    rw [List.map_append, List.map_cons, List.map_nil, List.append_assoc, List.singleton_append]
    exact (List.Perm.cons b List.perm_middle).trans (List.Perm.swap _ _ _)
  exact hperm.nodup_iff.mpr (List.nodup_cons.mpr ⟨hD', hnd⟩)
theorem nodup_same {b : Addr} {ms ms2 : List Mail} {n n2 : Nat} {rest : List (Addr × Obj)} (hnd : ((blockE b ms n ++ rest).map (·.1)).Nodup) (h : ms2.map (·.1) = ms.map (·.1)) : ((blockE b ms2 n2 ++ rest).map (·.1)).Nodup := by
  rw [block_adr] at hnd ⊢
  rw [h]; exact hnd
theorem refs_snoc (ms : List Mail) (m : Mail) : refs (ms ++ [m]) = refs ms ++ [.ref m.1] := by simp [refs]

theorem grow_post {h₀ h' : Heap} {L I : Addr} {own rest : List (Addr × Obj)} {J : (Str → Option Value) → List (Addr × Obj) → Prop} {s : Shared} {tk : Nat} {m' : Str → Option Value} {bx : Addr} {ms2 : List Mail} {n2 : Nat}
    (F : Fr h₀ L h' m') (N : News h₀ L h' (blockE bx ms2 n2 ++ rest ++ own)) (hI : ∀ p ∈ blockE bx ms2 n2 ++ rest, p.1 ≠ I) (hJ : ∃ nx2, nx2.Perm (blockE bx ms2 n2 ++ rest) ∧ J m' nx2) :
    GrowPost h₀ L I own J s .next { s with heap := h', toks := tk } := by
  obtain ⟨nx2, hp, hJ⟩ := hJ
  refine ⟨rfl, h', tk, m', nx2, rfl, F, fun p hm => N p ?_, fun p hm => hI p (hp.mem_iff.mp hm), hJ⟩
  rcases List.mem_append.mp hm with hm | hm
  · exact List.mem_append_left _ (hp.mem_iff.mp hm)
  · exact List.mem_append_right _ hm
end Mine
end

section
open PySem PySem.W PyProof.Rows PySem.Calls PySem.Builtin PySem.SeqAt
set_option Elab.async false
set_option maxRecDepth 100000
set_option maxHeartbeats 8000000
set_option pp.deepTerms false
set_option pp.maxSteps 30000
namespace Mine
def pv8 (t : Nat) : List Value := [.str (Str.ofString ".") t, .str (Str.ofString "a") (t + 1), .str (Str.ofString "\r") (t + 1 + 1), .str (Str.ofString "\n") (t + 1 + 1 + 1), .str (Str.ofString "\r\n") (t + 1 + 1 + 1 + 1), .str (Str.ofString ".\n") (t + 1 + 1 + 1 + 1 + 1), .str (Str.ofString " \t") (t + 1 + 1 + 1 + 1 + 1 + 1), .str (Str.ofString "\x0b\u2028") (t + 1 + 1 + 1 + 1 + 1 + 1 + 1)]
theorem nodup9 {P m0 m1 m2 b0 m3 m4 b1 B : Nat} (h0 : P < m0) (h1 : m0 < m1) (h2 : m1 < m2) (h3 : m2 < b0) (h4 : b0 < m3) (h5 : m3 < m4) (h6 : m4 < b1) (h7 : b1 < B) : [b0, m0, m1, m2, b1, m3, m4, P, B].Nodup := by
  simp; omega
theorem ints_get : ∀ {vs : List Value} {zs : List Int}, IntsAre vs zs → ∀ {i : Nat} {v : Value}, vs[i]? = some v → ∃ z t, v = .int z t
  | _, _, .nil, i, v, h => by simp at h
  | _, _, .cons n t r, 0, v, h => by simp at h; exact ⟨n, t, h.symm⟩
  | _, _, .cons n t r, i + 1, v, h => ints_get r (by simpa using h)
theorem pv8_get (t : Nat) {k : Nat} (hk : k < 8) : ∃ y u, (pv8 t)[k]? = some (.str y u) ∧ y.length ≤ 8 := by
  match k, hk with
  | 0, _ => exact ⟨_, _, rfl, by decide +kernel⟩
  | 1, _ => exact ⟨_, _, rfl, by decide +kernel⟩
  | 2, _ => exact ⟨_, _, rfl, by decide +kernel⟩
  | 3, _ => exact ⟨_, _, rfl, by decide +kernel⟩
  | 4, _ => exact ⟨_, _, rfl, by decide +kernel⟩
  | 5, _ => exact ⟨_, _, rfl, by decide +kernel⟩
  | 6, _ => exact ⟨_, _, rfl, by decide +kernel⟩
  | 7, _ => exact ⟨_, _, rfl, by decide +kernel⟩
theorem joinL_length (z : List Nat) : ∀ ps : List (List Nat), (joinL z ps).length ≤ (ps.map (·.length)).sum + ps.length * z.length
  | [] => by simp [joinL]
  | [p] => by simp [joinL]
  | p :: q :: r => by
    have := joinL_length z (q :: r)
    rw [joinL]
    simp only [List.length_append, List.map_cons, List.sum_cons, List.length_cons, Nat.succ_mul] at this ⊢
    omega
theorem join_length (z : Str) (ds : List Str) : (Txt.join z ds).length ≤ (ds.map (·.length)).sum + ds.length * z.length := by
  have e : ds = (ds.map (fun d => d.cps.toList)).map S := by
    rw [List.map_map]
    conv => lhs; rw [← List.map_id ds]
    exact List.map_congr_left fun d _ => (S_eq d).symm
  have h := joinL_length z.cps.toList (ds.map (fun d => d.cps.toList))
  rw [List.map_map, List.length_map] at h
  have h2 : Txt.join z ds = S (joinL z.cps.toList (ds.map (fun d => d.cps.toList))) := by
    conv => lhs; rw [e]
    exact txt_join_is z _
  rw [h2]
  simpa [S, Str.length, Function.comp_def] using h
theorem strs_of {vs ys : List Value} (hP : Paired (fun _ y => ∃ x t, y = Value.str x t ∧ x.length ≤ 2 ^ 9) (vs.filter fun _ => true) ys) : ∃ xs : List Str, StrsAre ys xs ∧ xs.length = vs.length ∧ ∀ x ∈ xs, x.length ≤ 2 ^ 9 := by
  rw [List.filter_eq_self.mpr (fun _ _ => rfl)] at hP
  induction hP with
  | nil => exact ⟨[], .nil, rfl, nofun⟩
  | cons h1 _ ih =>
    obtain ⟨x, t, rfl, hx⟩ := h1
    obtain ⟨xs, h3, h4, h5⟩ := ih
    exact ⟨x :: xs, .cons x t h3, by simp [h4], fun y hy => by rcases List.mem_cons.mp hy with rfl | hy; exact hx; exact h5 y hy⟩
local macro_rules | `(tactic| walk_at "exec For Name Name cons nil") => `(tactic| (k_here; (rename Fr _ _ _ _ => lF'); (with_unfolding_all refine' For_invVF lF' ?k1 ?k2 ?_; (case k1 => exact rfl); (case k2 => exact rfl); k_whole)))
theorem boxes_at {w : World} {A : Around} {s : Shared} (C : Site w 5 A s.heap) {l : Addr} {vs : List Value} {zs : List Int}
    (hl : s.heap.IsList l vs.toArray) (hi : IntsAre vs zs) (hn : vs.length ≤ 8) {Q E : Value → Shared → Prop}
    (ret : ∀ D b0 b1 vs0 vs1 xs0 xs1 h' tk, h'.IsList D #[.ref b0, .ref b1] → h'.IsList b0 vs0.toArray → h'.IsList b1 vs1.toArray → StrsAre vs0 xs0 → StrsAre vs1 xs1 → xs0 ≠ [] → xs1 ≠ [] → xs0.length ≤ 2 ^ 5 → xs1.length ≤ 2 ^ 5 →
      (∀ x ∈ xs0, x.length ≤ 2 ^ 9) → (∀ x ∈ xs1, x.length ≤ 2 ^ 9) → Ext s.heap h' → Q (.ref D) { s with heap := h', toks := tk }) :
    wpAny (model PySem.Challenge.rw_nb0028_01.row.prog w) A (call (.ref 75) [.ref l]) Q E s := by
  obtain ⟨⟨base, outer, mean, mg, mb, B, X, T⟩, hq, hdp, hun⟩ := C
  obtain ⟨hh, dp, fr, gd, un⟩ := A
  obtain rfl : hh = none := hq
  obtain rfl : fr = some outer := B.stack
  have hdp' : dp + 5 < recursionLimit := hdp
  have hun' : un + 100 + 4 * 5 < cLine := hun
  revert X; k_fill; intro X
  refine wpAny_call ?_
  refine' enter (A := ⟨none, dp, some outer, gd, un⟩) X T ?k6 ?k7 ?k8 ?k9 ?kB ?_ ?c2 ?c3 ?c4 ?c5
  case k6 => k_is
  case k7 => k_is
  case k8 => show dp < recursionLimit; omega
  case k9 => exact BindsTo.of_eq rfl
  case kB => exact locs rfl
  case c2 => exact rfl
  case c3 => exact rfl
  case c4 => exact rfl
  case c5 => decide
  intro L h₁ F N
  try dsimp only
  (try k_fold)
  iterate 72 (first | (with_reducible show wpAny _ _ (pyIter _) _ _ _) | walk1 | (dsimp only; walk1))
  rename_i tkp P hP lP hP2 tkm m0 hm0 l0 m1 hm1 l1 m2 hm2 l2 b0 hb0 lb0 m3 hm3 l3 m4 hm4 l4 b1 hb1 lb1 B2 hB2 lB h2 F2 N2
  have hnd := nodup9 l0 l1.1 l2.1 lb0.1 l3.1 l4.1 lb1.1 lB.1
  refine iter_grow (vs := vs) (news := blockE b0 [(m0, [.str (Str.ofString "a \n.") tkm], 0), (m1, [.str (Str.ofString "\x0b.\u2028.") (tkm + 1)], 0), (m2, [.str (Str.ofString "a \r\n.") (tkm + 1 + 1)], 0)] 0 ++ (blockE b1 [(m3, [.str (Str.ofString "\x0b.\u2028.") (tkm + 1 + 1 + 1)], 0), (m4, [.str (Str.ofString "a \r.") (tkm + 1 + 1 + 1 + 1)], 0)] 0 ++
      [(P, lo (pv8 tkp) 0), (B2, lo [.ref b0, .ref b1] 0)]))
    (BoxesJ P B2 b0 b1 (pv8 tkp) 0 0) rfl hl F2 (fun p hp => N2 p ?_) ?_ ?_ ?_
  · simp only [blockE, mailE, refs, pv8, List.map_cons, List.map_nil, List.cons_append, List.nil_append, List.mem_cons, List.not_mem_nil, or_false] at hp ⊢
    rcases hp with h | h | h | h | h | h | h | h | h <;> simp [h]
  · refine ⟨_, _, _, _, rfl, hnd, rfl, rfl, ⟨by simp, by simp, fun m hm => ?_⟩, ⟨by simp, by simp, fun m hm => ?_⟩⟩
    · simp only [List.mem_cons, List.not_mem_nil, or_false] at hm
      rcases hm with rfl | rfl | rfl <;> exact ⟨_, .cons _ _ .nil, by simp, by simp; decide +kernel⟩
    · simp only [List.mem_cons, List.not_mem_nil, or_false] at hm
      rcases hm with rfl | rfl <;> exact ⟨_, .cons _ _ .nil, by simp, by simp; decide +kernel⟩
  · rintro i v m₁ news₁ h tk3 I own hv hown hIs hnI J F3 N3
    obtain ⟨z, tz, rfl⟩ := ints_get hi hv
    have hJp : m₁ (Str.ofString "pieces") = some (.ref P) := by obtain ⟨_, _, _, _, _, _, h1, _⟩ := J; exact h1
    have hJB : m₁ (Str.ofString "boxes") = some (.ref B2) := by obtain ⟨_, _, _, _, _, _, _, h1, _⟩ := J; exact h1
    have F4 := fr_say F3 (x := Str.ofString "pieces") (v := .ref P) (by rw [if_neg (by decide)]; exact hJp)
    have F5 : Fr s.heap L h _ := fr_say F4 (x := Str.ofString "boxes") (v := .ref B2) (by rw [if_neg (by decide), if_neg (by decide)]; exact hJB)
    have N5 : News s.heap L h (news₁ ++ own) := N3
    clear F3 F4 N3
    iterate 8 (first | walk1 | (dsimp only; walk1))
    have hz0 : 0 ≤ z.fmod 2 := Int.fmod_nonneg_of_pos z (by decide)
    have hz1 : z.fmod 2 < 2 := Int.fmod_lt_of_pos z (by decide)
    have hkz : (z.fmod 2).toNat < 2 := by omega
    obtain ⟨bx, ms, nb, rest, hsel, hperm, hPr, hBr, hok, hnd5, hfin⟩ := select J hkz
    have hmem : ∀ p, p ∈ blockE bx ms nb ++ rest → p ∈ news₁ := fun p hp => hperm.mem_iff.mpr hp
    have hlB : h.IsList B2 [.ref b0, .ref b1].toArray := ⟨_, (N5 _ (List.mem_append_left _ (hmem _ (List.mem_append_right _ hBr)))).1, rfl, 0, rfl⟩
    refine item_listL hlB hz0 (by omega) hsel ?_
    have N6 : News s.heap L h ((bx, lo (refs ms) nb) :: (ms.map mailE ++ rest ++ own)) := fun p hp => by
      rcases List.mem_cons.mp hp with rfl | hp
      · exact N5 _ (List.mem_append_left _ (hmem _ (List.mem_append_left _ (List.mem_cons_self ..))))
      · rcases List.mem_append.mp hp with hp | hp
        · refine N5 _ (List.mem_append_left _ (hmem _ ?_))
          rcases List.mem_append.mp hp with hp | hp
          · exact List.mem_append_left _ (List.mem_cons_of_mem _ hp)
          · exact List.mem_append_right _ hp
        · exact N5 _ (List.mem_append_right _ hp)
    clear N5
    have hbxI : bx ≠ I := hnI _ (hmem _ (List.mem_append_left _ (List.mem_cons_self ..)))
    have hbxne : ∀ p ∈ ms.map mailE ++ rest ++ own, p.1 ≠ bx := fun p hp e => by
      rcases List.mem_append.mp hp with hp | hp
      · have h9 := (List.nodup_cons.mp (show (bx :: (ms.map mailE ++ rest).map (·.1)).Nodup from hnd5)).1
        exact h9 (List.mem_map.mpr ⟨p, hp, e⟩)
      · exact hbxI (by rw [← e]; exact hown p hp)
    iterate 3 (first | walk1 | (dsimp only; walk1))
    rename_i h6 F6 N7
    refine wpAny_mono (Q := fun (c : Bool) s' => (c = true → ms.length < 5) ∧ ∃ tk', s' = { s with heap := h6, toks := tk' }) ?_ (fun c s' hcs => ?_) fun _ _ e => e
    · have hlb : h6.IsList bx (refs ms).toArray := ⟨_, (N7 _ (List.mem_cons_self ..)).1, rfl, nb, rfl⟩
      iterate 11 (first | walk1 | (dsimp only; walk1))
      refine wpAny_truthy_bool ?_
      cases ((z.fdiv 2).fmod 3 == 0) with
      | false => exact ⟨nofun, _, rfl⟩
      | true =>
        show wpAny _ _ _ _ _ _
        iterate 8 (first | walk1 | (dsimp only; walk1))
        refine len_list hlb (by simp only [List.size_toArray, refs, List.length_map]; have := hok.2.1; omega) ?_
        dsimp only
        iterate 2 (first | walk1 | (dsimp only; walk1))
        refine wpAny_truthy_bool ?_
        split
        · rename_i hc
          simp [refs] at hc
          iterate 1 (first | walk1 | (dsimp only; walk1))
          exact ⟨fun _ => by omega, _, rfl⟩
        · exact ⟨nofun, _, rfl⟩
    · obtain ⟨hlt5, tk6, rfl⟩ := hcs
      cases c with
      | true =>
        show wpAny _ _ _ _ _ _
        iterate 11 (first | walk1 | (dsimp only; walk1))
        rename_i Dn h7 F7 N8 hl8
        have hnd6 := hnd5
        have hDnb : ∀ p ∈ (bx, lo (refs ms) nb) :: (ms.map mailE ++ rest ++ own), p.1 < Dn := fun p hp => by
          rcases List.mem_cons.mp hp with rfl | hp
          · exact hl8.1
          · exact kst_ltOf hl8.2 p hp
        refine append_own (T := bx) (its := refs ms) (n := nb) (own := (Dn, lo [] 0) :: (ms.map mailE ++ rest ++ own)) F7 (fun p hp => N8 p ?_) ?_ (by simp only [refs, List.length_map]; have := hok.2.1; omega) fun h8 n8 F8 N9 => ?_
        · rcases List.mem_cons.mp hp with rfl | hp
          · exact List.mem_cons_of_mem _ (List.mem_cons_self ..)
          · rcases List.mem_cons.mp hp with rfl | hp
            · exact List.mem_cons_self ..
            · exact List.mem_cons_of_mem _ (List.mem_cons_of_mem _ hp)
        · intro p hp
          rcases List.mem_cons.mp hp with rfl | hp
          · exact Nat.ne_of_gt hl8.1
          · exact hbxne p hp
        refine wpAny_execs_nil ?_
        try dsimp only
        refine wpAny_execs_nil ?_
        refine grow_post (bx := bx) (ms2 := ms ++ [(Dn, [], 0)]) (n2 := n8) (rest := rest) F8 (fun p hp => N9 p ?_) (fun p hp => ?_) (hfin _ _ _ ⟨by simp, by simp; have := hlt5 rfl; omega, fun m hm => ?_⟩ (nodup_grow hnd5 fun p hp => ?_) rfl rfl)
        · simp only [blockE, List.map_append, List.map_cons, List.map_nil, mailE, refs_snoc, List.cons_append, List.append_assoc, List.nil_append, List.mem_cons, List.mem_append] at hp ⊢
          rcases hp with h9 | h9 | h9 | h9 | h9
          · exact .inl h9
          · exact .inr (.inr (.inl h9))
          · exact .inr (.inl h9)
          · exact .inr (.inr (.inr (.inl h9)))
          · exact .inr (.inr (.inr (.inr h9)))
        · have hIn : ∀ q ∈ blockE bx ms nb ++ rest, q.1 ≠ I := fun q hq => hnI q (hmem q hq)
          have hDI : Dn ≠ I := by
            obtain ⟨oI, hoI⟩ := hIs
            exact Nat.ne_of_gt (hDnb (I, oI) (List.mem_cons_of_mem _ (List.mem_append_right _ hoI)))
          simp only [blockE, List.map_append, List.map_cons, List.map_nil, mailE, List.cons_append, List.append_assoc, List.nil_append, List.mem_cons, List.mem_append] at hp
          rcases hp with rfl | h9 | rfl | h9
          · exact hbxI
          · exact hIn p (List.mem_append_left _ (List.mem_cons_of_mem _ h9))
          · exact hDI
          · exact hIn p (List.mem_append_right _ h9)
        · rcases List.mem_append.mp hm with hm | hm
          · exact (hok.2.2 m hm).more (by omega)
          · rw [List.mem_singleton.mp hm]; exact ⟨[], .nil, by simp, nofun⟩
        · refine hDnb p ?_
          rcases List.mem_append.mp hp with hp | hp
          · rcases List.mem_cons.mp hp with rfl | hp
            · exact List.mem_cons_self ..
            · exact List.mem_cons_of_mem _ (List.mem_append_left _ (List.mem_append_left _ hp))
          · exact List.mem_cons_of_mem _ (List.mem_append_left _ (List.mem_append_right _ hp))
      | false =>
        show wpAny _ _ _ _ _ _
        iterate 8 (first | walk1 | (dsimp only; walk1))
        have hne9 : ms ≠ [] := by rintro rfl; have := hok.1; simp at this
        obtain ⟨ms', ml, rfl⟩ : ∃ ms' ml, ms = ms' ++ [ml] := ⟨ms.dropLast, ms.getLast hne9, (List.dropLast_concat_getLast hne9).symm⟩
        have hlb : h6.IsList bx (refs (ms' ++ [ml])).toArray := ⟨_, (N7 _ (List.mem_cons_self ..)).1, rfl, nb, rfl⟩
        have hsz : (refs (ms' ++ [ml])).toArray.size = ms'.length + 1 := by simp [refs]
        refine subscriptTail_builtin hlb.typeIs slot_list_getitem.lookup (wpAny_getItem_list_neg (x := .ref ml.1) hlb (by decide) (by rw [hsz]; omega) (by decide) ?_ ?_) (by with_unfolding_all rfl) (by intro _; with_unfolding_all rfl)
        · rw [hsz]
          have e9 : ((-1 : Int) + ((ms'.length + 1 : Nat) : Int)).toNat = ms'.length := by omega
          rw [show ((-1 : Int) + ((ms'.length + 1 : Nat) : Int)).toNat = ms'.length from e9] 
          simp [refs]
        have N10 : News s.heap L h6 ((ml.1, lo ml.2.1 ml.2.2) :: ((bx, lo (refs (ms' ++ [ml])) nb) :: (ms'.map mailE ++ rest ++ own))) := fun p hp => N7 p (by
          simp only [List.map_append, List.map_cons, List.map_nil, mailE, List.append_assoc, List.cons_append, List.nil_append, List.mem_cons, List.mem_append] at hp ⊢
          rcases hp with h9 | h9 | h9 | h9 | h9
          · exact .inr (.inr (.inl h9))
          · exact .inl h9
          · exact .inr (.inl h9)
          · exact .inr (.inr (.inr (.inl h9)))
          · exact .inr (.inr (.inr (.inr h9))))
        clear N7
        refine gm_append N10 ?_
        iterate 11 (first | walk1 | (dsimp only; walk1))
        have hlP : h6.IsList P (pv8 tkp).toArray := ⟨_, (N10 _ (List.mem_cons_of_mem _ (List.mem_cons_of_mem _ (List.mem_append_left _ (List.mem_append_right _ hPr))))).1, rfl, 0, rfl⟩
        have hy0 : 0 ≤ (z.fdiv 6).fmod 8 := Int.fmod_nonneg_of_pos _ (by decide)
        have hy1 : (z.fdiv 6).fmod 8 < 8 := Int.fmod_lt_of_pos _ (by decide)
        obtain ⟨y, ty, hy, hyl⟩ := pv8_get tkp (k := ((z.fdiv 6).fmod 8).toNat) (by omega)
        refine item_listL hlP hy0 (by omega) hy ?_
        iterate 1 (first | walk1 | (dsimp only; walk1))
        have hnd7 := hnd5
        rw [block_adr, List.map_append] at hnd7
        refine append_own (T := ml.1) (its := ml.2.1) (n := ml.2.2) (own := (bx, lo (refs (ms' ++ [ml])) nb) :: (ms'.map mailE ++ rest ++ own)) (by assumption) N10 (fun p hp => ?_) ?_ fun h8 n8 F8 N9 => ?_
        · have hp7 : (ml.1 :: (bx :: (ms'.map (·.1) ++ rest.map (·.1)))).Nodup := by
            have hpm : (bx :: (ms'.map (·.1) ++ [ml].map (·.1) ++ rest.map (·.1))).Perm (ml.1 :: (bx :: (ms'.map (·.1) ++ rest.map (·.1)))) := by
              rw [List.map_cons, List.map_nil, List.append_assoc, List.singleton_append]
              exact (List.Perm.cons bx List.perm_middle).trans (List.Perm.swap _ _ _)
            exact hpm.nodup_iff.mp hnd7
          have hml := (List.nodup_cons.mp hp7).1
          intro e
          rcases List.mem_cons.mp hp with rfl | hp
          · exact hml (by rw [← e]; exact List.mem_cons_self ..)
          · rcases List.mem_append.mp hp with hp | hp
            · refine hml (List.mem_cons_of_mem _ ?_)
              rw [← e]
              rcases List.mem_append.mp hp with hp | hp
              · obtain ⟨m9, hm9, rfl⟩ := List.mem_map.mp hp
                exact List.mem_append_left _ (List.mem_map.mpr ⟨m9, hm9, rfl⟩)
              · exact List.mem_append_right _ (List.mem_map.mpr ⟨p, hp, rfl⟩)
            · have h9 := hnI (mailE ml) (hmem _ (List.mem_append_left _ (List.mem_cons_of_mem _ (List.mem_map.mpr ⟨ml, by simp, rfl⟩))))
              exact h9 (by rw [← hown p hp]; exact e.symm)
        · obtain ⟨ds, hd1, hd2, _⟩ := hok.2.2 ml (by simp)
          have hd3 := (Mine.StrsAre.paired hd1 s.heap).length
          have hi8 := (List.getElem?_eq_some_iff.mp hv).1
          omega
        refine wpAny_execs_nil ?_
        try dsimp only
        refine wpAny_execs_nil ?_
        refine grow_post (bx := bx) (ms2 := ms' ++ [(ml.1, ml.2.1 ++ [.str y ty], n8)]) (n2 := nb) (rest := rest) F8 (fun p hp => N9 p ?_) (fun p hp => ?_) (hfin _ _ _ ⟨by simp, by have := hok.2.1; simp at this ⊢; omega, fun m hm => ?_⟩ (nodup_same hnd5 (by simp)) rfl rfl)
        · simp only [blockE, List.map_append, List.map_cons, List.map_nil, mailE, refs_snoc, List.cons_append, List.append_assoc, List.nil_append, List.mem_cons, List.mem_append] at hp ⊢
          rcases hp with h9 | h9 | h9 | h9 | h9
          · exact .inr (.inl h9)
          · exact .inr (.inr (.inl h9))
          · exact .inl h9
          · exact .inr (.inr (.inr (.inl h9)))
          · exact .inr (.inr (.inr (.inr h9)))
        · have hIn : ∀ q ∈ blockE bx (ms' ++ [ml]) nb ++ rest, q.1 ≠ I := fun q hq => hnI q (hmem q hq)
          simp only [blockE, List.map_append, List.map_cons, List.map_nil, mailE, List.cons_append, List.append_assoc, List.nil_append, List.mem_cons, List.mem_append] at hp
          rcases hp with rfl | h9 | rfl | h9
          · exact hbxI
          · exact hIn p (List.mem_append_left _ (List.mem_cons_of_mem _ (by rw [List.map_append]; exact List.mem_append_left _ h9)))
          · exact hIn (mailE ml) (List.mem_append_left _ (List.mem_cons_of_mem _ (List.mem_map.mpr ⟨ml, by simp, rfl⟩)))
          · exact hIn p (List.mem_append_right _ h9)
        · rcases List.mem_append.mp hm with hm | hm
          · exact (hok.2.2 m (List.mem_append_left _ hm)).more (by omega)
          · rw [List.mem_singleton.mp hm]
            have := (hok.2.2 ml (by simp)).snoc (t := ty) hyl
            exact this.more (by omega)
  · rintro m₁ news₁ h tk3 ⟨ms0, ms1, n0, n1, rfl, hnd3, hJp, hJB, hok0, hok1⟩ F3 N3
    have F4 : Fr s.heap L h _ := fr_say F3 (x := Str.ofString "boxes") (v := .ref B2) hJB
    have N4 : News s.heap L h _ := N3
    clear F3 N3
    have hlB : h.IsList B2 [.ref b0, .ref b1].toArray := ⟨_, (N4 (B2, lo [.ref b0, .ref b1] 0) (by simp)).1, rfl, 0, rfl⟩
    have hbox : ∀ v ∈ [Value.ref b0, .ref b1], ∃ bx ms, v = .ref bx ∧ h.IsList bx (refs ms).toArray ∧ BoxOk vs.length ms ∧ ∀ m ∈ ms, h.IsList m.1 m.2.1.toArray := by
      intro v hv
      simp only [List.mem_cons, List.not_mem_nil, or_false] at hv
      rcases hv with rfl | rfl
      · exact ⟨b0, ms0, rfl, ⟨_, (N4 (b0, lo (refs ms0) n0) (by simp [blockE])).1, rfl, n0, rfl⟩, hok0, fun m hm => ⟨_, (N4 (mailE m) (List.mem_append_left _ (List.mem_cons_of_mem _ (List.mem_map.mpr ⟨m, hm, rfl⟩)))).1, rfl, m.2.2, rfl⟩⟩
      · exact ⟨b1, ms1, rfl, ⟨_, (N4 (b1, lo (refs ms1) n1) (by simp [blockE])).1, rfl, n1, rfl⟩, hok1, fun m hm => ⟨_, (N4 (mailE m) (List.mem_append_right _ (List.mem_append_left _ (List.mem_cons_of_mem _ (List.mem_map.mpr ⟨m, hm, rfl⟩))))).1, rfl, m.2.2, rfl⟩⟩
    iterate 2 (first | walk1 | (dsimp only; walk1))
    have hvn := hn
    refine comp_lst (l := B2) (vs := [.ref b0, .ref b1]) (fun _ => true) (fun _ its => ∃ xs, StrsAre its.toList xs ∧ xs ≠ [] ∧ xs.length ≤ 2 ^ 5 ∧ ∀ x ∈ xs, x.length ≤ 2 ^ 9) rfl (by decide) rfl (by decide) rfl rfl (fun Q' hQ => ?_) hlB (by simp) no_tests (fun C v s₃ m₃ E' hv _ hns hm hk hC => ?_) (fun D h9 tk9 ys hD hp hP hy hk => ?_) (fun _ => rfl)
    · exact wpAny_Name (wpAny_loadName_local rfl rfl F4.ns rfl hQ) (by decide)
    · obtain ⟨bx, ms, rfl, hl1, hok, hml⟩ := hbox v hv
      refine comp_val (l := bx) (vs := refs ms) (fun _ => true) (fun _ y => ∃ x t, y = .str x t ∧ x.length ≤ 2 ^ 9) rfl (by decide) rfl (by decide) rfl rfl (fun Q' hQ => ?_) (hl1.at fun o e => hk _ o e) (by have := hok.2.1; simp [refs]; omega) no_tests (fun C2 v2 s4 m4 E2 hv2 _ hns2 hm2 hk2 hC2 => ?_) (fun D8 h8 tk8 ys8 hD8 hp8 hP8 hk8 => ?_) (fun _ => rfl)
      · exact wpAny_Name (wpAny_loadName_local rfl rfl hns hm hQ) (by decide)
      · obtain ⟨ml, hml1, rfl⟩ := List.mem_map.mp hv2
        obtain ⟨ds, hd1, hd2, hd3⟩ := hok.2.2 ml hml1
        have hsum := PySem.StrLaws.sumLen_le (B := 8) ds hd3
        have hd4 : ds.length * 8 ≤ 9 * 8 := Nat.mul_le_mul_right _ (by omega)
        refine elt_join (T := ml.1) (its := ml.2.1.toArray) (ys := ds) (fun tk Q' hQ => wpAny_Name (wpAny_loadName_local rfl rfl hns2 hm2 hQ) (by decide)) ((hml ml hml1).at fun o e => hk2 _ o (hk _ o e)) hd1 (by decide +kernel) (by omega) (fun t' tk' => ?_) rfl rfl
        refine ⟨⟨_, t', rfl, ?_⟩, _, _, rfl, fun _ _ e => e⟩
        have := join_length (Str.ofString "") ds
        have h0 : (Str.ofString "").length = 0 := by decide +kernel
        rw [h0] at this
        omega
      · obtain ⟨xs, hx1, hx2, hx3⟩ := strs_of hP8
        refine ⟨⟨D8, ys8, rfl, hD8, ?_, xs, hx1, ?_, ?_, hx3⟩, _, _, rfl, hk8⟩
        · obtain ⟨n, e⟩ := hp8; exact ⟨_, e, rfl, n, rfl⟩
        · rintro rfl; have := hok.1; simp [refs] at hx2; omega
        · have := hok.2.1; simp [refs] at hx2; omega
    · have hP' : Paired (LstIs h (fun _ its => ∃ xs, StrsAre its.toList xs ∧ xs ≠ [] ∧ xs.length ≤ 2 ^ 5 ∧ ∀ x ∈ xs, x.length ≤ 2 ^ 9) h9) [Value.ref b0, .ref b1] ys.toList := hP
      obtain ⟨n9, e9⟩ := hp
      generalize hys : ys.toList = yl at hP'
      cases hP' with
      | cons h1 h2 =>
        cases h2 with
        | cons h3 h4 =>
          cases h4
          obtain ⟨c0, its0, rfl, _, hc0, xs0, a1, a2, a3, a4⟩ := h1
          obtain ⟨c1, its1, rfl, _, hc1, xs1, d1, d2, d3, d4⟩ := h3
          have hyA : ys = #[.ref c0, .ref c1] := by rw [← Array.toArray_toList (xs := ys), hys]
          subst hyA
          exact ret D c0 c1 its0.toList its1.toList xs0 xs1 h9 tk9 ⟨_, e9, rfl, n9, rfl⟩ (by rw [Array.toArray_toList]; exact hc0) (by rw [Array.toArray_toList]; exact hc1) a1 d1 a2 d2 a3 d3 a4 d4 fun b o e => hk b o (F4.keep b o e)
end Mine
end

section
open PySem PySem.W PyProof.Rows PySem.Calls PySem.Builtin PySem.SeqAt
set_option Elab.async false
set_option maxRecDepth 100000
set_option maxHeartbeats 8000000
set_option pp.deepTerms false
set_option pp.maxSteps 3000
namespace Mine
theorem cut_at {w : World} {A : Around} {E : Value → Shared → Prop} {env : Env} {s : Shared} {value : Expr} {n kk : Nat} {pc p pos : Pos} {D : Addr} {ws : Array Value} {Q : Value → Shared → Prop} (hr : ∀ Q, Q (.ref D) s → wpAny (model PySem.Challenge.rw_nb0028_01.row.prog w) A (eval value env) Q E s)
    (hl : s.heap.IsList D ws) (hz : ws.size ≤ 2 ^ 20)
    (h : ∀ T h' tk, h'.IsList T (ws.toList.take n).toArray → Ext s.heap h' → Q (.ref T) { s with heap := h', toks := tk })
    (ht : ∀ o r, letTemporaryGo value o r = pure ()) : wpAny (model PySem.Challenge.rw_nb0028_01.row.prog w) A (eval (.Subscript value (.Slice none (some (.Constant (.int (n : Nat)) kk pc)) none p) pos) env) Q E s := by
  refine wpAny_Subscript_list_slice (hr _ (wpAny_evalPart_none (wpAny_evalPart_some (wpAny_Constant_int ?_)))) ht
  refine ⟨D, ws, none, some (n : Nat), rfl, hl, by unfold sizeLine; omega, .none, .int _ _, h _ _ _ ?_ fun b o e => Heap.get?_push_of_some _ (Heap.get?_push_of_some _ e)⟩
  rw [slicePick_upto' ws n]
  refine ⟨{ cls := .type "list", data := .seq (ws.toList.take n).toArray }, ?_, rfl, 0, rfl⟩
  have e1 := Heap.get?_push_size (s.heap.push { cls := .type "slice", data := .fields #[.none, .int (n : Nat) s.toks, .none] }) (o := { cls := .type "list", data := .seq (ws.toList.take n).toArray }) rfl
  rw [Heap.size_push] at e1
  exact e1
theorem list_gone {h₀ h : Heap} {L b : Addr} {m : Str → Option Value} {its : Array Value} (F : Fr h₀ L h m) (hl : h.IsList b its) : (TI.gone h [L]).IsList b its := by
  have hb := PyProof.Rows.ne_locals_of_isList F hl
  obtain ⟨o, e, r⟩ := hl
  exact ⟨o, gone_at e hb, r⟩
theorem fr_up' {h₀ h h' : Heap} {L : Addr} {fr : List Addr} {m : Str → Option Value} (F : Fr (TI.gone h₀ fr) L h m) (U : UpF (L :: fr) h h') : Fr (TI.gone h₀ fr) L h' m :=
  have F' := fr_up F U
  ⟨F'.ns, fun b o e => F'.keep b o (by rw [TI.gone_get (TI.gone_some e).1]; exact e), F.above⟩
theorem parted_lk {h₁ h : Heap} {vs : List Value} {xs : List Str} {ys : List Value} (hP : Paired (LstIs h₁ (fun v its => ∃ x t, v = .str x t ∧ StrsAre its.toList ((pieces crlf.cps.toList (quoteS x).cps.toList).map S)) h) (vs.filter fun _ => true) ys) (hx : StrsAre vs xs) : Paired (LK StrK h) ys ((xs.map rowsS).map (List.map stuffS)) := by
  have := paired_lk (f := fun x => (pieces crlf.cps.toList (quoteS x).cps.toList).map S) (G := h) hP hx (fun _ _ _ e => e)
  rw [List.map_map]
  have e9 : xs.map (fun x : Str => (pieces crlf.cps.toList (quoteS x).cps.toList).map S) = xs.map (List.map stuffS ∘ rowsS) := List.map_congr_left fun x _ => split_quote x
  rw [e9] at this
  exact this
theorem site_at {w : World} {n : Nat} {A : Around} {base s0 h : Heap} {outer : List Env} {mean : ExcName → Option Value} {mg mb m : Str → Option Value} {L f : Addr} {qual : Str} {scope : Scope} {cdv : Value}
    (B : Below A base outer s0) (X : (hd.heap_39 w.params).In base) (T : Top hd.view_39 (looseW hd.view_39 [Str.ofString "_deduplicate", Str.ofString "_twin_re_1", Str.ofString "_twin_re_2"]) mean mg mb base)
    (hq : A.handled = none) (hd : A.depth + (n + 1) < recursionLimit) (hu : A.units + 100 + 4 * (n + 1) < cLine) (F : Fr (TI.gone s0 (frA outer)) L h m) (hU : UpS s0 h) (hk : scope.kind = .function := by rfl) :
    SiteE w n (A.deeper (envOf qual scope L f cdv)) h := by
  have hnew : base.get? L = none := by
    cases e : base.get? L with
    | none => rfl
    | some o => have := F.above; rw [gone_size] at this; exact absurd (Nat.lt_of_lt_of_le (Heap.lt_size (B.stays L o e)) this) (Nat.lt_irrefl _)
  refine ⟨⟨base, _, mean, mg, mb, ⟨Around.frames_deeper B.stack, fun b o e => F.keep b o (base_gone B.frames B.stays b o e), .cons (by show scope.kind ≠ .module; rw [hk]; decide) rfl F.ns hnew (B.frames.of_keeps fun b o e _ => ?_)⟩, X, T⟩, hq, by show A.depth + 1 + n < _; omega, by show A.units + 3 + 100 + 4 * n < _; omega⟩
  obtain ⟨sl, e'⟩ := hU b o e
  exact ⟨_, e', rfl⟩
theorem same_decide {δ ε : Type} [DecidableEq δ] [DecidableEq ε] (f : δ → ε) (hf : ∀ a b, f a = f b → a = b) (a b : List δ) :
    decide (rem (dd (a.map f)) (dd (b.map f)) = some []) = decide (a.filter (fun x => !decide (x ∈ b)) = [] ∧ b.filter (fun x => !decide (x ∈ a)) = []) := decide_eq_decide.mpr (same_answers f hf a b)
theorem law_at {w : World} {A : Around} {s : Shared} (C : SiteE w 20 A s.heap) {l : Addr} {vs : List Value} {zs : List Int}
    (hl : s.heap.IsList l vs.toArray) (hi : IntsAre vs zs) (hn : vs.length ≤ 63) {R : Result → Shared → Prop}
    (ret : ∀ h' tk, (∀ outer, A.frames = some outer → UpF (frA outer) s.heap h') → R (.ok (.ret (.bool true))) { s with heap := h', toks := tk }) :
    codeAny (model PySem.Challenge.rw_nb0028_01.row.prog w) A (.call (.ref 109) ⟨[.ref l], []⟩) R s := by
  obtain ⟨⟨base, outer, mean, mg, mb, B, X0, T0⟩, hq, hdp, hun⟩ := C
  have X := X0.keeps B.stays
  have T := T0.keeps B.stays
  obtain ⟨hh, dp, fr, gd, un⟩ := A
  obtain rfl : hh = none := hq
  obtain rfl : fr = some outer := B.stack
  have hdp' : dp + 20 < recursionLimit := hdp
  have hun' : un + 100 + 4 * 20 < cLine := hun
  have X' : (hd.heap_39 w.params).In s.heap := X
  revert X; k_fill; intro X
  refine' enter (A := ⟨none, dp, some outer, gd, un⟩) X T ?k6 ?k7 ?k8 ?k9 ?kB ?_ ?c2 ?c3 ?c4 ?c5
  case k6 => k_is
  case k7 => k_is
  case k8 => show dp < recursionLimit; omega
  case k9 => exact BindsTo.of_eq rfl
  case kB => exact locs rfl
  case c2 => exact rfl
  case c3 => exact rfl
  case c4 => exact rfl
  case c5 => decide
  intro L h₁ F N
  try dsimp only
  (try k_fold)
  iterate 7 (first | walk1 | (dsimp only; walk1))
  refine cut_at (n := 8) (D := l) (ws := vs.toArray) (fun Q' hQ => ?_) (hl.at fun o e => F.keep _ _ e) (by simp; omega) (fun T8 h2 tk2 hT8 hk2 => ?_) (fun _ _ => rfl)
  · exact wpAny_Name (wpAny_loadName_local rfl rfl F.ns rfl hQ) (by decide)
  have F2 : Fr s.heap L h2 _ := F.keeps hk2
  have N2 : News s.heap L h2 [] := News.nil
  clear N
  dsimp only
  iterate 1 (first | walk1 | (dsimp only; walk1))
  refine ⟨X.keeps F2.keep, ?_⟩
  refine boxes_at (by exact Site.inside (n := 5) B X' T rfl (by show dp + 6 < _; omega) (by show un + 100 + 4 * 6 < _; omega) F2) (vs := vs.take 8) (zs := zs.take 8) (by simpa using hT8) (PyProof.Rows.IntsAre.take hi 8) (by simp; omega) fun D b0 b1 vs0 vs1 xs0 xs1 h3 tk3 hD hb0 hb1 hx0 hx1 hne0 hne1 hn0 hn1 hs0 hs1 hk3 => ?_
  have F3 : Fr s.heap L h3 _ := F2.keeps hk3
  obtain ⟨fz3, N3, hz3⟩ := freeze F3
  have hkeep3 : ∀ b o, s.heap.get? b = some o → h3.get? b = some o := F3.keep
  have hg0 : (TI.gone h3 [L]).IsList b0 vs0.toArray := list_gone F3 hb0
  have hg1 : (TI.gone h3 [L]).IsList b1 vs1.toArray := list_gone F3 hb1
  clear N2 F2 F
  dsimp only
  iterate 9 (first | walk1 | (dsimp only; walk1))
  rename_i h4 F4 N4
  have hG4 : Ext (TI.gone h3 [L]) h4 := frozen hz3 hkeep3 F4 N4
  iterate 11 (first | walk1 | (dsimp only; walk1))
  refine ⟨X.keeps F4.keep, ?_⟩
  have S4 := fun (qual : Str) (f : Addr) (cdv : Value) (scope : Scope) (hk : scope.kind = .function) => SiteE.inside (n := 16) (qual := qual) (f := f) (cdv := cdv) (scope := scope) B X0 T0 rfl (by show dp + 17 < _; omega) (by show un + 100 + 4 * 17 < _; omega) F4 hk
  refine told_at (S4 _ _ _ _ (by rfl)) (hg0.at fun o e => hG4 _ o e) hx0 hne0 (by omega) hs0 fun h5 tk5 U5f => ?_
  have U5 := U5f _ rfl
  have hUS5 : UpS (TI.gone h3 [L]) h5 := (Ext.upS hG4).trans fun b o e => U5.up b o e
  have S5 := (S4 _ _ _ _ (by rfl)).upF (fr := []) U5f
  have F5 : Fr (TI.gone s.heap (frA outer)) L h5 _ := fr_up F4 U5
  have X5 := X0.keeps (base_gone B.frames B.stays)
  have T5 := T0.keeps (base_gone B.frames B.stays)
  have N5 : News (TI.gone s.heap (frA outer)) L h5 [] := News.nil
  have hV5 : UpS s.heap h5 := (Ext.upS (fun b o e => F4.keep b o e)).trans fun b o e => U5.up b o e
  clear F4 N4 X T
  dsimp only
  iterate 11 (first | walk1 | (dsimp only; walk1))
  refine ⟨X5.keeps F5.keep, ?_⟩
  refine told_at S5 (hUS5.isList hg1) hx1 hne1 (by omega) hs1 fun h6 tk6 U6f => ?_
  have U6 := U6f _ rfl
  have hUS6 : UpS (TI.gone h3 [L]) h6 := hUS5.trans fun b o e => U6.up b o e
  have S6 := S5.upF (fr := []) U6f
  have F6 : Fr (TI.gone s.heap (frA outer)) L h6 _ := fr_up' F5 U6
  have N6 : News (TI.gone s.heap (frA outer)) L h6 [] := News.nil
  clear F5 N5
  dsimp only
  iterate 11 (first | walk1 | (dsimp only; walk1))
  have hv0l := (Mine.StrsAre.paired hx0 s.heap).length
  have hv1l := (Mine.StrsAre.paired hx1 s.heap).length
  refine comp_lst (l := b0) (vs := vs0) (fun _ => true) (fun v its => ∃ x t, v = .str x t ∧ StrsAre its.toList ((pieces crlf.cps.toList (quoteS x).cps.toList).map S)) rfl (by decide) rfl (by decide) rfl rfl (fun Q' hQ => ?_) (hUS6.isList hg0) (by omega) no_tests (fun C v s₃ m₃ E' hv _ hns hm hk hC => ?_) (fun D7 h7 tk7 ys7 hD7 hp7 hP7 hy7 hk7 => ?_) (fun _ => rfl)
  · exact wpAny_Name (wpAny_loadName_local rfl rfl F6.ns rfl hQ) (by decide)
  · obtain ⟨x, hx, t, rfl⟩ := strs_mem s.heap hx0 hv
    have hq0 := quoteS_length x
    have hbx := hs0 x hx
    refine elt_split (x := quoteS x) (by omega) (fun Q' hQ => elt_quote ((S6.site.less (by omega)).ext hk) rfl rfl rfl rfl hns hm (by omega) (by decide) hQ) (fun D' vs' h' tk hD' hl' hs' hx' => ?_) rfl rfl
    exact ⟨⟨D', vs'.toArray, rfl, hD', hl', x, t, rfl, hs'⟩, _, _, rfl, hx'⟩
  have F7 : Fr (TI.gone s.heap (frA outer)) L h7 _ := F6.keeps hk7
  have N7 : News (TI.gone s.heap (frA outer)) L h7 [] := News.nil
  have hP7' := parted_lk hP7 hx0
  have hl7 : h7.IsList D7 ys7 := by obtain ⟨n, e⟩ := hp7; exact ⟨_, e, rfl, n, rfl⟩
  have S7 := S6.upF (fr := []) (fun outer' _ => UpF.of_ext hk7)
  have hUS7 : UpS (TI.gone h3 [L]) h7 := hUS6.trans (Ext.upS hk7)
  clear F6 N6
  dsimp only
  iterate 1 (first | walk1 | (dsimp only; walk1))
  refine comp_lst (l := b1) (vs := vs1) (fun _ => true) (fun v its => ∃ x t, v = .str x t ∧ StrsAre its.toList ((pieces crlf.cps.toList (quoteS x).cps.toList).map S)) rfl (by decide) rfl (by decide) rfl rfl (fun Q' hQ => ?_) (hUS7.isList hg1) (by omega) no_tests (fun C v s₃ m₃ E' hv _ hns hm hk hC => ?_) (fun D8 h8 tk8 ys8 hD8 hp8 hP8 hy8 hk8 => ?_) (fun _ => rfl)
  · exact wpAny_Name (wpAny_loadName_local rfl rfl F7.ns rfl hQ) (by decide)
  · obtain ⟨x, hx, t, rfl⟩ := strs_mem s.heap hx1 hv
    have hq0 := quoteS_length x
    have hbx := hs1 x hx
    refine elt_split (x := quoteS x) (by omega) (fun Q' hQ => elt_quote ((S7.site.less (by omega)).ext hk) rfl rfl rfl rfl hns hm (by omega) (by decide) hQ) (fun D' vs' h' tk hD' hl' hs' hx' => ?_) rfl rfl
    exact ⟨⟨D', vs'.toArray, rfl, hD', hl', x, t, rfl, hs'⟩, _, _, rfl, hx'⟩
  have F8 : Fr (TI.gone s.heap (frA outer)) L h8 _ := F7.keeps hk8
  have N8 : News (TI.gone s.heap (frA outer)) L h8 [] := News.nil
  have hP8' := parted_lk hP8 hx1
  have hl8 : h8.IsList D8 ys8 := by obtain ⟨n, e⟩ := hp8; exact ⟨_, e, rfl, n, rfl⟩
  have S8 := S7.upF (fr := []) (fun outer' _ => UpF.of_ext hk8)
  have hUS8 : UpS (TI.gone h3 [L]) h8 := hUS7.trans (Ext.upS hk8)
  clear F7 N7
  dsimp only
  iterate 1 (first | walk1 | (dsimp only; walk1))
  refine ⟨X5.keeps F8.keep, ?_⟩
  have hy7l := hP7'.length
  have hy8l := hP8'.length
  simp only [List.length_map] at hy7l hy8l
  refine compare_at rowKey (by decide) (S8.less (by omega)) (vs1 := ys7.toList) (vs2 := ys8.toList) (by rw [Array.toArray_toList]; exact hl7.at fun o e => hk8 _ o e) (hP7'.mono fun _ _ x => rowKey.ext _ _ _ _ hk8 x) (by omega) (by rw [Array.toArray_toList]; exact hl8) hP8' (by omega) fun h9 tk9 U9f => ?_
  have U9 := U9f _ rfl
  have hUS9 : UpS (TI.gone h3 [L]) h9 := hUS8.trans fun b o e => U9.up b o e
  have S9 := S8.upF (fr := []) U9f
  have F9 : Fr (TI.gone s.heap (frA outer)) L h9 _ := fr_up' F8 U9
  obtain ⟨fz9, N9, hz9⟩ := freeze F9
  have hkeep9 : ∀ b o, (TI.gone s.heap (frA outer)).get? b = some o → h9.get? b = some o := F9.keep
  have hq0 : (TI.gone h9 [L]).IsList b0 vs0.toArray := list_gone F9 (hUS9.isList hg0)
  have hq1 : (TI.gone h9 [L]).IsList b1 vs1.toArray := list_gone F9 (hUS9.isList hg1)
  clear F8 N8
  dsimp only
  have hV9 : UpS s.heap h9 := (((hV5.trans fun b o e => U6.up b o e).trans (Ext.upS hk7)).trans (Ext.upS hk8)).trans fun b o e => U9.up b o e
  iterate 10 (first | walk1 | (dsimp only; walk1))
  rename_i h10 F10 N10
  have hG10 : Ext (TI.gone h9 [L]) h10 := frozen hz9 hkeep9 F10 N10
  have hV10 : UpS s.heap h10 := fun b o e => by
    obtain ⟨sl, e9⟩ := hV9 b o e
    have := F10.above
    rw [gone_size] at this
    exact ⟨sl, hG10 b _ (gone_at e9 (Nat.ne_of_lt (Nat.lt_of_lt_of_le (Heap.lt_size e) this)))⟩
  have S10 := fun (qual : Str) (f : Addr) (cdv : Value) (scope : Scope) (hk : scope.kind = .function) => site_at (n := 16) (qual := qual) (f := f) (cdv := cdv) (scope := scope) B X0 T0 rfl (by show dp + 17 < _; omega) (by show un + 100 + 4 * 17 < _; omega) F10 hV10 hk
  refine comp_lst (l := b0) (vs := vs0) (fun _ => true) (fun v its => ∃ x t, v = .str x t ∧ StrsAre its.toList (rowsS x)) rfl (by decide) rfl (by decide) rfl rfl (fun Q' hQ => ?_) (hq0.at fun o e => hG10 _ o e) (by omega) no_tests (fun C v s₃ m₃ E' hv _ hns hm hk hC => ?_) (fun D11 h11 tk11 ys11 hD11 hp11 hP11 hy11 hk11 => ?_) (fun _ => rfl)
  · exact wpAny_Name (wpAny_loadName_local rfl rfl F10.ns rfl hQ) (by decide)
  · obtain ⟨x, hx, t, rfl⟩ := strs_mem s.heap hx0 hv
    have hbx := hs0 x hx
    refine wpAny_mono (elt_rows (((S10 _ _ _ _ (by rfl)).site.less (by omega)).ext hk) rfl rfl rfl rfl hns hm (by omega) (by decide)) (fun y s₄ h4 => ?_) fun _ _ e => e
    obtain ⟨⟨T', its, rfl, h5, h6, h7⟩, h8⟩ := h4
    exact ⟨⟨T', its, rfl, h5, h6, x, t, rfl, h7⟩, h8⟩
  have F11 : Fr (TI.gone s.heap (frA outer)) L h11 _ := F10.keeps hk11
  have N11 : News (TI.gone s.heap (frA outer)) L h11 [] := News.nil
  have hP11' : Paired (LK StrK h11) ys11.toList (xs0.map rowsS) := paired_lk hP11 hx0 fun _ _ _ e => e
  have hl11 : h11.IsList D11 ys11 := by obtain ⟨n, e⟩ := hp11; exact ⟨_, e, rfl, n, rfl⟩
  have S11 := fun (qual : Str) (f : Addr) (cdv : Value) (scope : Scope) (hk : scope.kind = .function) => (S10 qual f cdv scope hk).upF (fr := []) (fun outer' _ => UpF.of_ext hk11)
  clear F10 N10
  dsimp only
  iterate 1 (first | walk1 | (dsimp only; walk1))
  refine comp_lst (l := b1) (vs := vs1) (fun _ => true) (fun v its => ∃ x t, v = .str x t ∧ StrsAre its.toList (rowsS x)) rfl (by decide) rfl (by decide) rfl rfl (fun Q' hQ => ?_) (hq1.at fun o e => hk11 _ o (hG10 _ o e)) (by omega) no_tests (fun C v s₃ m₃ E' hv _ hns hm hk hC => ?_) (fun D12 h12 tk12 ys12 hD12 hp12 hP12 hy12 hk12 => ?_) (fun _ => rfl)
  · exact wpAny_Name (wpAny_loadName_local rfl rfl F11.ns rfl hQ) (by decide)
  · obtain ⟨x, hx, t, rfl⟩ := strs_mem s.heap hx1 hv
    have hbx := hs1 x hx
    refine wpAny_mono (elt_rows (((S11 _ _ _ _ (by rfl)).site.less (by omega)).ext hk) rfl rfl rfl rfl hns hm (by omega) (by decide)) (fun y s₄ h4 => ?_) fun _ _ e => e
    obtain ⟨⟨T', its, rfl, h5, h6, h7⟩, h8⟩ := h4
    exact ⟨⟨T', its, rfl, h5, h6, x, t, rfl, h7⟩, h8⟩
  have F12 : Fr (TI.gone s.heap (frA outer)) L h12 _ := F11.keeps hk12
  have N12 : News (TI.gone s.heap (frA outer)) L h12 [] := News.nil
  have hP12' : Paired (LK StrK h12) ys12.toList (xs1.map rowsS) := paired_lk hP12 hx1 fun _ _ _ e => e
  have hl12 : h12.IsList D12 ys12 := by obtain ⟨n, e⟩ := hp12; exact ⟨_, e, rfl, n, rfl⟩
  have S12 := fun (qual : Str) (f : Addr) (cdv : Value) (scope : Scope) (hk : scope.kind = .function) => (S11 qual f cdv scope hk).upF (fr := []) (fun outer' _ => UpF.of_ext hk12)
  clear F11 N11
  dsimp only
  iterate 1 (first | walk1 | (dsimp only; walk1))
  refine ⟨X5.keeps F12.keep, ?_⟩
  have hy11l := hP11'.length
  have hy12l := hP12'.length
  simp only [List.length_map] at hy11l hy12l
  refine alike_at rowKey (by decide) ((S12 _ _ _ _ (by rfl)).site.less (by omega)) (vs1 := ys11.toList) (vs2 := ys12.toList) (by rw [Array.toArray_toList]; exact hl11.at fun o e => hk12 _ o e) (hP11'.mono fun _ _ x => rowKey.ext _ _ _ _ hk12 x) (by omega) (by rw [Array.toArray_toList]; exact hl12) hP12' (by omega) fun h13 tk13 hk13 => ?_
  have F13 : Fr (TI.gone s.heap (frA outer)) L h13 _ := F12.keeps hk13
  have N13 : News (TI.gone s.heap (frA outer)) L h13 [] := News.nil
  clear F12 N12
  have hV13 : UpS s.heap h13 := ((hV10.trans (Ext.upS hk11)).trans (Ext.upS hk12)).trans (Ext.upS hk13)
  rw [← same_decide (List.map stuffS) (fun _ _ e => map_stuff_inj e) (xs0.map rowsS) (xs1.map rowsS)]
  generalize decide (rem (dd ((xs0.map rowsS).map (List.map stuffS))) (dd ((xs1.map rowsS).map (List.map stuffS))) = some []) = ans
  dsimp only
  have hret := ret h13 tk13 fun outer' ho' => by
    cases ho'
    exact ⟨fun b o hb e => F13.keep b o (by rw [TI.gone_get hb]; exact e), fun b o e => hV13 b o e⟩
  cases ans with
  | true =>
    iterate 1 (first | walk1 | (dsimp only; walk1))
    exact hret
  | false =>
    iterate 1 (first | walk1 | (dsimp only; walk1))
    exact hret
end Mine
end

open PySem PySem.W PyProof.Rows PySem.Calls PySem.Builtin PySem.SeqAt
set_option Elab.async false
set_option maxRecDepth 100000
set_option maxHeartbeats 8000000
set_option pp.deepTerms false
set_option pp.maxSteps 3000
namespace Mine
theorem ns_law (w : World) : nsIn (hd.heap_39 w.params) mainGlobals (Str.ofString "law") = some (some (.ref 109)) ∧ keepIn (hd.heap_39 w.params) (.ref 109) = true := by
  have r : PySem.Challenge.rw_nb0028_01 = PySem.Challenge.rw_nb0028_01 := rfl
  revert r; k_fill; intro _
  constructor <;> k_is
end Mine

theorem PySem.Challenge.cw_nb0028_01_holds : PySem.Challenge.rw_nb0028_01.Holds :=
  Mine.hd (by
  k_fill
  intro w s₀ s₁ mg mb G Y fa o pm cd doc dV kV ho hd hcd hD hmg hg args vals as hpre hlay hrd hwl hlo
  have KX := kIn_of Y
  refine Ground.open G ?_
  intro T B D TE TW
  try (refine guard_noD D (by decide +kernel) ?_; clear D)
  have e109 : fa = 109 := by
    have h1 := mg_of KX (topRead_of T).g (Mine.ns_law w).1
    have h2 := hmg.symm.trans h1
    injection h2 with h2; injection h2
  subst e109
  clear hmg hcd hD ho hd
  wrow_args hpre hlay hrd hwl hlo
  all_goals refine enter_call ?_
  rename_i zs _ _ _ _ _ _ _ l vs _ hL _ _ _ hI _ hc _
  have hlen : vs.length = zs.length := hI.length
  refine Mine.law_at (zs := zs) ⟨⟨s₁.heap, [], _, mg, mb, below_caller _, KX, T⟩, rfl, by show 1 + 300 + 20 < 1000; decide, by show 4 + 100 + 4 * 20 < 9900; decide⟩ hL hI (by omega) fun h' tk U => ?_
  refine GoodW.toG ⟨.inl ⟨_, _, [], rfl, raisesW_false ?_, .bool true, ?_, ?_⟩, fun b o e => (U [] rfl).off b o (by simp) e, rfl, hg⟩
  · wrow_none_raised
  · wrow_post
  · exact unshared_nil)

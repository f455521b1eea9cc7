import PyProof.Rows.All
import Wide.All
import OpenK.AllK
import Wide.FinOn
import PySem.Challenge.RW_dm0047_02
set_option Elab.async false

section
open PySem
namespace Mine
set_option maxRecDepth 4000

/-! The machine of the pattern \s*(?:#\s*)?$ run on any text. -/

def rxCode : Array Nat := #[14, 4, 0, 0, 4294967295, 24, 9, 0, 4294967295, 13, 4, 8, 12, 0, 1, 23, 15, 0, 1, 16, 35, 24, 9, 0, 4294967295, 13, 4, 8, 12, 0, 1, 18, 6, 5, 1]

open Sre in
def rxM (text : Array Nat) (pc pos handed : Nat) (loops : Array Loop) (inner : Option Nat) (frames : List Sre.Frame) (weight : Nat) (answer : Option Bool) (seen : Seen) : M :=
  { code := rxCode, text := text, lim := text.size, start := 0, pc := pc, pos := pos, handed := handed, marks := #[], loops := loops, inner := inner, frames := frames, weight := weight, answer := answer, seen := seen }

/-- how many white signs stand from p on, n at most -/
def whites (text : Array Nat) : Nat → Nat → Nat
  | 0, _ => 0
  | n + 1, p => if Unicode.isSpace (text.getD p 0) then whites text n (p + 1) + 1 else 0

theorem whites_le (text : Array Nat) : ∀ n p, whites text n p ≤ n
  | 0, _ => Nat.le_refl _
  | n + 1, p => by
    unfold whites; split
    · exact Nat.succ_le_succ (whites_le text n (p + 1))
    · exact Nat.zero_le _

theorem whites_stop (text : Array Nat) : ∀ n p, whites text n p < n → Unicode.isSpace (text.getD (p + whites text n p) 0) = false
  | 0, _, h => absurd h (Nat.not_lt_zero _)
  | n + 1, p, h => by
    unfold whites at h ⊢
    split at h
    · rename_i hs
      have := whites_stop text n (p + 1) (by omega)
      simp only [hs, if_true]
      rw [show p + (whites text n (p + 1) + 1) = p + 1 + whites text n (p + 1) by omega]
      exact this
    · rename_i hs
      simp only [hs]
      simpa using hs

theorem whites_in (text : Array Nat) : ∀ n p j, j < whites text n p → Unicode.isSpace (text.getD (p + j) 0) = true
  | 0, _, _, h => absurd h (Nat.not_lt_zero _)
  | n + 1, p, j, h => by
    unfold whites at h
    split at h
    · rename_i hs
      cases j with
      | zero => simpa using hs
      | succ j =>
        rw [show p + (j + 1) = p + 1 + j by omega]
        exact whites_in text n (p + 1) j (by omega)
    · exact absurd h (Nat.not_lt_zero _)

theorem rx_accepts9 (c : Nat) (seen : Sre.Seen) : ∃ A B, Sre.accepts rxCode 9 c seen = if (Unicode.isSpace c != false) = true then .ok (true, A) else .ok (false, B) := ⟨_, _, rfl⟩
theorem rx_accepts25 (c : Nat) (seen : Sre.Seen) : ∃ A B, Sre.accepts rxCode 25 c seen = if (Unicode.isSpace c != false) = true then .ok (true, A) else .ok (false, B) := ⟨_, _, rfl⟩
theorem rx_accepts (i : Nat) (hi : i = 9 ∨ i = 25) (c : Nat) (seen : Sre.Seen) : ∃ seen', Sre.accepts rxCode i c seen = .ok (Unicode.isSpace c, seen') := by
  have key : ∃ A B, Sre.accepts rxCode i c seen = if (Unicode.isSpace c != false) = true then .ok (true, A) else .ok (false, B) := by
    rcases hi with rfl | rfl
    · exact rx_accepts9 c seen
    · exact rx_accepts25 c seen
  obtain ⟨A, B, h⟩ := key
  rw [h]
  cases Unicode.isSpace c with
  | true => exact ⟨A, rfl⟩
  | false => exact ⟨B, rfl⟩

theorem rx_run (text : Array Nat) (i : Nat) (hi : i = 9 ∨ i = 25) : ∀ n p found seen, ∃ seen', Sre.run rxCode text i n p found seen = .ok (found + whites text n p, seen')
  | 0, _, found, seen => ⟨seen, rfl⟩
  | n + 1, p, found, seen => by
    obtain ⟨s1, h1⟩ := rx_accepts i hi (text.getD p 0) seen
    unfold Sre.run whites
    cases hs : Unicode.isSpace (text.getD p 0) with
    | true =>
      obtain ⟨s2, h2⟩ := rx_run text i hi n (p + 1) (found + 1) s1
      refine ⟨s2, ?_⟩
      rw [hs] at h1
      simp only [h1, bind, Except.bind, if_true]
      rw [h2]
      simp only [Except.ok.injEq, Prod.mk.injEq, and_true]; omega
    | false =>
      rw [hs] at h1
      refine ⟨s1, ?_⟩
      simp only [h1, bind, Except.bind]; rfl

end Mine
end

section
open PySem
namespace Mine
set_option maxRecDepth 4000

def kept0 (b : Bool) : Sre.Kept := { lastmark := -1, lastindex := -1, whole := b, marks := #[] }
def gb1 (n : Nat) : Sre.Frame := { wait := .giveBack, pc := 5, pos := n, outermost := true, count := n, kept := kept0 false }
def clo (n : Nat) : Sre.Frame := { wait := .closeLoop, pc := 15, pos := n, outermost := true, loop := 0 }
def mmo (n : Nat) : Sre.Frame := { wait := .maxMore, pc := 32, pos := n, outermost := true, count := 0, kept := kept0 true, loop := 0, began := none }
def gb2 (p k : Nat) : Sre.Frame := { wait := .giveBack, pc := 21, pos := p, outermost := true, count := k, kept := kept0 true }
def mta (p : Nat) (c : Int) : Sre.Frame := { wait := .maxTail, pc := 32, pos := p, outermost := true, count := c, kept := kept0 false, loop := 0 }

def lp (c : Int) (b : Option Nat) : Array Sre.Loop := #[{ pc := 15, count := c, began := b, outer := none }]

variable (t : Array Nat)

/-- a step of the machine where what it has seen does not matter -/
def Goes (m : Sre.Seen → Sre.M) (m' : Sre.Seen → Sre.M) : Prop := ∀ seen, ∃ seen', (m seen).step = m' seen' ∧ (m seen).outcome = none

theorem run_eq {pc p : Nat} (hpc : pc = 5 ∨ pc = 21) (seen : Sre.Seen) : ∃ seen', Sre.run rxCode t (pc + 4) (min 4294967295 (((t.size : Int) - (p : Nat)).toNat)) p 0 seen = .ok (whites t (min 4294967295 (t.size - p)) p, seen') := by
  obtain ⟨s', h⟩ := rx_run t (pc + 4) (by omega) (min 4294967295 (t.size - p)) p 0 seen
  refine ⟨s', ?_⟩
  rw [show ((t.size : Int) - (p : Nat)).toNat = t.size - p by omega, h, Nat.zero_add]

theorem rep_eq5 (p h : Nat) (loops : Array Sre.Loop) (inner : Option Nat) (fs : List Sre.Frame) (w : Nat) (seen : Sre.Seen) :
    (rxM t 5 p h loops inner fs w none seen).step = (if (((0 : Nat) : Int) > (t.size : Int) - (p : Nat)) then (rxM t 5 p h loops inner fs w none (seen.add 24)).say false else
      match Sre.run rxCode t (5 + 4) (min 4294967295 (((t.size : Int) - (p : Nat)).toNat)) p 0 ((seen.add 24).add 13) with
      | .error why => (rxM t 5 p h loops inner fs w none (seen.add 24)).stick why
      | .ok (n, s) => if n < 0 then (rxM t 5 p h loops inner fs w none s).say false else (rxM t 5 (p + n) h loops inner fs w none s).afterRun .giveBack n ((rxM t 5 (p + n) h loops inner fs w none s).keep inner.isSome)) := rfl
theorem rep_eq21 (p h : Nat) (loops : Array Sre.Loop) (inner : Option Nat) (fs : List Sre.Frame) (w : Nat) (seen : Sre.Seen) :
    (rxM t 21 p h loops inner fs w none seen).step = (if (((0 : Nat) : Int) > (t.size : Int) - (p : Nat)) then (rxM t 21 p h loops inner fs w none (seen.add 24)).say false else
      match Sre.run rxCode t (21 + 4) (min 4294967295 (((t.size : Int) - (p : Nat)).toNat)) p 0 ((seen.add 24).add 13) with
      | .error why => (rxM t 21 p h loops inner fs w none (seen.add 24)).stick why
      | .ok (n, s) => if n < 0 then (rxM t 21 p h loops inner fs w none s).say false else (rxM t 21 (p + n) h loops inner fs w none s).afterRun .giveBack n ((rxM t 21 (p + n) h loops inner fs w none s).keep inner.isSome)) := rfl

theorem st_repeat1 (h : Nat) (hl : t.size < 4294967295) : Goes (rxM t 5 0 h #[] none [] 0 none) (rxM t 15 (whites t t.size 0) (whites t t.size 0) #[] none [gb1 (whites t t.size 0)] 1 none) := by
  intro seen
  obtain ⟨s', h'⟩ := run_eq t (pc := 5) (p := 0) (Or.inl rfl) ((seen.add 24).add 13)
  refine ⟨s', ?_, rfl⟩
  rw [show min 4294967295 (t.size - 0) = t.size by omega] at h'
  rw [rep_eq5, if_neg (by omega), h']
  simp only [Nat.not_lt_zero, if_false, Nat.zero_add]
  rfl
theorem st_repeat2 (p h : Nat) (n : Nat) (hl : t.size < 4294967295) (hp : p ≤ t.size) : Goes (rxM t 21 p h (lp 0 (some n)) (some 0) [mmo n, clo n, gb1 n] 3 none)
    (rxM t 31 (p + whites t (t.size - p) p) (p + whites t (t.size - p) p) (lp 0 (some n)) (some 0) [gb2 (p + whites t (t.size - p) p) (whites t (t.size - p) p), mmo n, clo n, gb1 n] 4 none) := by
  intro seen
  obtain ⟨s', h'⟩ := run_eq t (pc := 21) (p := p) (Or.inr rfl) ((seen.add 24).add 13)
  refine ⟨s', ?_, rfl⟩
  rw [show min 4294967295 (t.size - p) = t.size - p by omega] at h'
  rw [rep_eq21, if_neg (by omega), h']
  simp only [Nat.not_lt_zero, if_false]
  rfl
theorem st_repeat (n h : Nat) : Goes (rxM t 15 n h #[] none [gb1 n] 1 none) (rxM t 31 n n (lp (-1) none) (some 0) [clo n, gb1 n] 2 none) := fun _ => ⟨_, rfl, rfl⟩
theorem st_until1 (n h : Nat) : Goes (rxM t 31 n h (lp (-1) none) (some 0) [clo n, gb1 n] 2 none) (rxM t 19 n n (lp 0 (some n)) (some 0) [mmo n, clo n, gb1 n] 3 none) := fun _ => ⟨_, rfl, rfl⟩
theorem lit_eq (p h : Nat) (loops : Array Sre.Loop) (inner : Option Nat) (fs : List Sre.Frame) (w : Nat) (seen : Sre.Seen) :
    (rxM t 19 p h loops inner fs w none seen).step = (if p ≥ t.size then (rxM t 19 p h loops inner fs w none (seen.add 16)).say false else
      match (t.getD p 0 == 35) with
      | false => (rxM t 19 p h loops inner fs w none (seen.add 16)).say false
      | true => rxM t 21 (p + 1) h loops inner fs w none (seen.add 16)) := by
  show (if p ≥ t.size then (rxM t 19 p h loops inner fs w none (seen.add 16)).say false else
      match (Except.ok (t.getD p 0 == 35, seen.add 16) : Except String (Bool × Sre.Seen)) with
      | .error why => (rxM t 19 p h loops inner fs w none (seen.add 16)).stick why
      | .ok (false, s) => (rxM t 19 p h loops inner fs w none s).say false
      | .ok (true, s) => rxM t 21 (p + 1) h loops inner fs w none s) = _
  split
  · rfl
  · cases (t.getD p 0 == 35) <;> rfl
theorem st_lit_yes (p h : Nat) (loops : Array Sre.Loop) (inner : Option Nat) (fs : List Sre.Frame) (w : Nat) (hp : p < t.size) (hc : t.getD p 0 = 35) : Goes (rxM t 19 p h loops inner fs w none) (rxM t 21 (p + 1) h loops inner fs w none) := by
  intro seen
  refine ⟨seen.add 16, ?_, rfl⟩
  rw [lit_eq, if_neg (by omega), hc]; rfl
theorem st_lit_no (p h : Nat) (loops : Array Sre.Loop) (inner : Option Nat) (fs : List Sre.Frame) (w : Nat) (hc : p < t.size → t.getD p 0 ≠ 35) : Goes (rxM t 19 p h loops inner fs w none) (rxM t 19 p h loops inner fs w (some false)) := by
  intro seen
  refine ⟨seen.add 16, ?_, rfl⟩
  rw [lit_eq]
  split
  · rfl
  · rename_i hp
    rw [show (t.getD p 0 == 35) = false from beq_false_of_ne (hc (by omega))]; rfl

/-- the second look at the loop's end: one round is over -/
theorem st_until2 (p h n k : Nat) : Goes (rxM t 31 p h (lp 0 (some n)) (some 0) [gb2 p k, mmo n, clo n, gb1 n] 4 none)
    (rxM t 32 p p (lp 0 (some n)) none [mta p 1, gb2 p k, mmo n, clo n, gb1 n] 5 none) := fun _ => ⟨_, rfl, rfl⟩
theorem at_eq (p h : Nat) (loops : Array Sre.Loop) (inner : Option Nat) (fs : List Sre.Frame) (w : Nat) (seen : Sre.Seen) :
    (rxM t 32 p h loops inner fs w none seen).step = if (p == t.size || (p + 1 == t.size && t.getD p 0 == 10)) = true then rxM t 34 p h loops inner fs w none ((seen.add 6).add 48) else rxM t 32 p h loops inner fs w (some false) ((seen.add 6).add 48) := rfl
theorem st_at_yes (p h : Nat) (loops : Array Sre.Loop) (inner : Option Nat) (fs : List Sre.Frame) (w : Nat) (hp : p = t.size) : Goes (rxM t 32 p h loops inner fs w none) (rxM t 34 p h loops inner fs w none) := by
  intro seen
  exact ⟨(seen.add 6).add 48, by rw [at_eq, if_pos (by simp [hp])], rfl⟩
theorem st_at_no (p h : Nat) (loops : Array Sre.Loop) (inner : Option Nat) (fs : List Sre.Frame) (w : Nat) (hp : p < t.size) (hc : p + 1 = t.size → t.getD p 0 ≠ 10) : Goes (rxM t 32 p h loops inner fs w none) (rxM t 32 p h loops inner fs w (some false)) := by
  intro seen
  refine ⟨(seen.add 6).add 48, ?_, rfl⟩
  rw [at_eq, if_neg]
  simp only [Bool.or_eq_true, beq_iff_eq, Bool.and_eq_true]
  rintro (e | ⟨e, f⟩)
  · omega
  · exact hc e f
theorem st_success (p h : Nat) (loops : Array Sre.Loop) (inner : Option Nat) (fs : List Sre.Frame) (w : Nat) : Goes (rxM t 34 p h loops inner fs w none) (rxM t 34 p p loops inner fs w (some true)) := fun _ => ⟨_, rfl, rfl⟩

/-- back out of the frames -/
theorem bk_mta2 (pc p h n q k : Nat) (b : Bool) : Goes (rxM t pc p h (lp 0 (some n)) none [mta q 1, gb2 q k, mmo n, clo n, gb1 n] 5 (some b)) (rxM t 32 q h (lp 0 (some n)) (some 0) [gb2 q k, mmo n, clo n, gb1 n] 4 (some b)) := fun _ => ⟨_, rfl, rfl⟩
theorem bk_gb2_yes (pc p h n q k : Nat) : Goes (rxM t pc p h (lp 0 (some n)) (some 0) [gb2 q k, mmo n, clo n, gb1 n] 4 (some true)) (rxM t 21 q h (lp 0 (some n)) (some 0) [mmo n, clo n, gb1 n] 3 (some true)) := fun _ => ⟨_, rfl, rfl⟩
theorem bk_gb2_no0 (pc p h n q : Nat) : Goes (rxM t pc p h (lp 0 (some n)) (some 0) [gb2 q 0, mmo n, clo n, gb1 n] 4 (some false)) (rxM t 21 q h (lp 0 (some n)) (some 0) [mmo n, clo n, gb1 n] 3 (some false)) := fun _ => ⟨_, rfl, rfl⟩
theorem bk_gb2_no1 (pc p h n q k : Nat) : Goes (rxM t pc p h (lp 0 (some n)) (some 0) [gb2 (q + 1) (k + 1), mmo n, clo n, gb1 n] 4 (some false)) (rxM t 31 q q (lp 0 (some n)) (some 0) [gb2 q k, mmo n, clo n, gb1 n] 4 none) := by
  intro seen
  refine ⟨seen, ?_, rfl⟩
  have e : (rxM t pc p h (lp 0 (some n)) (some 0) [gb2 (q + 1) (k + 1), mmo n, clo n, gb1 n] 4 (some false) seen).step =
      if (((k + 1 : Nat) : Int) - 1 < ((0 : Nat) : Int)) then rxM t 21 (q + 1) h (lp 0 (some n)) (some 0) [mmo n, clo n, gb1 n] 3 (some false) seen
      else rxM t 31 q q (lp 0 (some n)) (some 0) [{ wait := .giveBack, pc := 21, pos := q, outermost := true, count := ((k + 1 : Nat) : Int) - 1, kept := kept0 true }, mmo n, clo n, gb1 n] 4 none seen := rfl
  rw [e, if_neg (by omega), show ((k + 1 : Nat) : Int) - 1 = (k : Int) by omega]
  rfl
theorem bk_mmo_yes (pc p h n : Nat) : Goes (rxM t pc p h (lp 0 (some n)) (some 0) [mmo n, clo n, gb1 n] 3 (some true)) (rxM t 32 n h (lp 0 none) (some 0) [clo n, gb1 n] 2 (some true)) := fun _ => ⟨_, rfl, rfl⟩
theorem bk_mmo_no (pc p h n : Nat) : Goes (rxM t pc p h (lp 0 (some n)) (some 0) [mmo n, clo n, gb1 n] 3 (some false)) (rxM t 32 n n (lp (-1) none) none [mta n 0, clo n, gb1 n] 3 none) := fun _ => ⟨_, rfl, rfl⟩
theorem bk_mta1 (pc p h n : Nat) (b : Bool) : Goes (rxM t pc p h (lp (-1) none) none [mta n 0, clo n, gb1 n] 3 (some b)) (rxM t 32 n h (lp (-1) none) (some 0) [clo n, gb1 n] 2 (some b)) := fun _ => ⟨_, rfl, rfl⟩
theorem bk_clo (pc p h n : Nat) (c : Int) (b : Bool) : Goes (rxM t pc p h (lp c none) (some 0) [clo n, gb1 n] 2 (some b)) (rxM t 15 n h #[] none [gb1 n] 1 (some b)) := fun _ => ⟨_, rfl, rfl⟩
theorem bk_gb1_yes (pc p h n : Nat) : Goes (rxM t pc p h #[] none [gb1 n] 1 (some true)) (rxM t 5 n h #[] none [] 0 (some true)) := fun _ => ⟨_, rfl, rfl⟩
theorem bk_gb1_no0 (pc p h : Nat) : Goes (rxM t pc p h #[] none [gb1 0] 1 (some false)) (rxM t 5 0 h #[] none [] 0 (some false)) := fun _ => ⟨_, rfl, rfl⟩
theorem bk_gb1_no1 (pc p h n : Nat) : Goes (rxM t pc p h #[] none [gb1 (n + 1)] 1 (some false)) (rxM t 15 n n #[] none [gb1 n] 1 none) := by
  intro seen
  refine ⟨seen, ?_, rfl⟩
  have e : (rxM t pc p h #[] none [gb1 (n + 1)] 1 (some false) seen).step =
      if (((n + 1 : Nat) : Int) - 1 < ((0 : Nat) : Int)) then rxM t 5 (n + 1) h #[] none [] 0 (some false) seen
      else rxM t 15 n n #[] none [{ wait := .giveBack, pc := 5, pos := n, outermost := true, count := ((n + 1 : Nat) : Int) - 1, kept := kept0 false }] 1 none seen := rfl
  rw [e, if_neg (by omega), show ((n + 1 : Nat) : Int) - 1 = (n : Int) by omega]
  rfl
end Mine
end

section
open PySem
namespace Mine
set_option maxRecDepth 4000

def Gets (b : Nat) (m m' : Sre.Seen → Sre.M) : Prop := ∀ seen, ∃ n, n ≤ b ∧ ∃ seen', Sre.M.runFor n (m seen) = m' seen'

theorem runFor_add : ∀ (a b : Nat) (m : Sre.M), Sre.M.runFor (a + b) m = Sre.M.runFor b (Sre.M.runFor a m)
  | 0, b, m => by rw [Nat.zero_add]; rfl
  | a + 1, b, m => by
    rw [show a + 1 + b = (a + b) + 1 by omega]
    show (if m.outcome.isSome then m else Sre.M.runFor (a + b) m.step) = Sre.M.runFor b (if m.outcome.isSome then m else Sre.M.runFor a m.step)
    split
    · rename_i h
      cases b with
      | zero => rfl
      | succ b => show m = if m.outcome.isSome then m else _; rw [if_pos h]
    · exact runFor_add a b m.step

theorem Gets.of {m m' : Sre.Seen → Sre.M} (h : Goes m m') : Gets 1 m m' := fun seen => by
  obtain ⟨s', e, o⟩ := h seen
  refine ⟨1, Nat.le_refl _, s', ?_⟩
  show (if (m seen).outcome.isSome then m seen else Sre.M.runFor 0 (m seen).step) = _
  rw [o, e]; rfl
theorem Gets.trans {a b : Nat} {m₁ m₂ m₃ : Sre.Seen → Sre.M} (h₁ : Gets a m₁ m₂) (h₂ : Gets b m₂ m₃) : Gets (a + b) m₁ m₃ := fun seen => by
  obtain ⟨n, hn, s', e⟩ := h₁ seen
  obtain ⟨n', hn', s'', e'⟩ := h₂ s'
  exact ⟨n + n', by omega, s'', by rw [runFor_add, e, e']⟩
theorem Gets.le {a b : Nat} {m₁ m₂ : Sre.Seen → Sre.M} (h : Gets a m₁ m₂) (hab : a ≤ b) : Gets b m₁ m₂ := fun seen => by
  obtain ⟨n, hn, r⟩ := h seen
  exact ⟨n, by omega, r⟩
theorem Gets.refl {m : Sre.Seen → Sre.M} : Gets 0 m m := fun seen => ⟨0, Nat.le_refl _, seen, rfl⟩
/-- one step first -/
theorem Goes.then {b : Nat} {m₁ m₂ m₃ : Sre.Seen → Sre.M} (h₁ : Goes m₁ m₂) (h₂ : Gets b m₂ m₃) : Gets (1 + b) m₁ m₃ := (Gets.of h₁).trans h₂

variable (t : Array Nat)

def rxDone (pc pos handed : Nat) (b : Bool) (seen : Sre.Seen) : Sre.M := { rxM t pc pos handed #[] none [] 0 (some b) seen with outcome := some (if b then .matched else .failed) }
theorem st_done (pc pos handed : Nat) (b : Bool) : Goes (rxM t pc pos handed #[] none [] 0 (some b)) (rxDone t pc pos handed b) := fun seen => ⟨seen, by cases b <;> rfl, rfl⟩

/-- the inner give-back: no end is found -/
theorem inner_fails (n : Nat) : ∀ (k q h : Nat), k ≤ q → q < t.size → (q + 1 = t.size → t.getD q 0 ≠ 10) →
    ∃ q' h', Gets (4 * (k + 1)) (rxM t 31 q h (lp 0 (some n)) (some 0) [gb2 q k, mmo n, clo n, gb1 n] 4 none) (rxM t 21 q' h' (lp 0 (some n)) (some 0) [mmo n, clo n, gb1 n] 3 (some false))
  | 0, q, h, _, hq, hc => ⟨q, q, ((st_until2 t q h n 0).then ((st_at_no t q q _ _ _ _ hq hc).then ((bk_mta2 t 32 q q n q 0 false).then (Gets.of (bk_gb2_no0 t 32 q q n q))))).le (by omega)⟩
  | k + 1, 0, _, hk, _, _ => absurd hk (by omega)
  | k + 1, q + 1, h, hk, hq, hc => by
    obtain ⟨q', h', r⟩ := inner_fails n k q q (by omega) (by omega) (fun e => by omega)
    exact ⟨q', h', ((st_until2 t (q + 1) h n (k + 1)).then ((st_at_no t (q + 1) (q + 1) _ _ _ _ hq hc).then ((bk_mta2 t 32 (q + 1) (q + 1) n (q + 1) (k + 1) false).then ((bk_gb2_no1 t 32 (q + 1) (q + 1) n q k).then r)))).le (by omega)⟩

/-- the outer give-back: white signs alone lie behind -/
theorem outer_fails : ∀ (n pc p h : Nat), n < t.size → (∀ j, j < n → t.getD j 0 ≠ 35) → ∃ h', Gets (8 * n + 1) (rxM t pc p h #[] none [gb1 n] 1 (some false)) (rxM t 5 0 h' #[] none [] 0 (some false))
  | 0, pc, p, h, _, _ => ⟨h, (Gets.of (bk_gb1_no0 t pc p h)).le (by omega)⟩
  | n + 1, pc, p, h, hn, hw => by
    obtain ⟨h', r⟩ := outer_fails n 15 n n (by omega) (fun j hj => hw j (by omega))
    exact ⟨h', ((bk_gb1_no1 t pc p h n).then ((st_repeat t n n).then ((st_until1 t n n).then ((st_lit_no t n n _ _ _ _ (fun _ => hw n (by omega))).then
      ((bk_mmo_no t 19 n n n).then ((st_at_no t n n _ _ _ _ (by omega) (fun e => by omega)).then ((bk_mta1 t 32 n n n false).then ((bk_clo t 32 n n n (-1) false).then r)))))))).le (by omega)⟩

def rxJunk : Bool :=
  let n := whites t t.size 0
  n == t.size || (t.getD n 0 == 35 && n + 1 + whites t (t.size - (n + 1)) (n + 1) == t.size)

theorem space_ne35 {c : Nat} (h : Unicode.isSpace c = true) : c ≠ 35 := by rintro rfl; revert h; decide
theorem nospace_ne10 {c : Nat} (h : Unicode.isSpace c = false) : c ≠ 10 := by rintro rfl; revert h; decide

theorem rx_whole (hl : t.size < 4294967295) : ∃ pc pos handed, Gets (20 * (t.size + 2)) (rxM t 5 0 0 #[] none [] 0 none) (rxDone t pc pos handed (rxJunk t)) := by
  have hle := whites_le t t.size 0
  by_cases h1 : whites t t.size 0 = t.size
  · have hj : rxJunk t = true := by simp [rxJunk, h1]
    rw [hj]
    refine ⟨_, _, _, ((st_repeat1 t 0 hl).then ((st_repeat t _ _).then ((st_until1 t _ _).then ((st_lit_no t _ _ _ _ _ _ (fun e => by omega)).then ((bk_mmo_no t _ _ _ _).then
      ((st_at_yes t _ _ _ _ _ _ h1).then ((st_success t _ _ _ _ _ _).then ((bk_mta1 t _ _ _ _ true).then ((bk_clo t _ _ _ _ _ true).then ((bk_gb1_yes t _ _ _ _).then (Gets.of (st_done t _ _ _ true)))))))))))).le (by omega)⟩
  · have hlt : whites t t.size 0 < t.size := by omega
    have hns := whites_stop t t.size 0 hlt
    rw [Nat.zero_add] at hns
    have hwh : ∀ j, j < whites t t.size 0 → t.getD j 0 ≠ 35 := fun j hj => by
      have := whites_in t t.size 0 j hj
      rw [Nat.zero_add] at this
      exact space_ne35 this
    by_cases h2 : t.getD (whites t t.size 0) 0 = 35
    · have hle2 := whites_le t (t.size - (whites t t.size 0 + 1)) (whites t t.size 0 + 1)
      by_cases h3 : whites t t.size 0 + 1 + whites t (t.size - (whites t t.size 0 + 1)) (whites t t.size 0 + 1) = t.size
      · have hj : rxJunk t = true := by unfold rxJunk; simp only [h2, h3, beq_self_eq_true, Bool.and_true, Bool.or_true]
        rw [hj]
        refine ⟨_, _, _, ((st_repeat1 t 0 hl).then ((st_repeat t _ _).then ((st_until1 t _ _).then ((st_lit_yes t _ _ _ _ _ _ hlt h2).then ((st_repeat2 t _ _ _ hl (by omega)).then ((st_until2 t _ _ _ _).then
          ((st_at_yes t _ _ _ _ _ _ h3).then ((st_success t _ _ _ _ _ _).then ((bk_mta2 t _ _ _ _ _ _ true).then ((bk_gb2_yes t _ _ _ _ _ _).then ((bk_mmo_yes t _ _ _ _).then ((bk_clo t _ _ _ _ _ true).then ((bk_gb1_yes t _ _ _ _).then (Gets.of (st_done t _ _ _ true))))))))))))))).le (by omega)⟩
      · have hj : rxJunk t = false := by unfold rxJunk; simp only [beq_false_of_ne h1, beq_false_of_ne h3, Bool.and_false, Bool.or_false]
        rw [hj]
        have hlt2 : whites t (t.size - (whites t t.size 0 + 1)) (whites t t.size 0 + 1) < t.size - (whites t t.size 0 + 1) := by omega
        have hns2 := whites_stop t _ _ hlt2
        obtain ⟨q', h', r⟩ := inner_fails t (whites t t.size 0) (whites t (t.size - (whites t t.size 0 + 1)) (whites t t.size 0 + 1)) (whites t t.size 0 + 1 + whites t (t.size - (whites t t.size 0 + 1)) (whites t t.size 0 + 1))
          (whites t t.size 0 + 1 + whites t (t.size - (whites t t.size 0 + 1)) (whites t t.size 0 + 1)) (by omega) (by omega) (fun _ => nospace_ne10 hns2)
        obtain ⟨h'', r2⟩ := outer_fails t (whites t t.size 0) 15 (whites t t.size 0) (whites t t.size 0) hlt hwh
        refine ⟨_, _, _, ((st_repeat1 t 0 hl).then ((st_repeat t _ _).then ((st_until1 t _ _).then ((st_lit_yes t _ _ _ _ _ _ hlt h2).then ((st_repeat2 t _ _ _ hl (by omega)).then (r.trans
          ((bk_mmo_no t _ _ _ _).then ((st_at_no t _ _ _ _ _ _ hlt (fun _ => nospace_ne10 hns)).then ((bk_mta1 t _ _ _ _ false).then ((bk_clo t _ _ _ _ _ false).then (r2.trans (Gets.of (st_done t _ _ _ false))))))))))))).le (by omega)⟩
    · have hj : rxJunk t = false := by unfold rxJunk; simp only [beq_false_of_ne h1, beq_false_of_ne h2, Bool.false_and, Bool.or_false]
      rw [hj]
      obtain ⟨h'', r2⟩ := outer_fails t (whites t t.size 0) 15 (whites t t.size 0) (whites t t.size 0) hlt hwh
      refine ⟨_, _, _, ((st_repeat1 t 0 hl).then ((st_repeat t _ _).then ((st_until1 t _ _).then ((st_lit_no t _ _ _ _ _ _ (fun _ => h2)).then
          ((bk_mmo_no t _ _ _ _).then ((st_at_no t _ _ _ _ _ _ hlt (fun _ => nospace_ne10 hns)).then ((bk_mta1 t _ _ _ _ false).then ((bk_clo t _ _ _ _ _ false).then (r2.trans (Gets.of (st_done t _ _ _ false))))))))))).le (by omega)⟩
end Mine
end

section
set_option maxRecDepth 100000
open PySem PySem.W PySem.Calls PyProof.Rows Builtin Builtin.ObjectAttr
namespace Mine

theorem runFor_stay : ∀ (b : Nat) {m : Sre.M}, m.outcome.isSome = true → Sre.M.runFor b m = m
  | 0, _, _ => rfl
  | b + 1, m, h => by show (if m.outcome.isSome then m else _) = m; rw [if_pos h]

theorem runFor_same {a b : Nat} {m : Sre.M} (ha : (Sre.M.runFor a m).outcome.isSome = true) (hb : (Sre.M.runFor b m).outcome.isSome = true) : Sre.M.runFor a m = Sre.M.runFor b m := by
  have h1 : Sre.M.runFor (a + b) m = Sre.M.runFor a m := by rw [runFor_add, runFor_stay b ha]
  have h2 : Sre.M.runFor (b + a) m = Sre.M.runFor b m := by rw [runFor_add, runFor_stay a hb]
  rw [← h1, ← h2, Nat.add_comm]

section
variable {M : Model} {A : Around} {E : Value → Shared → Prop} {s : Shared}

theorem drive_ {Q : Sre.M → Shared → Prop} : ∀ (T n : Nat) (m : Sre.M), n ≤ 4 * T → (Sre.M.runFor n m).outcome.isSome = true → 0 < T → Q (Sre.M.runFor n m) s → wpAny M A (Re.reDrive T m) Q E s
  | 0, _, _, _, _, h0, _ => absurd h0 (Nat.lt_irrefl _)
  | T + 1, n, m, hn, ho, _, hq => by
    show wpAny M A (if (Sre.M.runFor 4 m).outcome.isSome then pure (Sre.M.runFor 4 m) else do rule "sre.turn"; Re.reDrive T (Sre.M.runFor 4 m)) Q E s
    by_cases h4 : (Sre.M.runFor 4 m).outcome.isSome = true
    · rw [if_pos h4, runFor_same h4 ho]
      exact wpAny_pure hq
    · rw [if_neg h4]
      have hn4 : 4 < n := by
        apply Nat.lt_of_not_le
        intro hle
        apply h4
        have e : Sre.M.runFor (n + (4 - n)) m = Sre.M.runFor n m := by rw [runFor_add, runFor_stay _ ho]
        rw [show 4 = n + (4 - n) by omega, e]; exact ho
      have e : Sre.M.runFor n m = Sre.M.runFor (n - 4) (Sre.M.runFor 4 m) := by rw [← runFor_add]; congr 1; omega
      refine wpAny_bind (wpAny_rule (drive_ T (n - 4) _ (by omega) (e ▸ ho) (by omega) (e ▸ hq)))

theorem tell_ {has : Nat → Bool} {nm : Nat → String} {Q : PUnit → Shared → Prop} : ∀ l : List Nat, Q ⟨⟩ s → wpAny M A (forIn l PUnit.unit (fun i _ => if has i = true then (do rule (nm i); pure (ForInStep.yield PUnit.unit)) else pure (ForInStep.yield PUnit.unit)) : Sem PUnit) Q E s
  | [], h => by rw [List.forIn_nil]; exact wpAny_pure h
  | i :: r, h => by
    rw [List.forIn_cons]
    refine wpAny_bind ?_
    cases has i with
    | true => exact wpAny_bind (wpAny_rule (wpAny_pure (tell_ r h)))
    | false => exact wpAny_pure (tell_ r h)

theorem runToEnd_ {m : Sre.M} {n : Nat} {b : Bool} {Q : Option Sre.M → Shared → Prop} (hn : n ≤ 2 ^ 60) (ho : (Sre.M.runFor n m).outcome = some (if b then .matched else .failed))
    (h : Q (if b then some (Sre.M.runFor n m) else none) s) : wpAny M A (Re.reRunToEnd m) Q E s := by
  unfold Re.reRunToEnd
  refine wpAny_bind (drive_ (2 ^ 64) n m (by omega) (by rw [ho]; rfl) (by omega) ?_)
  refine wpAny_bind (wpAny_mono (tell_ (has := fun i => (Sre.M.runFor n m).seen.has i) (nm := fun i => Sre.names.getD i "") _ (Q := fun _ s' => s' = s) rfl) (fun _ s' e => ?_) fun _ _ e => e)
  subst e
  rw [ho]
  cases b with
  | true => exact wpAny_pure h
  | false => exact wpAny_pure h
end

def rxMethObj : Obj := { cls := .type "builtin_function_or_method", data := .fields #[.builtin "re.Pattern.match", .ref 36] }
def rxPatObj (v0 : Value) (t1 : Tok) : Obj := { cls := .type "re.Pattern", data := .fields #[v0, .int 32 t1, .int 0 0, .none, .none, .ref 35, .int 0 0] }
def rxTupObj : Obj := { cls := .type "tuple", data := .seq #[.int 14 0, .int 4 0, .int 0 0, .int 0 0, .int 4294967295 0, .int 24 0, .int 9 0, .int 0 0, .int 4294967295 0, .int 13 0, .int 4 0, .int 8 0, .int 12 0, .int 0 0, .int 1 0, .int 23 0, .int 15 0, .int 0 0, .int 1 0, .int 16 0, .int 35 0, .int 24 0, .int 9 0, .int 0 0, .int 4294967295 0, .int 13 0, .int 4 0, .int 8 0, .int 12 0, .int 0 0, .int 1 0, .int 18 0, .int 6 0, .int 5 0, .int 1 0] }

section
variable {prog : Program} {w : World} {A : Around} {E : Value → Shared → Prop} {s : Shared} {Q : Value → Shared → Prop}

theorem entry_match : entryFor table "re.Pattern.match" = some Builtin.«re.Pattern.match» := entryFor_of_fast (by kernel_rfl)

theorem bound_ok {v0 : Value} {t1 : Tok} {x : Str} {t : Tok} {Q : Unit → Shared → Prop} (h36 : s.heap.get? 36 = some (rxPatObj v0 t1)) (h : Q () s) :
    wpAny (model prog w) A (checkBoundCall "re.Pattern.match" ⟨[.ref 36, .str x t], []⟩) Q E s := by
  obtain ⟨hh, g, dr, tk, os⟩ := s
  dsimp only at h36
  unfold rxPatObj at h36
  unfold checkBoundCall
  repeat lk
  exact h

theorem code_eq : ((#[.int 14 0, .int 4 0, .int 0 0, .int 0 0, .int 4294967295 0, .int 24 0, .int 9 0, .int 0 0, .int 4294967295 0, .int 13 0, .int 4 0, .int 8 0, .int 12 0, .int 0 0, .int 1 0, .int 23 0, .int 15 0, .int 0 0, .int 1 0, .int 16 0, .int 35 0, .int 24 0, .int 9 0, .int 0 0, .int 4294967295 0, .int 13 0, .int 4 0, .int 8 0, .int 12 0, .int 0 0, .int 1 0, .int 18 0, .int 6 0, .int 5 0, .int 1 0] : Array Value).map Re.reRawOf).map (fun x => x.toNat) = rxCode := by decide +kernel
theorem target_ok {v0 : Value} {t1 : Tok} {x : Str} {t : Tok} {Q : Re.ReTarget → Shared → Prop} (h36 : s.heap.get? 36 = some (rxPatObj v0 t1)) (h35 : s.heap.get? 35 = some rxTupObj) (hx : x.cps.size < 4294967295)
    (h : Q { pattern := .ref 36, string := .str x t, code := rxCode, text := x.cps, kind := 0, groups := 0, pos := 0, lim := x.cps.size } s) :
    wpAny (model prog w) A (Re.reTarget "re.Pattern.match" "match" ⟨[.ref 36, .str x t], []⟩) Q E s := by
  obtain ⟨hh, g, dr, tk, os⟩ := s
  dsimp only at h36 h35
  unfold rxPatObj at h36
  unfold rxTupObj at h35
  have hl : Min.min ((2 : Int) ^ 63 - 1).toNat x.cps.size = x.cps.size := by omega
  unfold Re.reTarget
  repeat lk
  rw [hl]
  simp only [Option.getD_some]
  rw [code_eq]
  exact h

theorem match_call {v0 : Value} {t1 : Tok} {x : Str} {t : Tok}
    (h37 : s.heap.get? 37 = some rxMethObj) (h36 : s.heap.get? 36 = some (rxPatObj v0 t1)) (h35 : s.heap.get? 35 = some rxTupObj)
    (hx : x.cps.size < 4294967295) (hno : rxJunk x.cps = false → Q .none s)
    (hyes : rxJunk x.cps = true → ∀ oT oM, oT.isFreed = false → oM.isFreed = false → Q (.ref (s.heap.objs.size + 1)) { s with heap := (s.heap.push oT).push oM }) :
    wpAny (model prog w) A (call (.ref 37) [.str x t]) Q E s := by
  obtain ⟨hh, g, dr, tk, os⟩ := s
  dsimp only at h37 h36 h35
  refine wpAny_call ?_
  refine codeAny_of_tree ?_
  show wpAny _ _ (callAny (.ref 37) _) _ _ _
  refine nd_load h37 ?_
  show wpAny _ _ (do checkBoundCall "re.Pattern.match" ⟨[.ref 36, .str x t], []⟩; again (.builtin "re.Pattern.match" ⟨[.ref 36, .str x t], []⟩)) _ _ _
  refine wpAny_bind (bound_ok h36 ?_)
  refine wpAny_pure ⟨Code.quiet_builtin _ (by decide +kernel), codeAny_builtin entry_match ?_⟩
  unfold Builtin.«re.Pattern.match»
  refine wpAny_bind (target_ok h36 h35 hx ?_)
  obtain ⟨pc, pos, handed, hg⟩ := rx_whole x.cps hx
  obtain ⟨n, hn, seen', hr⟩ := hg (({} : Sre.Seen).add 14)
  have hm : Sre.forMatch rxCode x.cps 0 0 x.cps.size false false = rxM x.cps 5 0 0 #[] none [] 0 none (({} : Sre.Seen).add 14) := rfl
  unfold Re.reAnswer
  dsimp only
  rw [hm]
  refine wpAny_bind (runToEnd_ (n := n) (b := rxJunk x.cps) (by omega) (by rw [hr]; rfl) ?_)
  cases hj : rxJunk x.cps with
  | false => exact wpAny_pure (hno hj)
  | true =>
    simp only [if_true]
    unfold Re.reNewMatch
    repeat lk
    rw [Heap.size_push]
    exact hyes hj _ _ rfl rfl
end
end Mine
end

section
open PySem PySem.W PyProof.Rows
namespace Mine

/-- a sign's text -/
abbrev chS (c : Nat) : Str := ⟨#[c]⟩
/-- a test on values that are one sign each -/
def onSign (p : Nat → Bool) : Value → Bool
  | .str ⟨#[c]⟩ _ => p c
  | _ => false
theorem onSign_ch (p : Nat → Bool) (c : Nat) (t : Tok) : onSign p (.str (chS c) t) = p c := rfl

/-- values that are the signs of a list of codes -/
theorem signs_filter (p : Nat → Bool) : ∀ (cs : List Nat) (vs : List Value) (ys : List Value), vs.length = cs.length → (∀ (j : Nat) (v : Value), vs[j]? = some v → ∃ c u, cs[j]? = some c ∧ v = Value.str (chS c) u) → Paired (fun a b => b = a) (vs.filter (onSign p)) ys →
    StrsAre ys ((cs.filter p).map chS)
  | [], [], ys, _, _, hp => by cases hp; exact .nil
  | [], _ :: _, _, hl, _, _ => by simp at hl
  | _ :: _, [], _, hl, _, _ => by simp at hl
  | c :: cs, v :: vs, ys, hl, hv, hp => by
    obtain ⟨c', u, hc, rfl⟩ := hv 0 v rfl
    simp only [List.getElem?_cons_zero, Option.some.injEq] at hc
    subst hc
    have ih := signs_filter p cs vs
    have hv' : ∀ (j : Nat) (v : Value), vs[j]? = some v → ∃ c u, cs[j]? = some c ∧ v = Value.str (chS c) u := fun j v hj => by
      have := hv (j + 1) v (by simpa using hj)
      simpa using this
    rw [List.filter_cons, onSign_ch] at hp
    rw [List.filter_cons]
    cases hpc : p c with
    | true =>
      simp only [hpc, if_true] at hp ⊢
      cases hp with
      | cons hb hr => subst hb; exact .cons _ _ (ih _ (by simpa using hl) hv' hr)
    | false =>
      simp only [hpc] at hp ⊢
      exact ih _ (by simpa using hl) hv' hp

section
variable {prog : Program} {w : World} {A : Around} {E : Value → Shared → Prop} {s : Shared} {h₀ : Heap} {L : Addr} {m : Str → Option Value} {news : List (Addr × Obj)}

/-- [x for x in a text if test], stored under a name -/
theorem strComp_assign {name : Str} {sc : Scope} {fa : Addr} {cd : Value} {ct : Expr} {x y z : Str} {px pe pz py : Pos} {scope : Scope} {cl : List (Str × Addr)} {pos spos : Pos} {Q : Flow → Shared → Prop} {text : Str} {tt : Tok} (p : Nat → Bool)
    (hh : A.handled = none) (F : Fr h₀ L s.heap m) (N : News h₀ L s.heap news) (hz : m z = some (.str text tt))
    (htest : ∀ C c u s₃ m₃ (E' : Value → Shared → Prop), c ∈ text.cps.toList → s₃.heap.Ns C m₃ → m₃ x = some (.str (chS c) u) → (∀ b o, s.heap.get? b = some o → s₃.heap.get? b = some o) → s.heap.objs.size ≤ C →
      wpAny (model prog w) A (isTrue ct (compEnvC scope cl C (envOf name sc L fa cd)) (eval ct (compEnvC scope cl C (envOf name sc L fa cd)))) (fun ok s₄ => ok = p c ∧ Keeps s₃ s₄) E' s₃)
    (hQ : ∀ D n ys h' tk, Fr h₀ L h' (fun q => if q = y then some (.ref D) else m q) → News h₀ L h' ((D, { cls := .type "list", data := .seq ys.toArray n }) :: news) → (∀ q ∈ news, q.1 ≠ D) → StrsAre ys ((text.cps.toList.filter p).map chS) → Q .next { s with heap := h', toks := tk })
    (hsw : swapsWith (.ListComp (.Name x pe) [⟨.Name x px, .Name z pz, [ct], 0⟩] scope pos) (some (.Name y py)) spos.line (envOf name sc L fa cd) = pure true)
    (hclos : closureFor scope (envOf name sc L fa cd) = pure cl) (hcell : ∀ z ∈ scope.names, z.2 ≠ .cell) (hkind : scope.kind = .function)
    (hnames : ∀ z ∈ scope.names, z.2 = .local → scope.names.lookup z.1 = some .local) (hx : scope.names.lookup x = some .local)
    (hy : (envOf name sc L fa cd).kindOf y = some .local) (hk : sc.kind = .function) (hzl : (envOf name sc L fa cd).kindOf z = some .local)
    (hdz : (z == ("__debug__" : Str)) = false) (hdx : (x == ("__debug__" : Str)) = false)
    (hs : ∀ v, foldedSetIterable (.Name z pz) (envOf name sc L fa cd) v = pure v)
    (hsz : text.cps.size ≤ sizeLine) :
    wpAny (model prog w) A (exec (.Assign [.Name y py] (.ListComp (.Name x pe) [⟨.Name x px, .Name z pz, [ct], 0⟩] scope pos) spos) (envOf name sc L fa cd)) Q E s := by
  refine wpAny_Assign_ListComp_free (onSign p) (fun a b => b = a) hsw hclos hcell hkind hnames hx hy (by show (sc.kind == .class || (sc.kind == .module && L != mainGlobals)) = false; rw [hk]; rfl) ?_ hs
  refine ld F hz ?_ hk hzl hdz
  refine wpAny_pyIter_str fun o St hW hst => ?_
  have up : ∀ b o', s.heap.get? b = some o' → (s.heap.push o).get? b = some o' := fun b o' e => Heap.get?_push_of_some _ e
  have hIL : L < s.heap.objs.size := F.ns.lt
  refine ⟨s.heap.objs.size, [s.heap.objs.size], [s.heap.objs.size], text.cps.size, SignAt text, St, m, rfl, hW A hh, hsz, hst, ?_, ?_, F.ns.at' (fun o' e => up _ _ e), ?_, ?_⟩
  · intro b hb
    rw [List.mem_singleton.mp hb]
    show s.heap.objs.size < (s.heap.push o).objs.size
    rw [Heap.size_push]; exact Nat.lt_succ_self _
  · intro hm
    exact absurd hIL ((List.mem_singleton.mp hm) ▸ Nat.lt_irrefl _)
  · have keepOld : ∀ (s₃ : Shared), (∀ b o', b ∉ [s.heap.objs.size] → (s.heap.push o).get? b = some o' → s₃.heap.get? b = some o') → ∀ b o', s.heap.get? b = some o' → s₃.heap.get? b = some o' :=
      fun s₃ hk3 b o' e => hk3 b o' (by simpa using Nat.ne_of_lt (Heap.lt_size e)) (up b o' e)
    refine ⟨?_, ?_⟩
    · rintro C i v s₃ m₃ E' hC ⟨c, u, hc, rfl⟩ hn hm hk3 _
      refine wpAny_tests_one ?_
      have hmem : c ∈ text.cps.toList := by
        rw [← Array.getElem?_toList] at hc
        exact List.mem_of_getElem? hc
      have hC' : s.heap.objs.size ≤ C := by
        have : (s.heap.push o).objs.size ≤ C := hC
        rw [Heap.size_push] at this; exact Nat.le_of_succ_le this
      refine wpAny_mono (htest C c u s₃ m₃ E' hmem hn hm (keepOld s₃ hk3) hC') (fun ok s₄ h4 => ?_) fun _ _ e => e
      exact ⟨h4.1, h4.2⟩
    · rintro C i v s₃ m₃ E' hC _ _ hn hm _ _
      refine wpAny_Name (wpAny_loadName_local (by show (relabel scope _).kind = .function; simpa [relabel] using hkind) (lookup_relabel_local hx) hn hm ?_) hdx
      exact ⟨rfl, s₃.heap, s₃.toks, rfl, fun _ _ e => e⟩
  · intro D h' tk ys vs hD hl hpl hlen hP hF hns hkeep
    obtain ⟨n, hpl⟩ := hpl
    have keepOld : ∀ b o', s.heap.get? b = some o' → b ≠ L → h'.get? b = some o' := fun b o' e hb => hkeep b o' hb (by simpa using Nat.ne_of_lt (Heap.lt_size e)) (up b o' e)
    have hDs : s.heap.get? D = none := by
      cases e : s.heap.get? D with
      | none => rfl
      | some o' => have := up D o' e; rw [hD] at this; cases this
    have hL₀ : h₀.get? L = none := Heap.get?_none_of_le F.above
    have hD₀ : h₀.get? D = none := by
      cases e : h₀.get? D with
      | none => rfl
      | some o' => have := F.keep D o' e; rw [hDs] at this; cases this
    have hDL : D ≠ L := by
      rintro rfl
      obtain ⟨oL, _, _, e, _⟩ := F.ns
      rw [hDs] at e; cases e
    refine hQ D n ys.toList h' tk ⟨hns, fun b o' e => keepOld b o' (F.keep b o' e) (fun q => by rw [q, hL₀] at e; cases e), F.above⟩ (fun q hq => ?_) (fun q hq e => by have := (N q hq).1; rw [e, hDs] at this; cases this) ?_
    · rcases List.mem_cons.mp hq with rfl | hq
      · refine ⟨?_, hDL, hD₀⟩
        rw [hpl]
      · exact ⟨keepOld _ _ (N q hq).1 (N q hq).2.1, (N q hq).2⟩
    · refine signs_filter p text.cps.toList vs ys.toList (by simpa using hlen) (fun j v hj => ?_) hF
      obtain ⟨c, u, hc, e⟩ := hP j v hj
      exact ⟨c, u, by rw [Array.getElem?_toList]; exact hc, e⟩

/-- the test of a comprehension: the sign is not in a written text -/
theorem test_notin {env : Env} {C : Addr} {x W : Str} {p1 p2 p3 : Pos} {k : Nat} {whole : Sem Value} {c : Nat} {u : Tok} {s₃ : Shared} {m₃ : Str → Option Value} {E' : Value → Shared → Prop} (hn : s₃.heap.Ns C m₃) (hm : m₃ x = some (.str (chS c) u))
    (hL : env.locals = C) (hk : env.scope.kind = .function) (hl : env.kindOf x = some .local) (hd : (x == ("__debug__" : Str)) = false) :
    wpAny (model prog w) A (isTrue (.Compare (.Name x p1) [.NotIn] [.Constant (.str W) k p2] p3) env whole) (fun ok s₄ => ok = (!Txt.contains W (chS c)) ∧ Keeps s₃ s₄) E' s₃ := by
  subst hL
  refine wpAny_isTrue_Compare1 ?_
  refine wpAny_Name (wpAny_loadName_local hk hl hn hm ?_) hd
  refine wpAny_Constant_str ?_
  refine SB.notContains ?_
  refine wpAny_pure ⟨rfl, _, _, rfl, fun _ _ e => e⟩
end
end Mine
end

section
open PySem
namespace Mine

theorem whites_list (t : Array Nat) : ∀ (n p : Nat), n = t.size - p → whites t n p = ((t.toList.drop p).takeWhile Unicode.isSpace).length
  | 0, p, h => by
    have : t.toList.drop p = [] := List.drop_eq_nil_of_le (by simp; omega)
    rw [this]; rfl
  | n + 1, p, h => by
    have hp : p < t.toList.length := by simp; omega
    have e : t.getD p 0 = t.toList[p] := by simp [Array.getD, show p < t.size by omega]
    rw [List.drop_eq_getElem_cons hp]
    unfold whites
    rw [e]
    by_cases hs : Unicode.isSpace t.toList[p] = true
    · rw [if_pos hs, whites_list t n (p + 1) (by omega), List.takeWhile_cons_of_pos hs, List.length_cons]
    · rw [if_neg hs, List.takeWhile_cons_of_neg hs]; rfl

/-- junk, said on the signs: beside white ones nothing or one # -/
def junkL (l : List Nat) : Bool := decide (l.filter (fun c => !Unicode.isSpace c) = []) || decide (l.filter (fun c => !Unicode.isSpace c) = [35])

theorem takeWhile_full {p : Nat → Bool} : ∀ l : List Nat, (l.takeWhile p).length = l.length ↔ l.filter (fun c => !p c) = []
  | [] => by simp
  | c :: r => by
    by_cases h : p c = true
    · rw [List.takeWhile_cons_of_pos h, List.filter_cons_of_neg (by simp [h])]
      simp [takeWhile_full r]
    · rw [List.takeWhile_cons_of_neg h, List.filter_cons_of_pos (by simpa using h)]
      simp

theorem take_split {p : Nat → Bool} : ∀ l : List Nat, (l.takeWhile p).length < l.length → ∃ c r, l = l.takeWhile p ++ c :: r ∧ p c = false
  | [], h => by simp at h
  | c :: r, h => by
    by_cases hc : p c = true
    · rw [List.takeWhile_cons_of_pos hc] at h ⊢
      obtain ⟨c', r', e, hc'⟩ := take_split r (by simpa using h)
      exact ⟨c', r', by rw [List.cons_append, ← e], hc'⟩
    · exact ⟨c, r, by rw [List.takeWhile_cons_of_neg hc]; rfl, by simpa using hc⟩

theorem rxJunk_eq (t : Array Nat) : rxJunk t = junkL t.toList := by
  have hw : whites t t.size 0 = (t.toList.takeWhile Unicode.isSpace).length := by rw [whites_list t t.size 0 (by omega), List.drop_zero]
  unfold rxJunk junkL
  dsimp only
  rw [hw]
  have hlen : t.size = t.toList.length := by simp
  by_cases h1 : (t.toList.takeWhile Unicode.isSpace).length = t.toList.length
  · rw [hlen, h1, (takeWhile_full t.toList).mp h1]; simp
  · have hle : (t.toList.takeWhile Unicode.isSpace).length ≤ t.toList.length := (List.takeWhile_sublist _).length_le
    obtain ⟨c, r, e, hc⟩ := take_split (p := Unicode.isSpace) t.toList (by omega)
    have hfw : (t.toList.takeWhile Unicode.isSpace).filter (fun c => !Unicode.isSpace c) = [] := by
      rw [List.filter_eq_nil_iff]
      intro a ha
      have := List.all_takeWhile (p := Unicode.isSpace) (l := t.toList)
      simp only [List.all_eq_true] at this
      simp [this a ha]
    have hf : t.toList.filter (fun c => !Unicode.isSpace c) = c :: r.filter (fun c => !Unicode.isSpace c) := by
      rw [show t.toList.filter (fun c => !Unicode.isSpace c) = (t.toList.takeWhile Unicode.isSpace ++ c :: r).filter (fun c => !Unicode.isSpace c) from by rw [← e], List.filter_append, hfw, List.nil_append, List.filter_cons_of_pos (by simp [hc])]
    have hg : t.getD (t.toList.takeWhile Unicode.isSpace).length 0 = c := by
      have h2 : t.getD (t.toList.takeWhile Unicode.isSpace).length 0 = t.toList.getD (t.toList.takeWhile Unicode.isSpace).length 0 := by simp [Array.getD_eq_getD_getElem?, List.getD_eq_getElem?_getD]
      rw [h2]
      generalize ha : t.toList.takeWhile Unicode.isSpace = a at e
      rw [e]
      simp
    have hd : t.toList.drop ((t.toList.takeWhile Unicode.isSpace).length + 1) = r := by
      generalize ha : t.toList.takeWhile Unicode.isSpace = a at e
      rw [e]
      simp [List.drop_append]
    have hl : t.toList.length = (t.toList.takeWhile Unicode.isSpace).length + 1 + r.length := by
      have := congrArg List.length e
      simp only [List.length_append, List.length_cons] at this
      omega
    rw [hg, whites_list t _ _ rfl, hd, hf]
    rw [show ((t.toList.takeWhile Unicode.isSpace).length == t.size) = false from beq_false_of_ne (by omega)]
    simp only [reduceCtorEq, decide_false, Bool.false_or, List.cons.injEq]
    have h3 : ((t.toList.takeWhile Unicode.isSpace).length + 1 + (r.takeWhile Unicode.isSpace).length == t.size) = decide (r.filter (fun c => !Unicode.isSpace c) = []) := by
      rw [Bool.eq_iff_iff]
      simp only [beq_iff_eq, decide_eq_true_eq]
      rw [← takeWhile_full r]
      omega
    rw [h3]
    by_cases hc5 : c = 35 <;> simp [hc5]

/-- the six white signs of law 02 -/
def ws6 : Str := Str.ofString " \t\n\x0d\x0b\x0c"
theorem ws6_space (c : Nat) (h : (9 ≤ c ∧ c ≤ 13) ∨ (32 ≤ c ∧ c ≤ 126)) : Txt.contains ws6 (chS c) = Unicode.isSpace c := by
  have : ∀ c < 127, ((9 ≤ c ∧ c ≤ 13) ∨ (32 ≤ c ∧ c ≤ 126)) → Txt.contains ws6 (chS c) = Unicode.isSpace c := by decide +kernel
  exact this c (by omega) h
end Mine
end

section
set_option maxRecDepth 100000
open PySem PySem.W PySem.Calls PyProof.Rows
namespace Mine
section
variable {prog : Program} {w : World} {A : Around} {E : Value → Shared → Prop} {s : Shared} {Q : Value → Shared → Prop} {h₀ : Heap} {L : Addr} {m : Str → Option Value} {news : List (Addr × Obj)}

theorem keeper_rx {M : Model} (h : Heap) (e : h.get? 37 = some rxMethObj) : ∃ k, (k = Keeper.frame ∨ k = Keeper.machine ∨ k = Keeper.boundFrame) ∧ Looks M h (keeperOf (.ref 37)) k := by
  refine ⟨.machine, .inr (.inl rfl), (Looks.ld (part := none) e).andThen ?_⟩
  exact Looks.of_pure rfl

/-- what stands of the compiled pattern at the top -/
structure RxAt (h : Heap) : Prop where
  meth : h.get? 37 = some rxMethObj
  pat : ∃ v0 t1, h.get? 36 = some (rxPatObj v0 t1)
  tup : h.get? 35 = some rxTupObj
theorem RxAt.keeps {h h' : Heap} (R : RxAt h) (k : ∀ b o, h.get? b = some o → h'.get? b = some o) : RxAt h' :=
  ⟨k _ _ R.meth, let ⟨v, t, e⟩ := R.pat; ⟨v, t, k _ _ e⟩, k _ _ R.tup⟩

/-- pat(line), pat the pattern's own match -/
theorem callWith_rx {name : Str} {sc : Scope} {fa : Addr} {cd : Value} {pos p : Pos} {y x : Str} {t : Tok} (R : RxAt h₀) (F : Fr h₀ L s.heap m) (N : News h₀ L s.heap news) (hy : m y = some (.str x t)) (hx : x.length < 4294967295)
    (hno : junkL x.cps.toList = false → Q .none s)
    (hyes : junkL x.cps.toList = true → ∀ a h', Fr h₀ L h' m → News h₀ L h' news → Q (.ref a) { s with heap := h' })
    (hk : sc.kind = .function) (hl : (envOf name sc L fa cd).kindOf y = some .local) (hd : (y == ("__debug__" : Str)) = false) :
    wpAny (model prog w) A (callWith pos (.ref 37) [] (backTo pos (starEach [.Name y p] (envOf name sc L fa cd))) []) Q E s := by
  have he : starEach [.Name y p] (envOf name sc L fa cd) = (false, eval (.Name y p) (envOf name sc L fa cd)) :: starEach [] (envOf name sc L fa cd) := rfl
  have R' := R.keeps F.keep
  rw [he]
  refine callWith_of (P := fun h => h.get? 37 = some rxMethObj) rfl keeper_rx (evalArgs_plain ?_)
  refine spliced_cons (ld F hy (spliced_nil ⟨R'.meth, ?_⟩) hk hl hd)
  obtain ⟨v0, t1, h36⟩ := R'.pat
  refine match_call R'.meth h36 R'.tup hx ?_ ?_
  · intro hj
    exact hno (by rw [← rxJunk_eq]; exact hj)
  · intro hj oT oM fT fM
    refine hyes (by rw [← rxJunk_eq]; exact hj) _ _ ((F.push _).push _) fun q hq => ?_
    exact ⟨Heap.get?_push_of_some _ (Heap.get?_push_of_some _ (N q hq).1), (N q hq).2⟩
end
end Mine
end

section
open PySem PySem.W PyProof.Rows PySem.Spec
namespace Mine
theorem ks_canLayAll0 : ∀ ns : List Str, (∀ x ∈ ns, PyData.strOk x = true) → PyData.canLayAll0 (ns.map PyData.str) = true
  | [], _ => rfl
  | a :: r, h => by simp [PyData.canLayAll0, PyData.canLay0, ks_canLayAll0 r (fun x hx => h x (List.mem_cons_of_mem _ hx)), h a List.mem_cons_self]
theorem ks_depthAll : ∀ ns : List Str, PyData.depthAll (ns.map PyData.str) = 0
  | [] => rfl
  | _ :: r => by simp [PyData.depthAll, PyData.depth, ks_depthAll r]
theorem ks_shaped (ns : List Str) (h : ∀ x ∈ ns, PyData.strOk x = true) : SeqAt.shaped (.list (ns.map PyData.str)) = true := by
  simp [SeqAt.shaped, PyData.canLay0, PyData.depth, ks_canLayAll0 ns h, ks_depthAll]
theorem ks_sameAll : ∀ ns ms : List Str, PySem.Spec.sameAll (ns.map PyData.str) (ms.map PyData.str) = decide (ns = ms)
  | [], [] => by simp [PySem.Spec.sameAll]
  | [], _ :: _ => by simp [PySem.Spec.sameAll]
  | _ :: _, [] => by simp [PySem.Spec.sameAll]
  | a :: r, b :: t => by
    simp only [List.map_cons, PySem.Spec.sameAll, PySem.Spec.same, ks_sameAll r t]
    by_cases h : a = b <;> by_cases h' : r = t <;> simp [h, h']
theorem ks_same (ns ms : List Str) : PySem.Spec.same (.list (ns.map PyData.str)) (.list (ms.map PyData.str)) = decide (ns = ms) := by
  simp only [PySem.Spec.same]; exact ks_sameAll ns ms
section
variable {prog : Program} {w : World} {A : Around} {E : Value → Shared → Prop} {s : Shared} {a b : Addr} {xs ys : List Value} {ns ms : List Str} {Q : Value → Shared → Prop}
theorem eq_strs (ha : s.heap.IsList a xs.toArray) (hb : s.heap.IsList b ys.toArray) (hi : StrsAre xs ns) (hj : StrsAre ys ms) (h1 : ∀ x ∈ ns, PyData.strOk x = true) (h2 : ∀ x ∈ ms, PyData.strOk x = true) (hu : A.units + 64 < cLine) (h : Q (.bool (decide (ns = ms))) s) :
    wpAny (model prog w) A (compareOp .Eq (.ref a) (.ref b)) Q E s :=
  eq_dataH_same (reads_newData ha hi.carried) (reads_newData hb hj.carried) (ks_shaped _ h1) (ks_shaped _ h2) hu (SeqAt.noMix_of_shape (.list .str) rfl _ _ (list_map_has fun _ => rfl) (list_map_has fun _ => rfl)) (by rw [ks_same]; exact h)
theorem ne_strs (ha : s.heap.IsList a xs.toArray) (hb : s.heap.IsList b ys.toArray) (hi : StrsAre xs ns) (hj : StrsAre ys ms) (h1 : ∀ x ∈ ns, PyData.strOk x = true) (h2 : ∀ x ∈ ms, PyData.strOk x = true) (hu : A.units + 64 < cLine) (h : Q (.bool (!decide (ns = ms))) s) :
    wpAny (model prog w) A (compareOp .NotEq (.ref a) (.ref b)) Q E s :=
  ne_dataH_same (reads_newData ha hi.carried) (reads_newData hb hj.carried) (ks_shaped _ h1) (ks_shaped _ h2) hu (SeqAt.noMix_of_shape (.list .str) rfl _ _ (list_map_has fun _ => rfl) (list_map_has fun _ => rfl)) (by rw [ks_same]; exact h)
end
end Mine
end

section
open PySem PySem.W PyProof.Rows
namespace Mine

section
variable {prog : Program} {w : World} {A : Around} {E : Value → Shared → Prop} {s : Shared} {env : Env} {h₀ : Heap} {x : Str} {body : List Stmt} {Q : Flow → Shared → Prop}

/-- a loop over anything that walks, by a state of one's own -/
theorem loop_s {σ : Type} {I : Addr} {fp wr : List Addr} {n : Nat} {Pv : Nat → Value → Prop} {St : Nat → Heap → Prop} {m₀ : Str → Option Value}
    (Led : σ → List (Addr × Obj)) (ps : σ → List (Str × Value)) (Facts : σ → Prop) (stored : List Str) (P : Nat → σ → Prop) (c₀ : σ)
    (W : Walks prog w A I fp wr n Pv St) (hLf : env.locals ∉ fp) (hwr : ∀ b ∈ wr, h₀.get? b = none) (hfp : ∀ q ∈ Led c₀, q.1 ∉ fp) (hst : St 0 s.heap)
    (F : Fr h₀ env.locals s.heap m₀) (N : News h₀ env.locals s.heap (Led c₀)) (hf : Facts c₀) (hk : ∀ p ∈ ps c₀, m₀ p.1 = some p.2) (hp : P 0 c₀)
    (turn : ∀ (c : σ) (i : Nat) (v : Value) (u : Str → Option Value) h tk own, i < n → Pv i v → OwnOff own ((Led c₀).map (·.1)) → Facts c → P i c →
      Fr h₀ env.locals h (fun y => if y = x then some v else kstB (fun z => if stored.contains z then u z else m₀ z) (ps c) y) → News h₀ env.locals h (Led c ++ own) →
      wpAny (model prog w) A (execs body env) (InvPostN h₀ env.locals (KstS Led ps Facts x stored m₀ (fun pre c => P pre.length c) (rangeKs 0 (i + 1))) own ((Led c₀).map (·.1)) { s with heap := h, toks := tk } Q) E { s with heap := h, toks := tk })
    (done : ∀ (c : σ) (u : Str → Option Value) h tk, Facts c → P n c → Fr h₀ env.locals h (fun y => if y = x then u y else kstB (fun z => if stored.contains z then u z else m₀ z) (ps c) y) → News h₀ env.locals h (Led c) → Q .next { s with heap := h, toks := tk }) :
    LoopAtV prog w A h₀ env x body Q E (.ref I) s := by
  refine loop_invN (fun i m nx => KstS Led ps Facts x stored m₀ (fun pre c => P pre.length c) (rangeKs 0 i) m nx) W hLf hwr (fun p hp hI => hfp p hp (W.sub _ hI)) hfp hst F N ⟨c₀, rfl, hf, hk, fun _ _ _ _ => rfl, by simpa [rangeKs] using hp⟩ ?_ ?_
  · rintro i v m₁ nx h tk own hi hv _ hoff ⟨c, rfl, hf', h1, h2, hp'⟩ F₁ N₁
    exact turn c i v m₁ h tk own hi hv hoff hf' (by simpa [rangeKs_length] using hp') (kst_fr h1 h2 F₁) N₁
  · rintro m₁ nx h tk ⟨c, rfl, hf', h1, h2, hp'⟩ F₁ N₁
    exact done c m₁ h tk hf' (by simpa [rangeKs_length] using hp') (kst_frOut h1 h2 F₁) N₁

theorem tup_loop {σ : Type} {l : Addr} {its : Array Value} {m₀ : Str → Option Value}
    (Led : σ → List (Addr × Obj)) (ps : σ → List (Str × Value)) (Facts : σ → Prop) (stored : List Str) (P : Nat → σ → Prop) (c₀ : σ)
    (hh : A.handled = none) (hl : s.heap.IsTuple l its) (hlL : l ≠ env.locals) (hfp : ∀ q ∈ Led c₀, q.1 ≠ l)
    (F : Fr h₀ env.locals s.heap m₀) (N : News h₀ env.locals s.heap (Led c₀)) (hf : Facts c₀) (hk : ∀ p ∈ ps c₀, m₀ p.1 = some p.2) (hp : P 0 c₀)
    (turn : ∀ (c : σ) (i : Nat) (v : Value) (u : Str → Option Value) h tk own, i < its.size → its[i]? = some v → OwnOff own ((Led c₀).map (·.1)) → Facts c → P i c →
      Fr h₀ env.locals h (fun y => if y = x then some v else kstB (fun z => if stored.contains z then u z else m₀ z) (ps c) y) → News h₀ env.locals h (Led c ++ own) →
      wpAny (model prog w) A (execs body env) (InvPostN h₀ env.locals (KstS Led ps Facts x stored m₀ (fun pre c => P pre.length c) (rangeKs 0 (i + 1))) own ((Led c₀).map (·.1)) { s with heap := h, toks := tk } Q) E { s with heap := h, toks := tk })
    (done : ∀ (c : σ) (u : Str → Option Value) h tk, Facts c → P its.size c → Fr h₀ env.locals h (fun y => if y = x then u y else kstB (fun z => if stored.contains z then u z else m₀ z) (ps c) y) → News h₀ env.locals h (Led c) → Q .next { s with heap := h, toks := tk }) :
    wpAny (model prog w) A (pyIter (.ref l)) (fun it s₂ => LoopAtV prog w A h₀ env x body Q E it s₂) E s := by
  have hlt : l < s.heap.objs.size := by obtain ⟨o, ho, _⟩ := hl; exact Heap.lt_size ho
  have hne : l ≠ s.heap.objs.size := Nat.ne_of_lt hlt
  refine wpAny_pyIter_tuple hl ?_
  refine loop_s Led ps Facts stored P c₀ (Walks.tuple hh s.heap.objs.size l hne its) ?_ ?_ ?_ ?_ (F.push _) (fun p hp => ⟨Heap.get?_push_of_some _ (N p hp).1, (N p hp).2⟩) hf hk hp turn done
  · intro hm
    rcases List.mem_cons.mp hm with e | hm
    · exact absurd F.ns.lt (e ▸ Nat.lt_irrefl _)
    · exact hlL (List.mem_singleton.mp hm).symm
  · intro b hb
    rw [List.mem_singleton.mp hb]
    exact next_is_new F
  · intro p hp hI
    rcases List.mem_cons.mp hI with e | hI
    · exact absurd (Heap.lt_size (N p hp).1) (e ▸ Nat.lt_irrefl _)
    · exact hfp p hp (List.mem_singleton.mp hI)
  · refine ⟨⟨_, Heap.get?_push_size _ rfl, rfl, rfl⟩, ?_⟩
    obtain ⟨o, ho, r⟩ := hl
    exact ⟨o, Heap.get?_push_of_some _ ho, r⟩
end
end Mine
end

section
open PySem PySem.W PyProof.Rows
namespace Mine
def Stop (P : Prop) : Prop := P
theorem stop_in {P : Prop} (h : Stop P) : P := h
theorem stop_out {P : Prop} (h : P) : Stop P := h

def sgn (x : Int) : Str := if x.fmod 8 < 7 then Txt.item (Str.ofString " \t\n\x0d\x0b\x0c#") (x.fmod 8) else { cps := #[(33 + (x.fdiv 8).fmod 94).toNat] }
theorem sgn_len (x : Int) : (sgn x).length = 1 := by unfold sgn; split <;> rfl
theorem sgn_lo {x : Int} (h : x.fmod 8 < 7) : sgn x = Txt.item (Str.ofString " \t\n\x0d\x0b\x0c#") (x.fmod 8) := if_pos h
theorem sgn_hi {x : Int} (h : ¬ x.fmod 8 < 7) : sgn x = { cps := #[(33 + (x.fdiv 8).fmod 94).toNat] } := if_neg h

/-- a sign of the law: one of six white ones or a seen one -/
def OkSign (c : Nat) : Prop := (9 ≤ c ∧ c ≤ 13) ∨ (32 ≤ c ∧ c ≤ 126)

theorem sgn_ok (x : Int) : ∀ c ∈ (sgn x).cps.toList, OkSign c := by
  by_cases h : x.fmod 8 < 7
  · rw [sgn_lo h]
    have h0 : 0 ≤ x.fmod 8 := Int.fmod_nonneg_of_pos x (by decide)
    generalize x.fmod 8 = k at h h0
    have : k = 0 ∨ k = 1 ∨ k = 2 ∨ k = 3 ∨ k = 4 ∨ k = 5 ∨ k = 6 := by omega
    rcases this with rfl | rfl | rfl | rfl | rfl | rfl | rfl <;> (unfold OkSign; decide +kernel)
  · rw [sgn_hi h]
    intro c hc
    have h0 : 0 ≤ (x.fdiv 8).fmod 94 := Int.fmod_nonneg_of_pos _ (by decide)
    have h1 : (x.fdiv 8).fmod 94 < 94 := Int.fmod_lt_of_pos _ (by decide)
    simp only [List.mem_singleton] at hc
    subst hc
    right; omega

theorem join_cps : ∀ l : List Str, (Txt.join (Str.ofString "") l).cps.toList = (l.map fun x => x.cps.toList).flatten := by
  intro l
  show (Builtin.Str.glued (Str.ofString "") l).cps.toList = _
  rw [StrLaws.glued_eq_join]
  induction l with
  | nil => rfl
  | cons a r ih =>
    cases r with
    | nil => simp [Str.join]
    | cons b r =>
      show (a ++ Str.ofString "" ++ Str.join (Str.ofString "") (b :: r)).cps.toList = _
      rw [KT.app_list, KT.app_list, ih]
      have : (Str.ofString "").cps.toList = [] := by decide
      rw [this]; simp

structure LineOk (line : Str) : Prop where
  len : line.length ≤ 63
  ok : ∀ c ∈ line.cps.toList, OkSign c

theorem line_ok (ns : List Int) (h : ns.length ≤ 63) (hl : (Txt.join (Str.ofString "") (ns.map sgn)).length = ns.length) : LineOk (Txt.join (Str.ofString "") (ns.map sgn)) where
  len := by omega
  ok := by
    intro c hc
    rw [join_cps, List.mem_flatten] at hc
    obtain ⟨l, hl, hc⟩ := hc
    simp only [List.map_map, List.mem_map] at hl
    obtain ⟨x, _, rfl⟩ := hl
    exact sgn_ok x c hc
theorem slice_ok {line : Str} (h : LineOk line) (l u : Option Int) : LineOk (Txt.slice line l u) where
  len := Nat.le_trans (Txt.slice_le line l u) h.len
  ok := by
    unfold Txt.slice
    split
    · exact h.ok
    · intro c hc
      simp only [List.mem_filterMap] at hc
      obtain ⟨i, _, hi⟩ := hc
      refine h.ok c ?_
      rw [← Array.getElem?_toList] at hi
      exact List.mem_of_getElem? hi
end Mine
end

section
open PySem PySem.W PyProof.Rows
namespace Mine
abbrev restOf (x : Str) : List Str := (x.cps.toList.filter (fun c => !Txt.contains ws6 (chS c))).map chS

theorem rest_filter {x : Str} (h : LineOk x) : x.cps.toList.filter (fun c => !Txt.contains ws6 (chS c)) = x.cps.toList.filter (fun c => !Unicode.isSpace c) :=
  List.filter_congr fun c hc => by rw [ws6_space c (h.ok c hc)]

theorem chS_inj {l : List Nat} {l' : List Nat} (h : l.map chS = l'.map chS) : l = l' := by
  induction l generalizing l' with
  | nil => cases l' with | nil => rfl | cons _ _ => simp at h
  | cons a r ih => cases l' with
    | nil => simp at h
    | cons b t =>
      simp only [List.map_cons, List.cons.injEq, Str.mk.injEq, Array.mk.injEq, and_true] at h
      rw [show a = b by simpa using h.1, ih h.2]

theorem hash_eq : [Str.ofString "#"] = [35].map chS := by decide

theorem rest_yes {x : Str} (h : LineOk x) (hj : junkL x.cps.toList = true) : restOf x = [] ∨ (restOf x ≠ [] ∧ restOf x = [Str.ofString "#"]) := by
  unfold junkL at hj
  simp only [Bool.or_eq_true, decide_eq_true_eq] at hj
  unfold restOf
  rw [rest_filter h]
  rcases hj with e | e
  · left; rw [e]; rfl
  · right; rw [e]; exact ⟨by simp, hash_eq.symm⟩
theorem rest_no {x : Str} (h : LineOk x) (hj : junkL x.cps.toList = false) : restOf x ≠ [] ∧ restOf x ≠ [Str.ofString "#"] := by
  unfold junkL at hj
  simp only [Bool.or_eq_false_iff, decide_eq_false_iff_not] at hj
  unfold restOf
  rw [rest_filter h]
  refine ⟨fun e => hj.1 (by simpa using e), fun e => hj.2 ?_⟩
  rw [hash_eq] at e
  exact chS_inj e
theorem rest_ok {x : Str} (h : LineOk x) : ∀ y ∈ restOf x, PyData.strOk y = true := by
  intro y hy
  obtain ⟨c, hc, rfl⟩ := List.mem_map.mp hy
  have := h.ok c (List.mem_filter.mp hc).1
  show (#[c] : Array Nat).all (· < 0x110000) = true
  have hlt : c < 0x110000 := by unfold OkSign at this; omega
  simp [hlt]
theorem codes_ok {line : Str} (h : LineOk line) {pre post : List Int} {n : Nat} (e : KStt.codes line = pre ++ (n : Int) :: post) : OkSign n := by
  have hm : (n : Int) ∈ KStt.codes line := by rw [e]; simp
  unfold KStt.codes at hm
  obtain ⟨c, hc, hcn⟩ := List.mem_map.mp hm
  have : c = n := by omega
  subst this
  exact h.ok c (by simpa using hc)
theorem bt_of {n : Nat} (h : OkSign n) : Txt.contains (Str.ofString " \t") (chS n) = (n == 32 || n == 9) := by
  have : ∀ c < 127, Txt.contains (Str.ofString " \t") (chS c) = (c == 32 || c == 9) := by decide +kernel
  unfold OkSign at h
  exact this n (by omega)
section
variable {prog : Program} {w : World} {A : Around} {E : Value → Shared → Prop} {s : Shared} {a b : Addr} {xs ys : List Value} {ns ms : List Str} {Q : Value → Shared → Prop}
theorem eq_strs_t (e : ns = ms) (ha : s.heap.IsList a xs.toArray) (hb : s.heap.IsList b ys.toArray) (hi : StrsAre xs ns) (hj : StrsAre ys ms) (h1 : ∀ x ∈ ns, PyData.strOk x = true) (h2 : ∀ x ∈ ms, PyData.strOk x = true) (hu : A.units + 64 < cLine) (h : Q (.bool true) s) :
    wpAny (model prog w) A (compareOp .Eq (.ref a) (.ref b)) Q E s := eq_strs ha hb hi hj h1 h2 hu (by rw [decide_eq_true e]; exact h)
theorem eq_strs_f (e : ns ≠ ms) (ha : s.heap.IsList a xs.toArray) (hb : s.heap.IsList b ys.toArray) (hi : StrsAre xs ns) (hj : StrsAre ys ms) (h1 : ∀ x ∈ ns, PyData.strOk x = true) (h2 : ∀ x ∈ ms, PyData.strOk x = true) (hu : A.units + 64 < cLine) (h : Q (.bool false) s) :
    wpAny (model prog w) A (compareOp .Eq (.ref a) (.ref b)) Q E s := eq_strs ha hb hi hj h1 h2 hu (by rw [decide_eq_false e]; exact h)
end
end Mine
end

section
open PySem PySem.W PyProof.Rows
set_option maxRecDepth 100000
set_option maxHeartbeats 8000000
open_top Mine.hd for PySem.Challenge.rw_dm0047_02
end

section
open PySem PySem.W PyProof.Rows Mine
set_option maxRecDepth 100000
set_option maxHeartbeats 8000000
local macro_rules | `(tactic| walk_at "CompSrc") => `(tactic| (k_here; k_dflt (refine LCg.CompSrc.ledger (by rfl) (by k_asm) (by k_asm) (by k_mem) (by kcf_size) ?_; intro g'; (refine' kct_list sgn (by first | assumption | l_ints) (fun k' t' I' oI' C' oC' D' m' ys' h' tk' E' hk' hC' hx' F' N' off' ne' => ?_) ?_); (all_goals (try (simp only [LCg.Off3, and_true] at off'))); (all_goals (try ((show KPfMark → _); intro hMark'))); kcf_last)))
local macro_rules | `(tactic| walk_at "KCtEl") => `(tactic| (first | (refine kct_el (sgn_lo (by omega)) (by with_unfolding_all rfl) (by with_unfolding_all rfl)) | (refine kct_el (sgn_hi (by omega)) (by with_unfolding_all rfl) (by with_unfolding_all rfl))))
local macro_rules | `(tactic| walk_at "call builtin:str.join") => `(tactic| (k_here; (with_reducible show wpAny _ _ (call (Value.builtin "str.join") [Value.str _ _, Value.ref _]) _ _ _); (with_reducible rename CarriedAll _ (List.map _ _) => ktC); (refine KT.join_1 (by first | assumption | is_list | exact News.isList (by k_asm) (by k_mem)) ktC (fun a _ => sgn_len a) (by first | omega | kt_fact) ?_; intro _ _ ktE; (have hLine := line_ok _ (by omega) ktE); clear ktE ktC; revert hLine; generalize Txt.join _ (List.map sgn _) = line; intro hLine; have hLen := LineOk.len hLine)))
local macro_rules | `(tactic| walk_at "exec For Name Call cons nil") => `(tactic| (k_here; refine stop_in ?_))
local macro_rules | `(tactic| walk_at "pyIter ref") => `(tactic| (k_here; (with_reducible show wpAny _ _ (pyIter (Value.ref _)) (fun it s₂ => LoopAtV _ _ _ _ _ _ _ _ _ it s₂) _ _); refine stop_in ?_))
local macro_rules | `(tactic| walk_at "exec For Name Tuple cons nil") => `(tactic| (k_here; (rename Fr _ _ _ _ => lF'); (with_unfolding_all refine' For_invVF lF' ?k1 ?k2 ?_; (case k1 => exact rfl); (case k2 => exact rfl); k_whole)))
structure Mine.Go : Prop where
def Mine.isJ (x : Str) : Bool := junkL x.cps.toList
theorem Mine.rx_of {P : Params} {h : Heap} (X : (hd.heap_39 P).In h) : RxAt h := ⟨X 37 _ rfl, ⟨_, _, X 36 _ rfl⟩, X 35 _ rfl⟩
local macro_rules | `(tactic| walk_at "exec Assign cons ListComp") => `(tactic| (k_here; k_dflt (refine' strComp_assign (fun c => !Txt.contains ws6 (chS c)) (by rfl) ?F ?N ?hz ?test ?_ (by with_unfolding_all rfl) (by with_unfolding_all rfl) (by decide) (by rfl) (by decide) (by rfl) (by rfl) (by rfl) (by rfl) (by decide) (by decide) (by intro _; rfl) ?size; (case F => k_asm); (case N => k_asm); (case hz => rfl); (case test => (intro C9 c9 u9 s9 m9 E9 _ hn9 hm9 _ _; exact test_notin hn9 hm9 rfl rfl rfl (by decide))); (case size => exact Nat.le_trans (by assumption : Str.length _ ≤ 63) (by decide)); k_whole); intro D' n' ys' h' tk' F' N' ne' hS'))
local macro_rules | `(tactic| walk_at "exec If") => `(tactic| (k_here; (fail_if_success (rename Go => hg9)); (with_reducible show wpAny _ _ (exec (Stmt.If (Expr.BoolOp _ _ _) _ _ _) _) _ _ _); refine stop_in ?_))
local macro_rules | `(tactic| walk_at "callWith") => `(tactic| (k_here; (with_reducible show wpAny _ _ (callWith _ (Value.ref 37) [] _ []) _ _ _); k_dflt (refine' callWith_rx ?R ?F ?N ?hy ?len ?no ?yes (by rfl) (by rfl) (by decide); (case R => exact rx_of (by assumption)); (case F => k_asm); (case N => k_asm); (case hy => rfl); (case len => omega); (case' no => (intro hj9)); (case' yes => (intro hj9 a9 h9 F9 N9)))))
local macro_rules | `(tactic| walk_at "compareOp Eq ref ref") => `(tactic| (k_here; (with_reducible show wpAny _ _ (compareOp CmpOp.Eq (Value.ref _) (Value.ref _)) _ _ _); refine stop_in ?_))
local macro_rules | `(tactic| walk_at "compareOp Eq ref") => `(tactic| (k_here; (with_reducible show wpAny _ _ (compareOp CmpOp.Eq (Value.ref _) (Value.ref _)) _ _ _); refine stop_in ?_))
local macro_rules | `(tactic| walk_at "InvEndN") => `(tactic| (refine stop_in ?_))
theorem PySem.Challenge.cw_dm0047_02_holds : PySem.Challenge.rw_dm0047_02.Holds := by
  refine hd ?_
  w_strict (k_go0;  (all_goals try k_fold); k_steps)
  refine stop_out ?_
  rename Fr _ _ _ _ => lF
  rename LineOk _ => hLine
  (with_unfolding_all refine' For_invVF lF ?k1 ?k2 ?_)
  case k1 => exact rfl
  case k2 => exact rfl
  w_strict k_steps
  refine stop_out ?_
  rename Fr _ _ _ _ => lF
  rename News _ _ _ _ => lN
  rename IsRange _ _ _ _ _ _ _ _ => rgX
  (with_unfolding_all refine' kst_range (σ := Unit) (fun _ => []) (fun _ => []) (fun _ => True) [Str.ofString "piece", Str.ofString "rest", Str.ofString "told"] (fun _ _ => True) () (by rfl) rgX (by first | exact small_one (by omega) (by omega) (by omega) (by omega) | exact small_one (by l_bnd) (by l_bnd) (by l_bnd) (by l_bnd)) (rangeSize_nat _ _) lF (fun _ h => nomatch h) trivial (fun _ h => nomatch h) trivial ?turn ?done)
  case done =>
    clear lF lN rgX
    intro c u h tk _ _ F' N'
    (try k_fold)
    w_strict k_steps
    rename Fr _ _ _ _ => lF
    (with_unfolding_all refine' KStt.kst_text (σ := Unit) (fun _ => []) (fun _ => []) (fun _ => True) [Str.ofString "told"] (fun _ _ => True) () (by rfl) lF (fun _ h => nomatch h) trivial (fun _ h => nomatch h) trivial ?turn3 ?done3)
    case done3 =>
      clear lF
      intro c u h tk _ _ F' N'
      (try k_fold)
      w_strict k_steps
    case turn3 =>
      clear lF
      intro c pre post n t u h tk own hcodes hoff _ _ F' N'
      (try k_fold)
      have hn := codes_ok hLine hcodes
      have hbt := bt_of hn
      w_strict k_steps
      refine stop_out ?_
      have hGo := Go.mk
      rename Fr _ _ _ _ => lF
      change Fr _ _ _ (fun y => if y = Str.ofString "told" then some (Value.bool (Txt.contains (Str.ofString " \t") (chS n))) else _) at lF
      rw [hbt] at lF
      by_cases h32 : n = 32
      · subst h32
        rw [show ((32 == 32 || 32 == 9) : Bool) = true from rfl] at lF
        clear hbt hn
        w_strict k_steps
        refine stop_out ?_
        rename Fr _ _ _ _ => lF
        rename News _ _ _ _ => lN
        refine kst_end () lF lN (fun _ h => nomatch h) (fun p hp => hp) rfl trivial (fun _ h => nomatch h) ?_ trivial
        intro z h1 _ h3
        simp only [List.contains_cons, List.contains_nil, Bool.or_false, Bool.or_eq_false_iff, beq_eq_false_iff_ne, ne_eq] at h3
        simp [kstB, h1, h3]
      · by_cases h9 : n = 9
        · subst h9
          rw [show ((9 == 32 || 9 == 9) : Bool) = true from rfl] at lF
          clear hbt hn
          w_strict k_steps
          refine stop_out ?_
          rename Fr _ _ _ _ => lF
          rename News _ _ _ _ => lN
          refine kst_end () lF lN (fun _ h => nomatch h) (fun p hp => hp) rfl trivial (fun _ h => nomatch h) ?_ trivial
          intro z h1 _ h3
          simp only [List.contains_cons, List.contains_nil, Bool.or_false, Bool.or_eq_false_iff, beq_eq_false_iff_ne, ne_eq] at h3
          simp [kstB, h1, h3]
        · rw [show (n == 32 || n == 9) = false by simp [h32, h9]] at lF
          have hs1 : ((⟨#[n]⟩ : Str) == Str.ofString " ") = false := by
            rw [show Str.ofString " " = ⟨#[32]⟩ from by decide +kernel]; simp [h32]
          have hs2 : ((⟨#[n]⟩ : Str) == Str.ofString "\t") = false := by
            rw [show Str.ofString "\t" = ⟨#[9]⟩ from by decide +kernel]; simp [h9]
          clear hbt hn
          w_strict k_steps
          refine stop_out ?_
          rename Fr _ _ _ _ => lF
          rename News _ _ _ _ => lN
          refine kst_end () lF lN (fun _ h => nomatch h) (fun p hp => hp) rfl trivial (fun _ h => nomatch h) ?_ trivial
          intro z h1 _ h3
          simp only [List.contains_cons, List.contains_nil, Bool.or_false, Bool.or_eq_false_iff, beq_eq_false_iff_ne, ne_eq] at h3
          simp [kstB, h1, h3]
  case turn =>
    clear lF lN rgX
    intro c pre k t u h tk own hk hpre hown _ _ F' N'
    (try k_fold)
    w_strict k_steps
    refine stop_out ?_
    rename Fr _ _ _ _ => lF
    rename News _ _ _ _ => lN
    (with_unfolding_all refine' tup_loop (σ := Unit) (fun _ => own) (fun _ => []) (fun _ => True) [Str.ofString "rest", Str.ofString "told"] (fun _ _ => True) () (by rfl) (News.isTup lN List.mem_cons_self) (lN _ List.mem_cons_self).2.1 ?hfp lF (fun p hp => lN p (List.mem_cons_of_mem _ hp)) trivial (fun _ h => nomatch h) trivial ?turn2 ?done2)
    case hfp =>
      rename ∀ p : Addr × Obj, p ∈ [] ++ own → p.1 < _ => hlt
      exact fun q hq => Nat.ne_of_lt (hlt q hq)
    case done2 =>
      clear lF lN
      intro c u h tk _ _ F' N'
      (try k_fold)
      w_strict k_steps
      refine stop_out ?_
      rename Fr _ _ _ _ => lF
      rename News _ _ _ _ => lN
      refine kst_end () lF lN (fun _ h => nomatch h) (fun p hp => hp) rfl trivial (fun _ h => nomatch h) ?_ trivial
      intro z h1 _ h3
      simp only [List.contains_cons, List.contains_nil, Bool.or_false, Bool.or_eq_false_iff, beq_eq_false_iff_ne, ne_eq] at h3
      simp [kstB, h1, h3]
    case turn2 =>
      clear lF lN
      intro c i v u h tk own2 hi hv hoff _ _ F' N'
      (try k_fold)
      have hv' : ∃ x t, v = Value.str x t ∧ LineOk x := by
        have : i = 0 ∨ i = 1 := by
          have : i < 2 := hi
          omega
        rcases this with rfl | rfl
        · exact ⟨_, _, (Option.some.inj hv).symm, slice_ok hLine _ _⟩
        · exact ⟨_, _, (Option.some.inj hv).symm, slice_ok hLine _ _⟩
      obtain ⟨piece, tp, rfl, hPiece⟩ := hv'
      have hPLen := LineOk.len hPiece
      w_strict k_steps
      all_goals (refine stop_out ?_; have hGo := Go.mk; have hro := rest_ok hPiece)
      · rename junkL _ = true => hj
        rcases rest_yes hPiece hj with hr1 | ⟨hr1, hr2⟩
        · w_strict k_steps
          refine stop_out ?_
          rename News _ _ _ _ => lN
          refine' eq_strs_t hr1 ?ha1 ?hb1 ?hi1 ?hj1 ?ho1 ?ho2 ?hu1 ?_
          (case ha1 => exact News.isList lN (by k_mem)); (case hb1 => exact News.isList lN (by k_mem)); (case hi1 => assumption); (case hj1 => exact .nil); (case ho1 => assumption); (case ho2 => decide +kernel); (case hu1 => k_units)
          w_strict k_steps
          refine stop_out ?_
          rename Fr _ _ _ _ => lF
          rename News _ _ _ _ => lN
          refine kst_end () lF lN (fun p hp => by simp [hp]) (fun p hp => by simp [hp]) rfl trivial (fun _ h => nomatch h) ?_ trivial
          intro z h1 _ h3
          simp only [List.contains_cons, List.contains_nil, Bool.or_false, Bool.or_eq_false_iff, beq_eq_false_iff_ne, ne_eq] at h3
          simp [kstB, h1, h3]
        · w_strict k_steps
          refine stop_out ?_
          rename News _ _ _ _ => lN
          refine' eq_strs_f hr1 ?ha1 ?hb1 ?hi1 ?hj1 ?ho1 ?ho2 ?hu1 ?_
          (case ha1 => exact News.isList lN (by k_mem)); (case hb1 => exact News.isList lN (by k_mem)); (case hi1 => assumption); (case hj1 => exact .nil); (case ho1 => assumption); (case ho2 => decide +kernel); (case hu1 => k_units)
          w_strict k_steps
          refine stop_out ?_
          rename News _ _ _ _ => lN
          refine' eq_strs_t hr2 ?ha1 ?hb1 ?hi1 ?hj1 ?ho1 ?ho2 ?hu1 ?_
          (case ha1 => exact News.isList lN (by k_mem)); (case hb1 => exact News.isList lN (by k_mem)); (case hi1 => assumption); (case hj1 => exact .cons _ _ .nil); (case ho1 => assumption); (case ho2 => decide +kernel); (case hu1 => k_units)
          w_strict k_steps
          refine stop_out ?_
          rename Fr _ _ _ _ => lF
          rename News _ _ _ _ => lN
          refine kst_end () lF lN (fun p hp => by simp [hp]) (fun p hp => by simp [hp]) rfl trivial (fun _ h => nomatch h) ?_ trivial
          intro z h1 _ h3
          simp only [List.contains_cons, List.contains_nil, Bool.or_false, Bool.or_eq_false_iff, beq_eq_false_iff_ne, ne_eq] at h3
          simp [kstB, h1, h3]
      · rename junkL _ = false => hj
        obtain ⟨hr1, hr2⟩ := rest_no hPiece hj
        w_strict k_steps
        refine stop_out ?_
        rename News _ _ _ _ => lN
        refine' eq_strs_f hr1 ?ha1 ?hb1 ?hi1 ?hj1 ?ho1 ?ho2 ?hu1 ?_
        (case ha1 => exact News.isList lN (by k_mem)); (case hb1 => exact News.isList lN (by k_mem)); (case hi1 => assumption); (case hj1 => exact .nil); (case ho1 => assumption); (case ho2 => decide +kernel); (case hu1 => k_units)
        w_strict k_steps
        refine stop_out ?_
        rename News _ _ _ _ => lN
        refine' eq_strs_f hr2 ?ha1 ?hb1 ?hi1 ?hj1 ?ho1 ?ho2 ?hu1 ?_
        (case ha1 => exact News.isList lN (by k_mem)); (case hb1 => exact News.isList lN (by k_mem)); (case hi1 => assumption); (case hj1 => exact .cons _ _ .nil); (case ho1 => assumption); (case ho2 => decide +kernel); (case hu1 => k_units)
        w_strict k_steps
        refine stop_out ?_
        rename Fr _ _ _ _ => lF
        rename News _ _ _ _ => lN
        refine kst_end () lF lN (fun p hp => by simp [hp]) (fun p hp => by simp [hp]) rfl trivial (fun _ h => nomatch h) ?_ trivial
        intro z h1 _ h3
        simp only [List.contains_cons, List.contains_nil, Bool.or_false, Bool.or_eq_false_iff, beq_eq_false_iff_ne, ne_eq] at h3
        simp [kstB, h1, h3]
end

import PyProof.Rows.All
import Wide.All
import OpenK.AllK
import Wide.FinOn
import PySem.Challenge.RW_dm0047_03
set_option Elab.async false

section
open PySem
namespace Mine
set_option maxRecDepth 4000

/-! The machine of the pattern \s*(?:#\s*)?$ run on any text. -/

def rxCode : Array Nat := #[14, 4, 0, 0, 4294967295, 24, 9, 0, 4294967295, 13, 4, 8, 12, 0, 1, 23, 15, 0, 1, 16, 35, 24, 9, 0, 4294967295, 13, 4, 8, 12, 0, 1, 18, 6, 5, 1]

open Sre in
def rxM (text : Array Nat) (pc pos handed : Nat) (loops : Array Loop) (inner : Option Nat) (frames : List Sre.Frame) (weight : Nat) (answer : Option Bool) (seen : Seen) : M :=
  { code := rxCode, text := text, lim := text.size, start := 0, pc := pc, pos := pos, handed := handed, marks := #[], loops := loops, inner := inner, frames := frames, weight := weight, answer := answer, seen := seen }

/-- how many white signs stand from p on, n at most -/
def whites (text : Array Nat) : Nat → Nat → Nat
  | 0, _ => 0
  | n + 1, p => if Unicode.isSpace (text.getD p 0) then whites text n (p + 1) + 1 else 0

theorem whites_le (text : Array Nat) : ∀ n p, whites text n p ≤ n
  | 0, _ => Nat.le_refl _
  | n + 1, p => by
    unfold whites; split
    · exact Nat.succ_le_succ (whites_le text n (p + 1))
    · exact Nat.zero_le _

theorem whites_stop (text : Array Nat) : ∀ n p, whites text n p < n → Unicode.isSpace (text.getD (p + whites text n p) 0) = false
  | 0, _, h => absurd h (Nat.not_lt_zero _)
  | n + 1, p, h => by
    unfold whites at h ⊢
    split at h
    · rename_i hs
      have := whites_stop text n (p + 1) (by omega)
      simp only [hs, if_true]
      rw [show p + (whites text n (p + 1) + 1) = p + 1 + whites text n (p + 1) by omega]
      exact this
    · rename_i hs
      simp only [hs]
      simpa using hs

theorem whites_in (text : Array Nat) : ∀ n p j, j < whites text n p → Unicode.isSpace (text.getD (p + j) 0) = true
  | 0, _, _, h => absurd h (Nat.not_lt_zero _)
  | n + 1, p, j, h => by
    unfold whites at h
    split at h
    · rename_i hs
      cases j with
      | zero => simpa using hs
      | succ j =>
        rw [show p + (j + 1) = p + 1 + j by omega]
        exact whites_in text n (p + 1) j (by omega)
    · exact absurd h (Nat.not_lt_zero _)

theorem rx_accepts9 (c : Nat) (seen : Sre.Seen) : ∃ A B, Sre.accepts rxCode 9 c seen = if (Unicode.isSpace c != false) = true then .ok (true, A) else .ok (false, B) := ⟨_, _, rfl⟩
theorem rx_accepts25 (c : Nat) (seen : Sre.Seen) : ∃ A B, Sre.accepts rxCode 25 c seen = if (Unicode.isSpace c != false) = true then .ok (true, A) else .ok (false, B) := ⟨_, _, rfl⟩
theorem rx_accepts (i : Nat) (hi : i = 9 ∨ i = 25) (c : Nat) (seen : Sre.Seen) : ∃ seen', Sre.accepts rxCode i c seen = .ok (Unicode.isSpace c, seen') := by
  have key : ∃ A B, Sre.accepts rxCode i c seen = if (Unicode.isSpace c != false) = true then .ok (true, A) else .ok (false, B) := by
    rcases hi with rfl | rfl
    · exact rx_accepts9 c seen
    · exact rx_accepts25 c seen
  obtain ⟨A, B, h⟩ := key
  rw [h]
  cases Unicode.isSpace c with
  | true => exact ⟨A, rfl⟩
  | false => exact ⟨B, rfl⟩

theorem rx_run (text : Array Nat) (i : Nat) (hi : i = 9 ∨ i = 25) : ∀ n p found seen, ∃ seen', Sre.run rxCode text i n p found seen = .ok (found + whites text n p, seen')
  | 0, _, found, seen => ⟨seen, rfl⟩
  | n + 1, p, found, seen => by
    obtain ⟨s1, h1⟩ := rx_accepts i hi (text.getD p 0) seen
    unfold Sre.run whites
    cases hs : Unicode.isSpace (text.getD p 0) with
    | true =>
      obtain ⟨s2, h2⟩ := rx_run text i hi n (p + 1) (found + 1) s1
      refine ⟨s2, ?_⟩
      rw [hs] at h1
      simp only [h1, bind, Except.bind, if_true]
      rw [h2]
      simp only [Except.ok.injEq, Prod.mk.injEq, and_true]; omega
    | false =>
      rw [hs] at h1
      refine ⟨s1, ?_⟩
      simp only [h1, bind, Except.bind]; rfl

end Mine
end

section
open PySem
namespace Mine
set_option maxRecDepth 4000

def kept0 (b : Bool) : Sre.Kept := { lastmark := -1, lastindex := -1, whole := b, marks := #[] }
def gb1 (n : Nat) : Sre.Frame := { wait := .giveBack, pc := 5, pos := n, outermost := true, count := n, kept := kept0 false }
def clo (n : Nat) : Sre.Frame := { wait := .closeLoop, pc := 15, pos := n, outermost := true, loop := 0 }
def mmo (n : Nat) : Sre.Frame := { wait := .maxMore, pc := 32, pos := n, outermost := true, count := 0, kept := kept0 true, loop := 0, began := none }
def gb2 (p k : Nat) : Sre.Frame := { wait := .giveBack, pc := 21, pos := p, outermost := true, count := k, kept := kept0 true }
def mta (p : Nat) (c : Int) : Sre.Frame := { wait := .maxTail, pc := 32, pos := p, outermost := true, count := c, kept := kept0 false, loop := 0 }

def lp (c : Int) (b : Option Nat) : Array Sre.Loop := #[{ pc := 15, count := c, began := b, outer := none }]

variable (t : Array Nat)

/-- a step of the machine where what it has seen does not matter -/
def Goes (m : Sre.Seen → Sre.M) (m' : Sre.Seen → Sre.M) : Prop := ∀ seen, ∃ seen', (m seen).step = m' seen' ∧ (m seen).outcome = none

theorem run_eq {pc p : Nat} (hpc : pc = 5 ∨ pc = 21) (seen : Sre.Seen) : ∃ seen', Sre.run rxCode t (pc + 4) (min 4294967295 (((t.size : Int) - (p : Nat)).toNat)) p 0 seen = .ok (whites t (min 4294967295 (t.size - p)) p, seen') := by
  obtain ⟨s', h⟩ := rx_run t (pc + 4) (by omega) (min 4294967295 (t.size - p)) p 0 seen
  refine ⟨s', ?_⟩
  rw [show ((t.size : Int) - (p : Nat)).toNat = t.size - p by omega, h, Nat.zero_add]

theorem rep_eq5 (p h : Nat) (loops : Array Sre.Loop) (inner : Option Nat) (fs : List Sre.Frame) (w : Nat) (seen : Sre.Seen) :
    (rxM t 5 p h loops inner fs w none seen).step = (if (((0 : Nat) : Int) > (t.size : Int) - (p : Nat)) then (rxM t 5 p h loops inner fs w none (seen.add 24)).say false else
      match Sre.run rxCode t (5 + 4) (min 4294967295 (((t.size : Int) - (p : Nat)).toNat)) p 0 ((seen.add 24).add 13) with
      | .error why => (rxM t 5 p h loops inner fs w none (seen.add 24)).stick why
      | .ok (n, s) => if n < 0 then (rxM t 5 p h loops inner fs w none s).say false else (rxM t 5 (p + n) h loops inner fs w none s).afterRun .giveBack n ((rxM t 5 (p + n) h loops inner fs w none s).keep inner.isSome)) := rfl
theorem rep_eq21 (p h : Nat) (loops : Array Sre.Loop) (inner : Option Nat) (fs : List Sre.Frame) (w : Nat) (seen : Sre.Seen) :
    (rxM t 21 p h loops inner fs w none seen).step = (if (((0 : Nat) : Int) > (t.size : Int) - (p : Nat)) then (rxM t 21 p h loops inner fs w none (seen.add 24)).say false else
      match Sre.run rxCode t (21 + 4) (min 4294967295 (((t.size : Int) - (p : Nat)).toNat)) p 0 ((seen.add 24).add 13) with
      | .error why => (rxM t 21 p h loops inner fs w none (seen.add 24)).stick why
      | .ok (n, s) => if n < 0 then (rxM t 21 p h loops inner fs w none s).say false else (rxM t 21 (p + n) h loops inner fs w none s).afterRun .giveBack n ((rxM t 21 (p + n) h loops inner fs w none s).keep inner.isSome)) := rfl

theorem st_repeat1 (h : Nat) (hl : t.size < 4294967295) : Goes (rxM t 5 0 h #[] none [] 0 none) (rxM t 15 (whites t t.size 0) (whites t t.size 0) #[] none [gb1 (whites t t.size 0)] 1 none) := by
  intro seen
  obtain ⟨s', h'⟩ := run_eq t (pc := 5) (p := 0) (Or.inl rfl) ((seen.add 24).add 13)
  refine ⟨s', ?_, rfl⟩
  rw [show min 4294967295 (t.size - 0) = t.size by omega] at h'
  rw [rep_eq5, if_neg (by omega), h']
  simp only [Nat.not_lt_zero, if_false, Nat.zero_add]
  rfl
theorem st_repeat2 (p h : Nat) (n : Nat) (hl : t.size < 4294967295) (hp : p ≤ t.size) : Goes (rxM t 21 p h (lp 0 (some n)) (some 0) [mmo n, clo n, gb1 n] 3 none)
    (rxM t 31 (p + whites t (t.size - p) p) (p + whites t (t.size - p) p) (lp 0 (some n)) (some 0) [gb2 (p + whites t (t.size - p) p) (whites t (t.size - p) p), mmo n, clo n, gb1 n] 4 none) := by
  intro seen
  obtain ⟨s', h'⟩ := run_eq t (pc := 21) (p := p) (Or.inr rfl) ((seen.add 24).add 13)
  refine ⟨s', ?_, rfl⟩
  rw [show min 4294967295 (t.size - p) = t.size - p by omega] at h'
  rw [rep_eq21, if_neg (by omega), h']
  simp only [Nat.not_lt_zero, if_false]
  rfl
theorem st_repeat (n h : Nat) : Goes (rxM t 15 n h #[] none [gb1 n] 1 none) (rxM t 31 n n (lp (-1) none) (some 0) [clo n, gb1 n] 2 none) := fun _ => ⟨_, rfl, rfl⟩
theorem st_until1 (n h : Nat) : Goes (rxM t 31 n h (lp (-1) none) (some 0) [clo n, gb1 n] 2 none) (rxM t 19 n n (lp 0 (some n)) (some 0) [mmo n, clo n, gb1 n] 3 none) := fun _ => ⟨_, rfl, rfl⟩
theorem lit_eq (p h : Nat) (loops : Array Sre.Loop) (inner : Option Nat) (fs : List Sre.Frame) (w : Nat) (seen : Sre.Seen) :
    (rxM t 19 p h loops inner fs w none seen).step = (if p ≥ t.size then (rxM t 19 p h loops inner fs w none (seen.add 16)).say false else
      match (t.getD p 0 == 35) with
      | false => (rxM t 19 p h loops inner fs w none (seen.add 16)).say false
      | true => rxM t 21 (p + 1) h loops inner fs w none (seen.add 16)) := by
  show (if p ≥ t.size then (rxM t 19 p h loops inner fs w none (seen.add 16)).say false else
      match (Except.ok (t.getD p 0 == 35, seen.add 16) : Except String (Bool × Sre.Seen)) with
      | .error why => (rxM t 19 p h loops inner fs w none (seen.add 16)).stick why
      | .ok (false, s) => (rxM t 19 p h loops inner fs w none s).say false
      | .ok (true, s) => rxM t 21 (p + 1) h loops inner fs w none s) = _
  split
  · rfl
  · cases (t.getD p 0 == 35) <;> rfl
theorem st_lit_yes (p h : Nat) (loops : Array Sre.Loop) (inner : Option Nat) (fs : List Sre.Frame) (w : Nat) (hp : p < t.size) (hc : t.getD p 0 = 35) : Goes (rxM t 19 p h loops inner fs w none) (rxM t 21 (p + 1) h loops inner fs w none) := by
  intro seen
  refine ⟨seen.add 16, ?_, rfl⟩
  rw [lit_eq, if_neg (by omega), hc]; rfl
theorem st_lit_no (p h : Nat) (loops : Array Sre.Loop) (inner : Option Nat) (fs : List Sre.Frame) (w : Nat) (hc : p < t.size → t.getD p 0 ≠ 35) : Goes (rxM t 19 p h loops inner fs w none) (rxM t 19 p h loops inner fs w (some false)) := by
  intro seen
  refine ⟨seen.add 16, ?_, rfl⟩
  rw [lit_eq]
  split
  · rfl
  · rename_i hp
    rw [show (t.getD p 0 == 35) = false from beq_false_of_ne (hc (by omega))]; rfl

/-- the second look at the loop's end: one round is over -/
theorem st_until2 (p h n k : Nat) : Goes (rxM t 31 p h (lp 0 (some n)) (some 0) [gb2 p k, mmo n, clo n, gb1 n] 4 none)
    (rxM t 32 p p (lp 0 (some n)) none [mta p 1, gb2 p k, mmo n, clo n, gb1 n] 5 none) := fun _ => ⟨_, rfl, rfl⟩
theorem at_eq (p h : Nat) (loops : Array Sre.Loop) (inner : Option Nat) (fs : List Sre.Frame) (w : Nat) (seen : Sre.Seen) :
    (rxM t 32 p h loops inner fs w none seen).step = if (p == t.size || (p + 1 == t.size && t.getD p 0 == 10)) = true then rxM t 34 p h loops inner fs w none ((seen.add 6).add 48) else rxM t 32 p h loops inner fs w (some false) ((seen.add 6).add 48) := rfl
theorem st_at_yes (p h : Nat) (loops : Array Sre.Loop) (inner : Option Nat) (fs : List Sre.Frame) (w : Nat) (hp : p = t.size) : Goes (rxM t 32 p h loops inner fs w none) (rxM t 34 p h loops inner fs w none) := by
  intro seen
  exact ⟨(seen.add 6).add 48, by rw [at_eq, if_pos (by simp [hp])], rfl⟩
theorem st_at_no (p h : Nat) (loops : Array Sre.Loop) (inner : Option Nat) (fs : List Sre.Frame) (w : Nat) (hp : p < t.size) (hc : p + 1 = t.size → t.getD p 0 ≠ 10) : Goes (rxM t 32 p h loops inner fs w none) (rxM t 32 p h loops inner fs w (some false)) := by
  intro seen
  refine ⟨(seen.add 6).add 48, ?_, rfl⟩
  rw [at_eq, if_neg]
  simp only [Bool.or_eq_true, beq_iff_eq, Bool.and_eq_true]
  rintro (e | ⟨e, f⟩)
  · omega
  · exact hc e f
theorem st_success (p h : Nat) (loops : Array Sre.Loop) (inner : Option Nat) (fs : List Sre.Frame) (w : Nat) : Goes (rxM t 34 p h loops inner fs w none) (rxM t 34 p p loops inner fs w (some true)) := fun _ => ⟨_, rfl, rfl⟩

/-- back out of the frames -/
theorem bk_mta2 (pc p h n q k : Nat) (b : Bool) : Goes (rxM t pc p h (lp 0 (some n)) none [mta q 1, gb2 q k, mmo n, clo n, gb1 n] 5 (some b)) (rxM t 32 q h (lp 0 (some n)) (some 0) [gb2 q k, mmo n, clo n, gb1 n] 4 (some b)) := fun _ => ⟨_, rfl, rfl⟩
theorem bk_gb2_yes (pc p h n q k : Nat) : Goes (rxM t pc p h (lp 0 (some n)) (some 0) [gb2 q k, mmo n, clo n, gb1 n] 4 (some true)) (rxM t 21 q h (lp 0 (some n)) (some 0) [mmo n, clo n, gb1 n] 3 (some true)) := fun _ => ⟨_, rfl, rfl⟩
theorem bk_gb2_no0 (pc p h n q : Nat) : Goes (rxM t pc p h (lp 0 (some n)) (some 0) [gb2 q 0, mmo n, clo n, gb1 n] 4 (some false)) (rxM t 21 q h (lp 0 (some n)) (some 0) [mmo n, clo n, gb1 n] 3 (some false)) := fun _ => ⟨_, rfl, rfl⟩
theorem bk_gb2_no1 (pc p h n q k : Nat) : Goes (rxM t pc p h (lp 0 (some n)) (some 0) [gb2 (q + 1) (k + 1), mmo n, clo n, gb1 n] 4 (some false)) (rxM t 31 q q (lp 0 (some n)) (some 0) [gb2 q k, mmo n, clo n, gb1 n] 4 none) := by
  intro seen
  refine ⟨seen, ?_, rfl⟩
  have e : (rxM t pc p h (lp 0 (some n)) (some 0) [gb2 (q + 1) (k + 1), mmo n, clo n, gb1 n] 4 (some false) seen).step =
      if (((k + 1 : Nat) : Int) - 1 < ((0 : Nat) : Int)) then rxM t 21 (q + 1) h (lp 0 (some n)) (some 0) [mmo n, clo n, gb1 n] 3 (some false) seen
      else rxM t 31 q q (lp 0 (some n)) (some 0) [{ wait := .giveBack, pc := 21, pos := q, outermost := true, count := ((k + 1 : Nat) : Int) - 1, kept := kept0 true }, mmo n, clo n, gb1 n] 4 none seen := rfl
  rw [e, if_neg (by omega), show ((k + 1 : Nat) : Int) - 1 = (k : Int) by omega]
  rfl
theorem bk_mmo_yes (pc p h n : Nat) : Goes (rxM t pc p h (lp 0 (some n)) (some 0) [mmo n, clo n, gb1 n] 3 (some true)) (rxM t 32 n h (lp 0 none) (some 0) [clo n, gb1 n] 2 (some true)) := fun _ => ⟨_, rfl, rfl⟩
theorem bk_mmo_no (pc p h n : Nat) : Goes (rxM t pc p h (lp 0 (some n)) (some 0) [mmo n, clo n, gb1 n] 3 (some false)) (rxM t 32 n n (lp (-1) none) none [mta n 0, clo n, gb1 n] 3 none) := fun _ => ⟨_, rfl, rfl⟩
theorem bk_mta1 (pc p h n : Nat) (b : Bool) : Goes (rxM t pc p h (lp (-1) none) none [mta n 0, clo n, gb1 n] 3 (some b)) (rxM t 32 n h (lp (-1) none) (some 0) [clo n, gb1 n] 2 (some b)) := fun _ => ⟨_, rfl, rfl⟩
theorem bk_clo (pc p h n : Nat) (c : Int) (b : Bool) : Goes (rxM t pc p h (lp c none) (some 0) [clo n, gb1 n] 2 (some b)) (rxM t 15 n h #[] none [gb1 n] 1 (some b)) := fun _ => ⟨_, rfl, rfl⟩
theorem bk_gb1_yes (pc p h n : Nat) : Goes (rxM t pc p h #[] none [gb1 n] 1 (some true)) (rxM t 5 n h #[] none [] 0 (some true)) := fun _ => ⟨_, rfl, rfl⟩
theorem bk_gb1_no0 (pc p h : Nat) : Goes (rxM t pc p h #[] none [gb1 0] 1 (some false)) (rxM t 5 0 h #[] none [] 0 (some false)) := fun _ => ⟨_, rfl, rfl⟩
theorem bk_gb1_no1 (pc p h n : Nat) : Goes (rxM t pc p h #[] none [gb1 (n + 1)] 1 (some false)) (rxM t 15 n n #[] none [gb1 n] 1 none) := by
  intro seen
  refine ⟨seen, ?_, rfl⟩
  have e : (rxM t pc p h #[] none [gb1 (n + 1)] 1 (some false) seen).step =
      if (((n + 1 : Nat) : Int) - 1 < ((0 : Nat) : Int)) then rxM t 5 (n + 1) h #[] none [] 0 (some false) seen
      else rxM t 15 n n #[] none [{ wait := .giveBack, pc := 5, pos := n, outermost := true, count := ((n + 1 : Nat) : Int) - 1, kept := kept0 false }] 1 none seen := rfl
  rw [e, if_neg (by omega), show ((n + 1 : Nat) : Int) - 1 = (n : Int) by omega]
  rfl
end Mine
end

section
open PySem
namespace Mine
set_option maxRecDepth 4000

def Gets (b : Nat) (m m' : Sre.Seen → Sre.M) : Prop := ∀ seen, ∃ n, n ≤ b ∧ ∃ seen', Sre.M.runFor n (m seen) = m' seen'

theorem runFor_add : ∀ (a b : Nat) (m : Sre.M), Sre.M.runFor (a + b) m = Sre.M.runFor b (Sre.M.runFor a m)
  | 0, b, m => by rw [Nat.zero_add]; rfl
  | a + 1, b, m => by
    rw [show a + 1 + b = (a + b) + 1 by omega]
    show (if m.outcome.isSome then m else Sre.M.runFor (a + b) m.step) = Sre.M.runFor b (if m.outcome.isSome then m else Sre.M.runFor a m.step)
    split
    · rename_i h
      cases b with
      | zero => rfl
      | succ b => show m = if m.outcome.isSome then m else _; rw [if_pos h]
    · exact runFor_add a b m.step

theorem Gets.of {m m' : Sre.Seen → Sre.M} (h : Goes m m') : Gets 1 m m' := fun seen => by
  obtain ⟨s', e, o⟩ := h seen
  refine ⟨1, Nat.le_refl _, s', ?_⟩
  show (if (m seen).outcome.isSome then m seen else Sre.M.runFor 0 (m seen).step) = _
  rw [o, e]; rfl
theorem Gets.trans {a b : Nat} {m₁ m₂ m₃ : Sre.Seen → Sre.M} (h₁ : Gets a m₁ m₂) (h₂ : Gets b m₂ m₃) : Gets (a + b) m₁ m₃ := fun seen => by
  obtain ⟨n, hn, s', e⟩ := h₁ seen
  obtain ⟨n', hn', s'', e'⟩ := h₂ s'
  exact ⟨n + n', by omega, s'', by rw [runFor_add, e, e']⟩
theorem Gets.le {a b : Nat} {m₁ m₂ : Sre.Seen → Sre.M} (h : Gets a m₁ m₂) (hab : a ≤ b) : Gets b m₁ m₂ := fun seen => by
  obtain ⟨n, hn, r⟩ := h seen
  exact ⟨n, by omega, r⟩
theorem Gets.refl {m : Sre.Seen → Sre.M} : Gets 0 m m := fun seen => ⟨0, Nat.le_refl _, seen, rfl⟩
/-- one step first -/
theorem Goes.then {b : Nat} {m₁ m₂ m₃ : Sre.Seen → Sre.M} (h₁ : Goes m₁ m₂) (h₂ : Gets b m₂ m₃) : Gets (1 + b) m₁ m₃ := (Gets.of h₁).trans h₂

variable (t : Array Nat)

def rxDone (pc pos handed : Nat) (b : Bool) (seen : Sre.Seen) : Sre.M := { rxM t pc pos handed #[] none [] 0 (some b) seen with outcome := some (if b then .matched else .failed) }
theorem st_done (pc pos handed : Nat) (b : Bool) : Goes (rxM t pc pos handed #[] none [] 0 (some b)) (rxDone t pc pos handed b) := fun seen => ⟨seen, by cases b <;> rfl, rfl⟩

/-- the inner give-back: no end is found -/
theorem inner_fails (n : Nat) : ∀ (k q h : Nat), k ≤ q → q < t.size → (q + 1 = t.size → t.getD q 0 ≠ 10) →
    ∃ q' h', Gets (4 * (k + 1)) (rxM t 31 q h (lp 0 (some n)) (some 0) [gb2 q k, mmo n, clo n, gb1 n] 4 none) (rxM t 21 q' h' (lp 0 (some n)) (some 0) [mmo n, clo n, gb1 n] 3 (some false))
  | 0, q, h, _, hq, hc => ⟨q, q, ((st_until2 t q h n 0).then ((st_at_no t q q _ _ _ _ hq hc).then ((bk_mta2 t 32 q q n q 0 false).then (Gets.of (bk_gb2_no0 t 32 q q n q))))).le (by omega)⟩
  | k + 1, 0, _, hk, _, _ => absurd hk (by omega)
  | k + 1, q + 1, h, hk, hq, hc => by
    obtain ⟨q', h', r⟩ := inner_fails n k q q (by omega) (by omega) (fun e => by omega)
    exact ⟨q', h', ((st_until2 t (q + 1) h n (k + 1)).then ((st_at_no t (q + 1) (q + 1) _ _ _ _ hq hc).then ((bk_mta2 t 32 (q + 1) (q + 1) n (q + 1) (k + 1) false).then ((bk_gb2_no1 t 32 (q + 1) (q + 1) n q k).then r)))).le (by omega)⟩

/-- the outer give-back: white signs alone lie behind -/
theorem outer_fails : ∀ (n pc p h : Nat), n < t.size → (∀ j, j < n → t.getD j 0 ≠ 35) → ∃ h', Gets (8 * n + 1) (rxM t pc p h #[] none [gb1 n] 1 (some false)) (rxM t 5 0 h' #[] none [] 0 (some false))
  | 0, pc, p, h, _, _ => ⟨h, (Gets.of (bk_gb1_no0 t pc p h)).le (by omega)⟩
  | n + 1, pc, p, h, hn, hw => by
    obtain ⟨h', r⟩ := outer_fails n 15 n n (by omega) (fun j hj => hw j (by omega))
    exact ⟨h', ((bk_gb1_no1 t pc p h n).then ((st_repeat t n n).then ((st_until1 t n n).then ((st_lit_no t n n _ _ _ _ (fun _ => hw n (by omega))).then
      ((bk_mmo_no t 19 n n n).then ((st_at_no t n n _ _ _ _ (by omega) (fun e => by omega)).then ((bk_mta1 t 32 n n n false).then ((bk_clo t 32 n n n (-1) false).then r)))))))).le (by omega)⟩

def rxJunk : Bool :=
  let n := whites t t.size 0
  n == t.size || (t.getD n 0 == 35 && n + 1 + whites t (t.size - (n + 1)) (n + 1) == t.size)

theorem space_ne35 {c : Nat} (h : Unicode.isSpace c = true) : c ≠ 35 := by rintro rfl; revert h; decide
theorem nospace_ne10 {c : Nat} (h : Unicode.isSpace c = false) : c ≠ 10 := by rintro rfl; revert h; decide

theorem rx_whole (hl : t.size < 4294967295) : ∃ pc pos handed, Gets (20 * (t.size + 2)) (rxM t 5 0 0 #[] none [] 0 none) (rxDone t pc pos handed (rxJunk t)) := by
  have hle := whites_le t t.size 0
  by_cases h1 : whites t t.size 0 = t.size
  · have hj : rxJunk t = true := by simp [rxJunk, h1]
    rw [hj]
    refine ⟨_, _, _, ((st_repeat1 t 0 hl).then ((st_repeat t _ _).then ((st_until1 t _ _).then ((st_lit_no t _ _ _ _ _ _ (fun e => by omega)).then ((bk_mmo_no t _ _ _ _).then
      ((st_at_yes t _ _ _ _ _ _ h1).then ((st_success t _ _ _ _ _ _).then ((bk_mta1 t _ _ _ _ true).then ((bk_clo t _ _ _ _ _ true).then ((bk_gb1_yes t _ _ _ _).then (Gets.of (st_done t _ _ _ true)))))))))))).le (by omega)⟩
  · have hlt : whites t t.size 0 < t.size := by omega
    have hns := whites_stop t t.size 0 hlt
    rw [Nat.zero_add] at hns
    have hwh : ∀ j, j < whites t t.size 0 → t.getD j 0 ≠ 35 := fun j hj => by
      have := whites_in t t.size 0 j hj
      rw [Nat.zero_add] at this
      exact space_ne35 this
    by_cases h2 : t.getD (whites t t.size 0) 0 = 35
    · have hle2 := whites_le t (t.size - (whites t t.size 0 + 1)) (whites t t.size 0 + 1)
      by_cases h3 : whites t t.size 0 + 1 + whites t (t.size - (whites t t.size 0 + 1)) (whites t t.size 0 + 1) = t.size
      · have hj : rxJunk t = true := by unfold rxJunk; simp only [h2, h3, beq_self_eq_true, Bool.and_true, Bool.or_true]
        rw [hj]
        refine ⟨_, _, _, ((st_repeat1 t 0 hl).then ((st_repeat t _ _).then ((st_until1 t _ _).then ((st_lit_yes t _ _ _ _ _ _ hlt h2).then ((st_repeat2 t _ _ _ hl (by omega)).then ((st_until2 t _ _ _ _).then
          ((st_at_yes t _ _ _ _ _ _ h3).then ((st_success t _ _ _ _ _ _).then ((bk_mta2 t _ _ _ _ _ _ true).then ((bk_gb2_yes t _ _ _ _ _ _).then ((bk_mmo_yes t _ _ _ _).then ((bk_clo t _ _ _ _ _ true).then ((bk_gb1_yes t _ _ _ _).then (Gets.of (st_done t _ _ _ true))))))))))))))).le (by omega)⟩
      · have hj : rxJunk t = false := by unfold rxJunk; simp only [beq_false_of_ne h1, beq_false_of_ne h3, Bool.and_false, Bool.or_false]
        rw [hj]
        have hlt2 : whites t (t.size - (whites t t.size 0 + 1)) (whites t t.size 0 + 1) < t.size - (whites t t.size 0 + 1) := by omega
        have hns2 := whites_stop t _ _ hlt2
        obtain ⟨q', h', r⟩ := inner_fails t (whites t t.size 0) (whites t (t.size - (whites t t.size 0 + 1)) (whites t t.size 0 + 1)) (whites t t.size 0 + 1 + whites t (t.size - (whites t t.size 0 + 1)) (whites t t.size 0 + 1))
          (whites t t.size 0 + 1 + whites t (t.size - (whites t t.size 0 + 1)) (whites t t.size 0 + 1)) (by omega) (by omega) (fun _ => nospace_ne10 hns2)
        obtain ⟨h'', r2⟩ := outer_fails t (whites t t.size 0) 15 (whites t t.size 0) (whites t t.size 0) hlt hwh
        refine ⟨_, _, _, ((st_repeat1 t 0 hl).then ((st_repeat t _ _).then ((st_until1 t _ _).then ((st_lit_yes t _ _ _ _ _ _ hlt h2).then ((st_repeat2 t _ _ _ hl (by omega)).then (r.trans
          ((bk_mmo_no t _ _ _ _).then ((st_at_no t _ _ _ _ _ _ hlt (fun _ => nospace_ne10 hns)).then ((bk_mta1 t _ _ _ _ false).then ((bk_clo t _ _ _ _ _ false).then (r2.trans (Gets.of (st_done t _ _ _ false))))))))))))).le (by omega)⟩
    · have hj : rxJunk t = false := by unfold rxJunk; simp only [beq_false_of_ne h1, beq_false_of_ne h2, Bool.false_and, Bool.or_false]
      rw [hj]
      obtain ⟨h'', r2⟩ := outer_fails t (whites t t.size 0) 15 (whites t t.size 0) (whites t t.size 0) hlt hwh
      refine ⟨_, _, _, ((st_repeat1 t 0 hl).then ((st_repeat t _ _).then ((st_until1 t _ _).then ((st_lit_no t _ _ _ _ _ _ (fun _ => h2)).then
          ((bk_mmo_no t _ _ _ _).then ((st_at_no t _ _ _ _ _ _ hlt (fun _ => nospace_ne10 hns)).then ((bk_mta1 t _ _ _ _ false).then ((bk_clo t _ _ _ _ _ false).then (r2.trans (Gets.of (st_done t _ _ _ false))))))))))).le (by omega)⟩
end Mine
end

section
set_option maxRecDepth 100000
open PySem PySem.W PySem.Calls PyProof.Rows Builtin Builtin.ObjectAttr
namespace Mine

theorem runFor_stay : ∀ (b : Nat) {m : Sre.M}, m.outcome.isSome = true → Sre.M.runFor b m = m
  | 0, _, _ => rfl
  | b + 1, m, h => by show (if m.outcome.isSome then m else _) = m; rw [if_pos h]

theorem runFor_same {a b : Nat} {m : Sre.M} (ha : (Sre.M.runFor a m).outcome.isSome = true) (hb : (Sre.M.runFor b m).outcome.isSome = true) : Sre.M.runFor a m = Sre.M.runFor b m := by
  have h1 : Sre.M.runFor (a + b) m = Sre.M.runFor a m := by rw [runFor_add, runFor_stay b ha]
  have h2 : Sre.M.runFor (b + a) m = Sre.M.runFor b m := by rw [runFor_add, runFor_stay a hb]
  rw [← h1, ← h2, Nat.add_comm]

section
variable {M : Model} {A : Around} {E : Value → Shared → Prop} {s : Shared}

theorem drive_ {Q : Sre.M → Shared → Prop} : ∀ (T n : Nat) (m : Sre.M), n ≤ 4 * T → (Sre.M.runFor n m).outcome.isSome = true → 0 < T → Q (Sre.M.runFor n m) s → wpAny M A (Re.reDrive T m) Q E s
  | 0, _, _, _, _, h0, _ => absurd h0 (Nat.lt_irrefl _)
  | T + 1, n, m, hn, ho, _, hq => by
    show wpAny M A (if (Sre.M.runFor 4 m).outcome.isSome then pure (Sre.M.runFor 4 m) else do rule "sre.turn"; Re.reDrive T (Sre.M.runFor 4 m)) Q E s
    by_cases h4 : (Sre.M.runFor 4 m).outcome.isSome = true
    · rw [if_pos h4, runFor_same h4 ho]
      exact wpAny_pure hq
    · rw [if_neg h4]
      have hn4 : 4 < n := by
        apply Nat.lt_of_not_le
        intro hle
        apply h4
        have e : Sre.M.runFor (n + (4 - n)) m = Sre.M.runFor n m := by rw [runFor_add, runFor_stay _ ho]
        rw [show 4 = n + (4 - n) by omega, e]; exact ho
      have e : Sre.M.runFor n m = Sre.M.runFor (n - 4) (Sre.M.runFor 4 m) := by rw [← runFor_add]; congr 1; omega
      refine wpAny_bind (wpAny_rule (drive_ T (n - 4) _ (by omega) (e ▸ ho) (by omega) (e ▸ hq)))

theorem tell_ {has : Nat → Bool} {nm : Nat → String} {Q : PUnit → Shared → Prop} : ∀ l : List Nat, Q ⟨⟩ s → wpAny M A (forIn l PUnit.unit (fun i _ => if has i = true then (do rule (nm i); pure (ForInStep.yield PUnit.unit)) else pure (ForInStep.yield PUnit.unit)) : Sem PUnit) Q E s
  | [], h => by rw [List.forIn_nil]; exact wpAny_pure h
  | i :: r, h => by
    rw [List.forIn_cons]
    refine wpAny_bind ?_
    cases has i with
    | true => exact wpAny_bind (wpAny_rule (wpAny_pure (tell_ r h)))
    | false => exact wpAny_pure (tell_ r h)

theorem runToEnd_ {m : Sre.M} {n : Nat} {b : Bool} {Q : Option Sre.M → Shared → Prop} (hn : n ≤ 2 ^ 60) (ho : (Sre.M.runFor n m).outcome = some (if b then .matched else .failed))
    (h : Q (if b then some (Sre.M.runFor n m) else none) s) : wpAny M A (Re.reRunToEnd m) Q E s := by
  unfold Re.reRunToEnd
  refine wpAny_bind (drive_ (2 ^ 64) n m (by omega) (by rw [ho]; rfl) (by omega) ?_)
  refine wpAny_bind (wpAny_mono (tell_ (has := fun i => (Sre.M.runFor n m).seen.has i) (nm := fun i => Sre.names.getD i "") _ (Q := fun _ s' => s' = s) rfl) (fun _ s' e => ?_) fun _ _ e => e)
  subst e
  rw [ho]
  cases b with
  | true => exact wpAny_pure h
  | false => exact wpAny_pure h
end

def rxMethObj : Obj := { cls := .type "builtin_function_or_method", data := .fields #[.builtin "re.Pattern.match", .ref 36] }
def rxPatObj (v0 : Value) (t1 : Tok) : Obj := { cls := .type "re.Pattern", data := .fields #[v0, .int 32 t1, .int 0 0, .none, .none, .ref 35, .int 0 0] }
def rxTupObj : Obj := { cls := .type "tuple", data := .seq #[.int 14 0, .int 4 0, .int 0 0, .int 0 0, .int 4294967295 0, .int 24 0, .int 9 0, .int 0 0, .int 4294967295 0, .int 13 0, .int 4 0, .int 8 0, .int 12 0, .int 0 0, .int 1 0, .int 23 0, .int 15 0, .int 0 0, .int 1 0, .int 16 0, .int 35 0, .int 24 0, .int 9 0, .int 0 0, .int 4294967295 0, .int 13 0, .int 4 0, .int 8 0, .int 12 0, .int 0 0, .int 1 0, .int 18 0, .int 6 0, .int 5 0, .int 1 0] }

section
variable {prog : Program} {w : World} {A : Around} {E : Value → Shared → Prop} {s : Shared} {Q : Value → Shared → Prop}

theorem entry_match : entryFor table "re.Pattern.match" = some Builtin.«re.Pattern.match» := entryFor_of_fast (by kernel_rfl)

theorem bound_ok {v0 : Value} {t1 : Tok} {x : Str} {t : Tok} {Q : Unit → Shared → Prop} (h36 : s.heap.get? 36 = some (rxPatObj v0 t1)) (h : Q () s) :
    wpAny (model prog w) A (checkBoundCall "re.Pattern.match" ⟨[.ref 36, .str x t], []⟩) Q E s := by
  obtain ⟨hh, g, dr, tk, os⟩ := s
  dsimp only at h36
  unfold rxPatObj at h36
  unfold checkBoundCall
  repeat lk
  exact h

theorem code_eq : ((#[.int 14 0, .int 4 0, .int 0 0, .int 0 0, .int 4294967295 0, .int 24 0, .int 9 0, .int 0 0, .int 4294967295 0, .int 13 0, .int 4 0, .int 8 0, .int 12 0, .int 0 0, .int 1 0, .int 23 0, .int 15 0, .int 0 0, .int 1 0, .int 16 0, .int 35 0, .int 24 0, .int 9 0, .int 0 0, .int 4294967295 0, .int 13 0, .int 4 0, .int 8 0, .int 12 0, .int 0 0, .int 1 0, .int 18 0, .int 6 0, .int 5 0, .int 1 0] : Array Value).map Re.reRawOf).map (fun x => x.toNat) = rxCode := by decide +kernel
theorem target_ok {v0 : Value} {t1 : Tok} {x : Str} {t : Tok} {Q : Re.ReTarget → Shared → Prop} (h36 : s.heap.get? 36 = some (rxPatObj v0 t1)) (h35 : s.heap.get? 35 = some rxTupObj) (hx : x.cps.size < 4294967295)
    (h : Q { pattern := .ref 36, string := .str x t, code := rxCode, text := x.cps, kind := 0, groups := 0, pos := 0, lim := x.cps.size } s) :
    wpAny (model prog w) A (Re.reTarget "re.Pattern.match" "match" ⟨[.ref 36, .str x t], []⟩) Q E s := by
  obtain ⟨hh, g, dr, tk, os⟩ := s
  dsimp only at h36 h35
  unfold rxPatObj at h36
  unfold rxTupObj at h35
  have hl : Min.min ((2 : Int) ^ 63 - 1).toNat x.cps.size = x.cps.size := by omega
  unfold Re.reTarget
  repeat lk
  rw [hl]
  simp only [Option.getD_some]
  rw [code_eq]
  exact h

theorem match_call {v0 : Value} {t1 : Tok} {x : Str} {t : Tok}
    (h37 : s.heap.get? 37 = some rxMethObj) (h36 : s.heap.get? 36 = some (rxPatObj v0 t1)) (h35 : s.heap.get? 35 = some rxTupObj)
    (hx : x.cps.size < 4294967295) (hno : rxJunk x.cps = false → Q .none s)
    (hyes : rxJunk x.cps = true → ∀ oT oM, oT.isFreed = false → oM.isFreed = false → Q (.ref (s.heap.objs.size + 1)) { s with heap := (s.heap.push oT).push oM }) :
    wpAny (model prog w) A (call (.ref 37) [.str x t]) Q E s := by
  obtain ⟨hh, g, dr, tk, os⟩ := s
  dsimp only at h37 h36 h35
  refine wpAny_call ?_
  refine codeAny_of_tree ?_
  show wpAny _ _ (callAny (.ref 37) _) _ _ _
  refine nd_load h37 ?_
  show wpAny _ _ (do checkBoundCall "re.Pattern.match" ⟨[.ref 36, .str x t], []⟩; again (.builtin "re.Pattern.match" ⟨[.ref 36, .str x t], []⟩)) _ _ _
  refine wpAny_bind (bound_ok h36 ?_)
  refine wpAny_pure ⟨Code.quiet_builtin _ (by decide +kernel), codeAny_builtin entry_match ?_⟩
  unfold Builtin.«re.Pattern.match»
  refine wpAny_bind (target_ok h36 h35 hx ?_)
  obtain ⟨pc, pos, handed, hg⟩ := rx_whole x.cps hx
  obtain ⟨n, hn, seen', hr⟩ := hg (({} : Sre.Seen).add 14)
  have hm : Sre.forMatch rxCode x.cps 0 0 x.cps.size false false = rxM x.cps 5 0 0 #[] none [] 0 none (({} : Sre.Seen).add 14) := rfl
  unfold Re.reAnswer
  dsimp only
  rw [hm]
  refine wpAny_bind (runToEnd_ (n := n) (b := rxJunk x.cps) (by omega) (by rw [hr]; rfl) ?_)
  cases hj : rxJunk x.cps with
  | false => exact wpAny_pure (hno hj)
  | true =>
    simp only [if_true]
    unfold Re.reNewMatch
    repeat lk
    rw [Heap.size_push]
    exact hyes hj _ _ rfl rfl
end
end Mine
end

section
open PySem PySem.W PyProof.Rows
namespace Mine

/-- a sign's text -/
abbrev chS (c : Nat) : Str := ⟨#[c]⟩
/-- a test on values that are one sign each -/
def onSign (p : Nat → Bool) : Value → Bool
  | .str ⟨#[c]⟩ _ => p c
  | _ => false
theorem onSign_ch (p : Nat → Bool) (c : Nat) (t : Tok) : onSign p (.str (chS c) t) = p c := rfl

/-- values that are the signs of a list of codes -/
theorem signs_filter (p : Nat → Bool) : ∀ (cs : List Nat) (vs : List Value) (ys : List Value), vs.length = cs.length → (∀ (j : Nat) (v : Value), vs[j]? = some v → ∃ c u, cs[j]? = some c ∧ v = Value.str (chS c) u) → Paired (fun a b => b = a) (vs.filter (onSign p)) ys →
    StrsAre ys ((cs.filter p).map chS)
  | [], [], ys, _, _, hp => by cases hp; exact .nil
  | [], _ :: _, _, hl, _, _ => by simp at hl
  | _ :: _, [], _, hl, _, _ => by simp at hl
  | c :: cs, v :: vs, ys, hl, hv, hp => by
    obtain ⟨c', u, hc, rfl⟩ := hv 0 v rfl
    simp only [List.getElem?_cons_zero, Option.some.injEq] at hc
    subst hc
    have ih := signs_filter p cs vs
    have hv' : ∀ (j : Nat) (v : Value), vs[j]? = some v → ∃ c u, cs[j]? = some c ∧ v = Value.str (chS c) u := fun j v hj => by
      have := hv (j + 1) v (by simpa using hj)
      simpa using this
    rw [List.filter_cons, onSign_ch] at hp
    rw [List.filter_cons]
    cases hpc : p c with
    | true =>
      simp only [hpc, if_true] at hp ⊢
      cases hp with
      | cons hb hr => subst hb; exact .cons _ _ (ih _ (by simpa using hl) hv' hr)
    | false =>
      simp only [hpc] at hp ⊢
      exact ih _ (by simpa using hl) hv' hp

section
variable {prog : Program} {w : World} {A : Around} {E : Value → Shared → Prop} {s : Shared} {h₀ : Heap} {L : Addr} {m : Str → Option Value} {news : List (Addr × Obj)}

/-- [x for x in a text if test], stored under a name -/
theorem strComp_assign {name : Str} {sc : Scope} {fa : Addr} {cd : Value} {ct : Expr} {x y z : Str} {px pe pz py : Pos} {scope : Scope} {cl : List (Str × Addr)} {pos spos : Pos} {Q : Flow → Shared → Prop} {text : Str} {tt : Tok} (p : Nat → Bool)
    (hh : A.handled = none) (F : Fr h₀ L s.heap m) (N : News h₀ L s.heap news) (hz : m z = some (.str text tt))
    (htest : ∀ C c u s₃ m₃ (E' : Value → Shared → Prop), c ∈ text.cps.toList → s₃.heap.Ns C m₃ → m₃ x = some (.str (chS c) u) → (∀ b o, s.heap.get? b = some o → s₃.heap.get? b = some o) → s.heap.objs.size ≤ C →
      wpAny (model prog w) A (isTrue ct (compEnvC scope cl C (envOf name sc L fa cd)) (eval ct (compEnvC scope cl C (envOf name sc L fa cd)))) (fun ok s₄ => ok = p c ∧ Keeps s₃ s₄) E' s₃)
    (hQ : ∀ D n ys h' tk, Fr h₀ L h' (fun q => if q = y then some (.ref D) else m q) → News h₀ L h' ((D, { cls := .type "list", data := .seq ys.toArray n }) :: news) → (∀ q ∈ news, q.1 ≠ D) → StrsAre ys ((text.cps.toList.filter p).map chS) → Q .next { s with heap := h', toks := tk })
    (hsw : swapsWith (.ListComp (.Name x pe) [⟨.Name x px, .Name z pz, [ct], 0⟩] scope pos) (some (.Name y py)) spos.line (envOf name sc L fa cd) = pure true)
    (hclos : closureFor scope (envOf name sc L fa cd) = pure cl) (hcell : ∀ z ∈ scope.names, z.2 ≠ .cell) (hkind : scope.kind = .function)
    (hnames : ∀ z ∈ scope.names, z.2 = .local → scope.names.lookup z.1 = some .local) (hx : scope.names.lookup x = some .local)
    (hy : (envOf name sc L fa cd).kindOf y = some .local) (hk : sc.kind = .function) (hzl : (envOf name sc L fa cd).kindOf z = some .local)
    (hdz : (z == ("__debug__" : Str)) = false) (hdx : (x == ("__debug__" : Str)) = false)
    (hs : ∀ v, foldedSetIterable (.Name z pz) (envOf name sc L fa cd) v = pure v)
    (hsz : text.cps.size ≤ sizeLine) :
    wpAny (model prog w) A (exec (.Assign [.Name y py] (.ListComp (.Name x pe) [⟨.Name x px, .Name z pz, [ct], 0⟩] scope pos) spos) (envOf name sc L fa cd)) Q E s := by
  refine wpAny_Assign_ListComp_free (onSign p) (fun a b => b = a) hsw hclos hcell hkind hnames hx hy (by show (sc.kind == .class || (sc.kind == .module && L != mainGlobals)) = false; rw [hk]; rfl) ?_ hs
  refine ld F hz ?_ hk hzl hdz
  refine wpAny_pyIter_str fun o St hW hst => ?_
  have up : ∀ b o', s.heap.get? b = some o' → (s.heap.push o).get? b = some o' := fun b o' e => Heap.get?_push_of_some _ e
  have hIL : L < s.heap.objs.size := F.ns.lt
  refine ⟨s.heap.objs.size, [s.heap.objs.size], [s.heap.objs.size], text.cps.size, SignAt text, St, m, rfl, hW A hh, hsz, hst, ?_, ?_, F.ns.at' (fun o' e => up _ _ e), ?_, ?_⟩
  · intro b hb
    rw [List.mem_singleton.mp hb]
    show s.heap.objs.size < (s.heap.push o).objs.size
    rw [Heap.size_push]; exact Nat.lt_succ_self _
  · intro hm
    exact absurd hIL ((List.mem_singleton.mp hm) ▸ Nat.lt_irrefl _)
  · have keepOld : ∀ (s₃ : Shared), (∀ b o', b ∉ [s.heap.objs.size] → (s.heap.push o).get? b = some o' → s₃.heap.get? b = some o') → ∀ b o', s.heap.get? b = some o' → s₃.heap.get? b = some o' :=
      fun s₃ hk3 b o' e => hk3 b o' (by simpa using Nat.ne_of_lt (Heap.lt_size e)) (up b o' e)
    refine ⟨?_, ?_⟩
    · rintro C i v s₃ m₃ E' hC ⟨c, u, hc, rfl⟩ hn hm hk3 _
      refine wpAny_tests_one ?_
      have hmem : c ∈ text.cps.toList := by
        rw [← Array.getElem?_toList] at hc
        exact List.mem_of_getElem? hc
      have hC' : s.heap.objs.size ≤ C := by
        have : (s.heap.push o).objs.size ≤ C := hC
        rw [Heap.size_push] at this; exact Nat.le_of_succ_le this
      refine wpAny_mono (htest C c u s₃ m₃ E' hmem hn hm (keepOld s₃ hk3) hC') (fun ok s₄ h4 => ?_) fun _ _ e => e
      exact ⟨h4.1, h4.2⟩
    · rintro C i v s₃ m₃ E' hC _ _ hn hm _ _
      refine wpAny_Name (wpAny_loadName_local (by show (relabel scope _).kind = .function; simpa [relabel] using hkind) (lookup_relabel_local hx) hn hm ?_) hdx
      exact ⟨rfl, s₃.heap, s₃.toks, rfl, fun _ _ e => e⟩
  · intro D h' tk ys vs hD hl hpl hlen hP hF hns hkeep
    obtain ⟨n, hpl⟩ := hpl
    have keepOld : ∀ b o', s.heap.get? b = some o' → b ≠ L → h'.get? b = some o' := fun b o' e hb => hkeep b o' hb (by simpa using Nat.ne_of_lt (Heap.lt_size e)) (up b o' e)
    have hDs : s.heap.get? D = none := by
      cases e : s.heap.get? D with
      | none => rfl
      | some o' => have := up D o' e; rw [hD] at this; cases this
    have hL₀ : h₀.get? L = none := Heap.get?_none_of_le F.above
    have hD₀ : h₀.get? D = none := by
      cases e : h₀.get? D with
      | none => rfl
      | some o' => have := F.keep D o' e; rw [hDs] at this; cases this
    have hDL : D ≠ L := by
      rintro rfl
      obtain ⟨oL, _, _, e, _⟩ := F.ns
      rw [hDs] at e; cases e
    refine hQ D n ys.toList h' tk ⟨hns, fun b o' e => keepOld b o' (F.keep b o' e) (fun q => by rw [q, hL₀] at e; cases e), F.above⟩ (fun q hq => ?_) (fun q hq e => by have := (N q hq).1; rw [e, hDs] at this; cases this) ?_
    · rcases List.mem_cons.mp hq with rfl | hq
      · refine ⟨?_, hDL, hD₀⟩
        rw [hpl]
      · exact ⟨keepOld _ _ (N q hq).1 (N q hq).2.1, (N q hq).2⟩
    · refine signs_filter p text.cps.toList vs ys.toList (by simpa using hlen) (fun j v hj => ?_) hF
      obtain ⟨c, u, hc, e⟩ := hP j v hj
      exact ⟨c, u, by rw [Array.getElem?_toList]; exact hc, e⟩

/-- the test of a comprehension: the sign is not in a written text -/
theorem test_notin {env : Env} {C : Addr} {x W : Str} {p1 p2 p3 : Pos} {k : Nat} {whole : Sem Value} {c : Nat} {u : Tok} {s₃ : Shared} {m₃ : Str → Option Value} {E' : Value → Shared → Prop} (hn : s₃.heap.Ns C m₃) (hm : m₃ x = some (.str (chS c) u))
    (hL : env.locals = C) (hk : env.scope.kind = .function) (hl : env.kindOf x = some .local) (hd : (x == ("__debug__" : Str)) = false) :
    wpAny (model prog w) A (isTrue (.Compare (.Name x p1) [.NotIn] [.Constant (.str W) k p2] p3) env whole) (fun ok s₄ => ok = (!Txt.contains W (chS c)) ∧ Keeps s₃ s₄) E' s₃ := by
  subst hL
  refine wpAny_isTrue_Compare1 ?_
  refine wpAny_Name (wpAny_loadName_local hk hl hn hm ?_) hd
  refine wpAny_Constant_str ?_
  refine SB.notContains ?_
  refine wpAny_pure ⟨rfl, _, _, rfl, fun _ _ e => e⟩
end
end Mine
end

section
open PySem
namespace Mine

theorem whites_list (t : Array Nat) : ∀ (n p : Nat), n = t.size - p → whites t n p = ((t.toList.drop p).takeWhile Unicode.isSpace).length
  | 0, p, h => by
    have : t.toList.drop p = [] := List.drop_eq_nil_of_le (by simp; omega)
    rw [this]; rfl
  | n + 1, p, h => by
    have hp : p < t.toList.length := by simp; omega
    have e : t.getD p 0 = t.toList[p] := by simp [Array.getD, show p < t.size by omega]
    rw [List.drop_eq_getElem_cons hp]
    unfold whites
    rw [e]
    by_cases hs : Unicode.isSpace t.toList[p] = true
    · rw [if_pos hs, whites_list t n (p + 1) (by omega), List.takeWhile_cons_of_pos hs, List.length_cons]
    · rw [if_neg hs, List.takeWhile_cons_of_neg hs]; rfl

/-- junk, said on the signs: beside white ones nothing or one # -/
def junkL (l : List Nat) : Bool := decide (l.filter (fun c => !Unicode.isSpace c) = []) || decide (l.filter (fun c => !Unicode.isSpace c) = [35])

theorem takeWhile_full {p : Nat → Bool} : ∀ l : List Nat, (l.takeWhile p).length = l.length ↔ l.filter (fun c => !p c) = []
  | [] => by simp
  | c :: r => by
    by_cases h : p c = true
    · rw [List.takeWhile_cons_of_pos h, List.filter_cons_of_neg (by simp [h])]
      simp [takeWhile_full r]
    · rw [List.takeWhile_cons_of_neg h, List.filter_cons_of_pos (by simpa using h)]
      simp

theorem take_split {p : Nat → Bool} : ∀ l : List Nat, (l.takeWhile p).length < l.length → ∃ c r, l = l.takeWhile p ++ c :: r ∧ p c = false
  | [], h => by simp at h
  | c :: r, h => by
    by_cases hc : p c = true
    · rw [List.takeWhile_cons_of_pos hc] at h ⊢
      obtain ⟨c', r', e, hc'⟩ := take_split r (by simpa using h)
      exact ⟨c', r', by rw [List.cons_append, ← e], hc'⟩
    · exact ⟨c, r, by rw [List.takeWhile_cons_of_neg hc]; rfl, by simpa using hc⟩

theorem rxJunk_eq (t : Array Nat) : rxJunk t = junkL t.toList := by
  have hw : whites t t.size 0 = (t.toList.takeWhile Unicode.isSpace).length := by rw [whites_list t t.size 0 (by omega), List.drop_zero]
  unfold rxJunk junkL
  dsimp only
  rw [hw]
  have hlen : t.size = t.toList.length := by simp
  by_cases h1 : (t.toList.takeWhile Unicode.isSpace).length = t.toList.length
  · rw [hlen, h1, (takeWhile_full t.toList).mp h1]; simp
  · have hle : (t.toList.takeWhile Unicode.isSpace).length ≤ t.toList.length := (List.takeWhile_sublist _).length_le
    obtain ⟨c, r, e, hc⟩ := take_split (p := Unicode.isSpace) t.toList (by omega)
    have hfw : (t.toList.takeWhile Unicode.isSpace).filter (fun c => !Unicode.isSpace c) = [] := by
      rw [List.filter_eq_nil_iff]
      intro a ha
      have := List.all_takeWhile (p := Unicode.isSpace) (l := t.toList)
      simp only [List.all_eq_true] at this
      simp [this a ha]
    have hf : t.toList.filter (fun c => !Unicode.isSpace c) = c :: r.filter (fun c => !Unicode.isSpace c) := by
      rw [show t.toList.filter (fun c => !Unicode.isSpace c) = (t.toList.takeWhile Unicode.isSpace ++ c :: r).filter (fun c => !Unicode.isSpace c) from by rw [← e], List.filter_append, hfw, List.nil_append, List.filter_cons_of_pos (by simp [hc])]
    have hg : t.getD (t.toList.takeWhile Unicode.isSpace).length 0 = c := by
      have h2 : t.getD (t.toList.takeWhile Unicode.isSpace).length 0 = t.toList.getD (t.toList.takeWhile Unicode.isSpace).length 0 := by simp [Array.getD_eq_getD_getElem?, List.getD_eq_getElem?_getD]
      rw [h2]
      generalize ha : t.toList.takeWhile Unicode.isSpace = a at e
      rw [e]
      simp
    have hd : t.toList.drop ((t.toList.takeWhile Unicode.isSpace).length + 1) = r := by
      generalize ha : t.toList.takeWhile Unicode.isSpace = a at e
      rw [e]
      simp [List.drop_append]
    have hl : t.toList.length = (t.toList.takeWhile Unicode.isSpace).length + 1 + r.length := by
      have := congrArg List.length e
      simp only [List.length_append, List.length_cons] at this
      omega
    rw [hg, whites_list t _ _ rfl, hd, hf]
    rw [show ((t.toList.takeWhile Unicode.isSpace).length == t.size) = false from beq_false_of_ne (by omega)]
    simp only [reduceCtorEq, decide_false, Bool.false_or, List.cons.injEq]
    have h3 : ((t.toList.takeWhile Unicode.isSpace).length + 1 + (r.takeWhile Unicode.isSpace).length == t.size) = decide (r.filter (fun c => !Unicode.isSpace c) = []) := by
      rw [Bool.eq_iff_iff]
      simp only [beq_iff_eq, decide_eq_true_eq]
      rw [← takeWhile_full r]
      omega
    rw [h3]
    by_cases hc5 : c = 35 <;> simp [hc5]

/-- the six white signs of law 02 -/
def ws6 : Str := Str.ofString " \t\n\x0d\x0b\x0c"
theorem ws6_space (c : Nat) (h : (9 ≤ c ∧ c ≤ 13) ∨ (32 ≤ c ∧ c ≤ 126)) : Txt.contains ws6 (chS c) = Unicode.isSpace c := by
  have : ∀ c < 127, ((9 ≤ c ∧ c ≤ 13) ∨ (32 ≤ c ∧ c ≤ 126)) → Txt.contains ws6 (chS c) = Unicode.isSpace c := by decide +kernel
  exact this c (by omega) h
end Mine
end

section
set_option maxRecDepth 100000
open PySem PySem.W PySem.Calls PyProof.Rows
namespace Mine
section
variable {prog : Program} {w : World} {A : Around} {E : Value → Shared → Prop} {s : Shared} {Q : Value → Shared → Prop} {h₀ : Heap} {L : Addr} {m : Str → Option Value} {news : List (Addr × Obj)}

theorem keeper_rx {M : Model} (h : Heap) (e : h.get? 37 = some rxMethObj) : ∃ k, (k = Keeper.frame ∨ k = Keeper.machine ∨ k = Keeper.boundFrame) ∧ Looks M h (keeperOf (.ref 37)) k := by
  refine ⟨.machine, .inr (.inl rfl), (Looks.ld (part := none) e).andThen ?_⟩
  exact Looks.of_pure rfl

/-- what stands of the compiled pattern at the top -/
structure RxAt (h : Heap) : Prop where
  meth : h.get? 37 = some rxMethObj
  pat : ∃ v0 t1, h.get? 36 = some (rxPatObj v0 t1)
  tup : h.get? 35 = some rxTupObj
theorem RxAt.keeps {h h' : Heap} (R : RxAt h) (k : ∀ b o, h.get? b = some o → h'.get? b = some o) : RxAt h' :=
  ⟨k _ _ R.meth, let ⟨v, t, e⟩ := R.pat; ⟨v, t, k _ _ e⟩, k _ _ R.tup⟩

/-- pat(line), pat the pattern's own match -/
theorem callWith_rx {name : Str} {sc : Scope} {fa : Addr} {cd : Value} {pos p : Pos} {y x : Str} {t : Tok} (R : RxAt h₀) (F : Fr h₀ L s.heap m) (N : News h₀ L s.heap news) (hy : m y = some (.str x t)) (hx : x.length < 4294967295)
    (hno : junkL x.cps.toList = false → Q .none s)
    (hyes : junkL x.cps.toList = true → ∀ a h', Fr h₀ L h' m → News h₀ L h' news → Q (.ref a) { s with heap := h' })
    (hk : sc.kind = .function) (hl : (envOf name sc L fa cd).kindOf y = some .local) (hd : (y == ("__debug__" : Str)) = false) :
    wpAny (model prog w) A (callWith pos (.ref 37) [] (backTo pos (starEach [.Name y p] (envOf name sc L fa cd))) []) Q E s := by
  have he : starEach [.Name y p] (envOf name sc L fa cd) = (false, eval (.Name y p) (envOf name sc L fa cd)) :: starEach [] (envOf name sc L fa cd) := rfl
  have R' := R.keeps F.keep
  rw [he]
  refine callWith_of (P := fun h => h.get? 37 = some rxMethObj) rfl keeper_rx (evalArgs_plain ?_)
  refine spliced_cons (ld F hy (spliced_nil ⟨R'.meth, ?_⟩) hk hl hd)
  obtain ⟨v0, t1, h36⟩ := R'.pat
  refine match_call R'.meth h36 R'.tup hx ?_ ?_
  · intro hj
    exact hno (by rw [← rxJunk_eq]; exact hj)
  · intro hj oT oM fT fM
    refine hyes (by rw [← rxJunk_eq]; exact hj) _ _ ((F.push _).push _) fun q hq => ?_
    exact ⟨Heap.get?_push_of_some _ (Heap.get?_push_of_some _ (N q hq).1), (N q hq).2⟩
end
end Mine
end

section
open PySem PySem.W PyProof.Rows PySem.Spec
namespace Mine
theorem ks_canLayAll0 : ∀ ns : List Str, (∀ x ∈ ns, PyData.strOk x = true) → PyData.canLayAll0 (ns.map PyData.str) = true
  | [], _ => rfl
  | a :: r, h => by simp [PyData.canLayAll0, PyData.canLay0, ks_canLayAll0 r (fun x hx => h x (List.mem_cons_of_mem _ hx)), h a List.mem_cons_self]
theorem ks_depthAll : ∀ ns : List Str, PyData.depthAll (ns.map PyData.str) = 0
  | [] => rfl
  | _ :: r => by simp [PyData.depthAll, PyData.depth, ks_depthAll r]
theorem ks_shaped (ns : List Str) (h : ∀ x ∈ ns, PyData.strOk x = true) : SeqAt.shaped (.list (ns.map PyData.str)) = true := by
  simp [SeqAt.shaped, PyData.canLay0, PyData.depth, ks_canLayAll0 ns h, ks_depthAll]
theorem ks_sameAll : ∀ ns ms : List Str, PySem.Spec.sameAll (ns.map PyData.str) (ms.map PyData.str) = decide (ns = ms)
  | [], [] => by simp [PySem.Spec.sameAll]
  | [], _ :: _ => by simp [PySem.Spec.sameAll]
  | _ :: _, [] => by simp [PySem.Spec.sameAll]
  | a :: r, b :: t => by
    simp only [List.map_cons, PySem.Spec.sameAll, PySem.Spec.same, ks_sameAll r t]
    by_cases h : a = b <;> by_cases h' : r = t <;> simp [h, h']
theorem ks_same (ns ms : List Str) : PySem.Spec.same (.list (ns.map PyData.str)) (.list (ms.map PyData.str)) = decide (ns = ms) := by
  simp only [PySem.Spec.same]; exact ks_sameAll ns ms
section
variable {prog : Program} {w : World} {A : Around} {E : Value → Shared → Prop} {s : Shared} {a b : Addr} {xs ys : List Value} {ns ms : List Str} {Q : Value → Shared → Prop}
theorem eq_strs (ha : s.heap.IsList a xs.toArray) (hb : s.heap.IsList b ys.toArray) (hi : StrsAre xs ns) (hj : StrsAre ys ms) (h1 : ∀ x ∈ ns, PyData.strOk x = true) (h2 : ∀ x ∈ ms, PyData.strOk x = true) (hu : A.units + 64 < cLine) (h : Q (.bool (decide (ns = ms))) s) :
    wpAny (model prog w) A (compareOp .Eq (.ref a) (.ref b)) Q E s :=
  eq_dataH_same (reads_newData ha hi.carried) (reads_newData hb hj.carried) (ks_shaped _ h1) (ks_shaped _ h2) hu (SeqAt.noMix_of_shape (.list .str) rfl _ _ (list_map_has fun _ => rfl) (list_map_has fun _ => rfl)) (by rw [ks_same]; exact h)
theorem ne_strs (ha : s.heap.IsList a xs.toArray) (hb : s.heap.IsList b ys.toArray) (hi : StrsAre xs ns) (hj : StrsAre ys ms) (h1 : ∀ x ∈ ns, PyData.strOk x = true) (h2 : ∀ x ∈ ms, PyData.strOk x = true) (hu : A.units + 64 < cLine) (h : Q (.bool (!decide (ns = ms))) s) :
    wpAny (model prog w) A (compareOp .NotEq (.ref a) (.ref b)) Q E s :=
  ne_dataH_same (reads_newData ha hi.carried) (reads_newData hb hj.carried) (ks_shaped _ h1) (ks_shaped _ h2) hu (SeqAt.noMix_of_shape (.list .str) rfl _ _ (list_map_has fun _ => rfl) (list_map_has fun _ => rfl)) (by rw [ks_same]; exact h)
end
end Mine
end

section
open PySem PySem.W PyProof.Rows
namespace Mine

section
variable {prog : Program} {w : World} {A : Around} {E : Value → Shared → Prop} {s : Shared} {env : Env} {h₀ : Heap} {x : Str} {body : List Stmt} {Q : Flow → Shared → Prop}

/-- a loop over anything that walks, by a state of one's own -/
theorem loop_s {σ : Type} {I : Addr} {fp wr : List Addr} {n : Nat} {Pv : Nat → Value → Prop} {St : Nat → Heap → Prop} {m₀ : Str → Option Value}
    (Led : σ → List (Addr × Obj)) (ps : σ → List (Str × Value)) (Facts : σ → Prop) (stored : List Str) (P : Nat → σ → Prop) (c₀ : σ)
    (W : Walks prog w A I fp wr n Pv St) (hLf : env.locals ∉ fp) (hwr : ∀ b ∈ wr, h₀.get? b = none) (hfp : ∀ q ∈ Led c₀, q.1 ∉ fp) (hst : St 0 s.heap)
    (F : Fr h₀ env.locals s.heap m₀) (N : News h₀ env.locals s.heap (Led c₀)) (hf : Facts c₀) (hk : ∀ p ∈ ps c₀, m₀ p.1 = some p.2) (hp : P 0 c₀)
    (turn : ∀ (c : σ) (i : Nat) (v : Value) (u : Str → Option Value) h tk own, i < n → Pv i v → OwnOff own ((Led c₀).map (·.1)) → Facts c → P i c →
      Fr h₀ env.locals h (fun y => if y = x then some v else kstB (fun z => if stored.contains z then u z else m₀ z) (ps c) y) → News h₀ env.locals h (Led c ++ own) →
      wpAny (model prog w) A (execs body env) (InvPostN h₀ env.locals (KstS Led ps Facts x stored m₀ (fun pre c => P pre.length c) (rangeKs 0 (i + 1))) own ((Led c₀).map (·.1)) { s with heap := h, toks := tk } Q) E { s with heap := h, toks := tk })
    (done : ∀ (c : σ) (u : Str → Option Value) h tk, Facts c → P n c → Fr h₀ env.locals h (fun y => if y = x then u y else kstB (fun z => if stored.contains z then u z else m₀ z) (ps c) y) → News h₀ env.locals h (Led c) → Q .next { s with heap := h, toks := tk }) :
    LoopAtV prog w A h₀ env x body Q E (.ref I) s := by
  refine loop_invN (fun i m nx => KstS Led ps Facts x stored m₀ (fun pre c => P pre.length c) (rangeKs 0 i) m nx) W hLf hwr (fun p hp hI => hfp p hp (W.sub _ hI)) hfp hst F N ⟨c₀, rfl, hf, hk, fun _ _ _ _ => rfl, by simpa [rangeKs] using hp⟩ ?_ ?_
  · rintro i v m₁ nx h tk own hi hv _ hoff ⟨c, rfl, hf', h1, h2, hp'⟩ F₁ N₁
    exact turn c i v m₁ h tk own hi hv hoff hf' (by simpa [rangeKs_length] using hp') (kst_fr h1 h2 F₁) N₁
  · rintro m₁ nx h tk ⟨c, rfl, hf', h1, h2, hp'⟩ F₁ N₁
    exact done c m₁ h tk hf' (by simpa [rangeKs_length] using hp') (kst_frOut h1 h2 F₁) N₁

theorem tup_loop {σ : Type} {l : Addr} {its : Array Value} {m₀ : Str → Option Value}
    (Led : σ → List (Addr × Obj)) (ps : σ → List (Str × Value)) (Facts : σ → Prop) (stored : List Str) (P : Nat → σ → Prop) (c₀ : σ)
    (hh : A.handled = none) (hl : s.heap.IsTuple l its) (hlL : l ≠ env.locals) (hfp : ∀ q ∈ Led c₀, q.1 ≠ l)
    (F : Fr h₀ env.locals s.heap m₀) (N : News h₀ env.locals s.heap (Led c₀)) (hf : Facts c₀) (hk : ∀ p ∈ ps c₀, m₀ p.1 = some p.2) (hp : P 0 c₀)
    (turn : ∀ (c : σ) (i : Nat) (v : Value) (u : Str → Option Value) h tk own, i < its.size → its[i]? = some v → OwnOff own ((Led c₀).map (·.1)) → Facts c → P i c →
      Fr h₀ env.locals h (fun y => if y = x then some v else kstB (fun z => if stored.contains z then u z else m₀ z) (ps c) y) → News h₀ env.locals h (Led c ++ own) →
      wpAny (model prog w) A (execs body env) (InvPostN h₀ env.locals (KstS Led ps Facts x stored m₀ (fun pre c => P pre.length c) (rangeKs 0 (i + 1))) own ((Led c₀).map (·.1)) { s with heap := h, toks := tk } Q) E { s with heap := h, toks := tk })
    (done : ∀ (c : σ) (u : Str → Option Value) h tk, Facts c → P its.size c → Fr h₀ env.locals h (fun y => if y = x then u y else kstB (fun z => if stored.contains z then u z else m₀ z) (ps c) y) → News h₀ env.locals h (Led c) → Q .next { s with heap := h, toks := tk }) :
    wpAny (model prog w) A (pyIter (.ref l)) (fun it s₂ => LoopAtV prog w A h₀ env x body Q E it s₂) E s := by
  have hlt : l < s.heap.objs.size := by obtain ⟨o, ho, _⟩ := hl; exact Heap.lt_size ho
  have hne : l ≠ s.heap.objs.size := Nat.ne_of_lt hlt
  refine wpAny_pyIter_tuple hl ?_
  refine loop_s Led ps Facts stored P c₀ (Walks.tuple hh s.heap.objs.size l hne its) ?_ ?_ ?_ ?_ (F.push _) (fun p hp => ⟨Heap.get?_push_of_some _ (N p hp).1, (N p hp).2⟩) hf hk hp turn done
  · intro hm
    rcases List.mem_cons.mp hm with e | hm
    · exact absurd F.ns.lt (e ▸ Nat.lt_irrefl _)
    · exact hlL (List.mem_singleton.mp hm).symm
  · intro b hb
    rw [List.mem_singleton.mp hb]
    exact next_is_new F
  · intro p hp hI
    rcases List.mem_cons.mp hI with e | hI
    · exact absurd (Heap.lt_size (N p hp).1) (e ▸ Nat.lt_irrefl _)
    · exact hfp p hp (List.mem_singleton.mp hI)
  · refine ⟨⟨_, Heap.get?_push_size _ rfl, rfl, rfl⟩, ?_⟩
    obtain ⟨o, ho, r⟩ := hl
    exact ⟨o, Heap.get?_push_of_some _ ho, r⟩

/-- the same where the thing that is walked may stand in the ledger itself (a turn that changes nothing of the ledger's addresses) -/
theorem loop_sK {σ : Type} {I : Addr} {fp wr : List Addr} {n : Nat} {Pv : Nat → Value → Prop} {St : Nat → Heap → Prop} {m₀ : Str → Option Value}
    (Led : σ → List (Addr × Obj)) (ps : σ → List (Str × Value)) (Facts : σ → Prop) (stored : List Str) (P : Nat → σ → Prop) (c₀ : σ)
    (W : Walks prog w A I fp wr n Pv St) (hLf : env.locals ∉ fp) (hwr : ∀ b ∈ wr, h₀.get? b = none) (hfp : ∀ q ∈ Led c₀, q.1 ∉ wr) (hst : St 0 s.heap)
    (F : Fr h₀ env.locals s.heap m₀) (N : News h₀ env.locals s.heap (Led c₀)) (hf : Facts c₀) (hk : ∀ p ∈ ps c₀, m₀ p.1 = some p.2) (hp : P 0 c₀)
    (turn : ∀ (c : σ) (i : Nat) (v : Value) (u : Str → Option Value) h tk own, i < n → Pv i v → Facts c → P i c →
      Fr h₀ env.locals h (fun y => if y = x then some v else kstB (fun z => if stored.contains z then u z else m₀ z) (ps c) y) → News h₀ env.locals h (Led c ++ own) →
      wpAny (model prog w) A (execs body env) (InvPostN h₀ env.locals (KstS Led ps Facts x stored m₀ (fun pre c => P pre.length c) (rangeKs 0 (i + 1))) own ((Led c₀).map (·.1)) { s with heap := h, toks := tk } Q) E { s with heap := h, toks := tk })
    (done : ∀ (c : σ) (u : Str → Option Value) h tk, Facts c → P n c → Fr h₀ env.locals h (fun y => if y = x then u y else kstB (fun z => if stored.contains z then u z else m₀ z) (ps c) y) → News h₀ env.locals h (Led c) → Q .next { s with heap := h, toks := tk }) :
    LoopAtV prog w A h₀ env x body Q E (.ref I) s := by
  let J : Nat → (Str → Option Value) → List (Addr × Obj) → Prop := fun i m nx => nx.map (·.1) = (Led c₀).map (·.1) ∧ KstS Led ps Facts x stored m₀ (fun pre c => P pre.length c) (rangeKs 0 i) m nx
  refine ⟨I, fp, wr, n, Pv, St, m₀, Led c₀, J, rfl, W, hLf, hwr, hfp, hst, F, N, ⟨rfl, c₀, rfl, hf, hk, fun _ _ _ _ => rfl, by simpa [rangeKs] using hp⟩, ?_, ?_⟩
  · rintro i v m₁ news₁ s₁ own ⟨hh', tk', rfl⟩ hin hP ⟨hadr, c, rfl, hf', h1, h2, hp'⟩ hoff _ _ _ _ F₁ N₁
    have N₂ : News h₀ env.locals hh' (Led c ++ own) := fun p hp => N₁ p ((List.mem_append.mp hp).elim (fun h => List.mem_append.mpr (.inr h)) fun h => List.mem_append.mpr (.inl h))
    refine wpAny_mono (turn c i v m₁ hh' tk' own hin hP hf' (by simpa [rangeKs_length] using hp') (kst_fr h1 h2 F₁) N₂) (fun f s₂ p => ?_) fun _ _ e => e
    have fin : InvEndN h₀ env.locals (KstS Led ps Facts x stored m₀ (fun pre c => P pre.length c) (rangeKs 0 (i + 1))) own ((Led c₀).map (·.1)) { s with heap := hh', toks := tk' } s₂ → LoopStepU h₀ env.locals wr own (J (i + 1)) { s with heap := hh', toks := tk' } .next s₂ := by
      rintro ⟨h', tk, m', news', nx, e, F', N', hn, ho, ha, hm⟩
      refine ⟨rfl, h', tk, m', nx, e, F', fun p hp => N' p ((List.mem_append.mp hp).elim (ho p) (hn p)), fun p hp hq => ?_, ha, hm⟩
      have h1 : p.1 ∈ nx.map (·.1) := List.mem_map.mpr ⟨p, hp, rfl⟩
      rw [ha, ← hadr] at h1
      obtain ⟨q, hq1, hq2⟩ := List.mem_map.mp h1
      exact hoff q hq1 (by rw [hq2]; exact hq)
    cases f with
    | ret v => exact .ret p
    | brk => exact .brk p
    | next => exact .next (fin p)
    | cont => exact .cont (fin p)
  · rintro h' tk m' news' F' N' _ ⟨_, c, rfl, hf', h1, h2, hp'⟩
    exact done c m' h' tk hf' (by simpa [rangeKs_length] using hp') (kst_frOut h1 h2 F') N'

theorem tup_loopK {σ : Type} {l : Addr} {its : Array Value} {m₀ : Str → Option Value}
    (Led : σ → List (Addr × Obj)) (ps : σ → List (Str × Value)) (Facts : σ → Prop) (stored : List Str) (P : Nat → σ → Prop) (c₀ : σ)
    (hh : A.handled = none) (hl : s.heap.IsTuple l its) (hlL : l ≠ env.locals)
    (F : Fr h₀ env.locals s.heap m₀) (N : News h₀ env.locals s.heap (Led c₀)) (hf : Facts c₀) (hk : ∀ p ∈ ps c₀, m₀ p.1 = some p.2) (hp : P 0 c₀)
    (turn : ∀ (c : σ) (i : Nat) (v : Value) (u : Str → Option Value) h tk own, i < its.size → its[i]? = some v → Facts c → P i c →
      Fr h₀ env.locals h (fun y => if y = x then some v else kstB (fun z => if stored.contains z then u z else m₀ z) (ps c) y) → News h₀ env.locals h (Led c ++ own) →
      wpAny (model prog w) A (execs body env) (InvPostN h₀ env.locals (KstS Led ps Facts x stored m₀ (fun pre c => P pre.length c) (rangeKs 0 (i + 1))) own ((Led c₀).map (·.1)) { s with heap := h, toks := tk } Q) E { s with heap := h, toks := tk })
    (done : ∀ (c : σ) (u : Str → Option Value) h tk, Facts c → P its.size c → Fr h₀ env.locals h (fun y => if y = x then u y else kstB (fun z => if stored.contains z then u z else m₀ z) (ps c) y) → News h₀ env.locals h (Led c) → Q .next { s with heap := h, toks := tk }) :
    wpAny (model prog w) A (pyIter (.ref l)) (fun it s₂ => LoopAtV prog w A h₀ env x body Q E it s₂) E s := by
  have hlt : l < s.heap.objs.size := by obtain ⟨o, ho, _⟩ := hl; exact Heap.lt_size ho
  have hne : l ≠ s.heap.objs.size := Nat.ne_of_lt hlt
  refine wpAny_pyIter_tuple hl ?_
  refine loop_sK Led ps Facts stored P c₀ (Walks.tuple hh s.heap.objs.size l hne its) ?_ ?_ ?_ ?_ (F.push _) (fun p hp => ⟨Heap.get?_push_of_some _ (N p hp).1, (N p hp).2⟩) hf hk hp turn done
  · intro hm
    rcases List.mem_cons.mp hm with e | hm
    · exact absurd F.ns.lt (e ▸ Nat.lt_irrefl _)
    · exact hlL (List.mem_singleton.mp hm).symm
  · intro b hb
    rw [List.mem_singleton.mp hb]
    exact next_is_new F
  · intro p hp hI
    exact absurd (Heap.lt_size (N p hp).1) (List.mem_singleton.mp hI ▸ Nat.lt_irrefl _)
  · refine ⟨⟨_, Heap.get?_push_size _ rfl, rfl, rfl⟩, ?_⟩
    obtain ⟨o, ho, r⟩ := hl
    exact ⟨o, Heap.get?_push_of_some _ ho, r⟩
end
end Mine
end

section
open PySem PySem.W PyProof.Rows
namespace Mine
def Stop (P : Prop) : Prop := P
theorem stop_in {P : Prop} (h : Stop P) : P := h
theorem stop_out {P : Prop} (h : P) : Stop P := h

def sgn (x : Int) : Str := if x.fmod 8 < 7 then Txt.item (Str.ofString " \t\n\x0d\x0b\x0c#") (x.fmod 8) else { cps := #[(33 + (x.fdiv 8).fmod 94).toNat] }
theorem sgn_len (x : Int) : (sgn x).length = 1 := by unfold sgn; split <;> rfl
theorem sgn_lo {x : Int} (h : x.fmod 8 < 7) : sgn x = Txt.item (Str.ofString " \t\n\x0d\x0b\x0c#") (x.fmod 8) := if_pos h
theorem sgn_hi {x : Int} (h : ¬ x.fmod 8 < 7) : sgn x = { cps := #[(33 + (x.fdiv 8).fmod 94).toNat] } := if_neg h

/-- a sign of the law: one of six white ones or a seen one -/
def OkSign (c : Nat) : Prop := (9 ≤ c ∧ c ≤ 13) ∨ (32 ≤ c ∧ c ≤ 126)

theorem sgn_ok (x : Int) : ∀ c ∈ (sgn x).cps.toList, OkSign c := by
  by_cases h : x.fmod 8 < 7
  · rw [sgn_lo h]
    have h0 : 0 ≤ x.fmod 8 := Int.fmod_nonneg_of_pos x (by decide)
    generalize x.fmod 8 = k at h h0
    have : k = 0 ∨ k = 1 ∨ k = 2 ∨ k = 3 ∨ k = 4 ∨ k = 5 ∨ k = 6 := by omega
    rcases this with rfl | rfl | rfl | rfl | rfl | rfl | rfl <;> (unfold OkSign; decide +kernel)
  · rw [sgn_hi h]
    intro c hc
    have h0 : 0 ≤ (x.fdiv 8).fmod 94 := Int.fmod_nonneg_of_pos _ (by decide)
    have h1 : (x.fdiv 8).fmod 94 < 94 := Int.fmod_lt_of_pos _ (by decide)
    simp only [List.mem_singleton] at hc
    subst hc
    right; omega

theorem join_cps : ∀ l : List Str, (Txt.join (Str.ofString "") l).cps.toList = (l.map fun x => x.cps.toList).flatten := by
  intro l
  show (Builtin.Str.glued (Str.ofString "") l).cps.toList = _
  rw [StrLaws.glued_eq_join]
  induction l with
  | nil => rfl
  | cons a r ih =>
    cases r with
    | nil => simp [Str.join]
    | cons b r =>
      show (a ++ Str.ofString "" ++ Str.join (Str.ofString "") (b :: r)).cps.toList = _
      rw [KT.app_list, KT.app_list, ih]
      have : (Str.ofString "").cps.toList = [] := by decide
      rw [this]; simp

structure LineOk (line : Str) : Prop where
  len : line.length ≤ 63
  ok : ∀ c ∈ line.cps.toList, OkSign c

theorem line_ok (ns : List Int) (h : ns.length ≤ 63) (hl : (Txt.join (Str.ofString "") (ns.map sgn)).length = ns.length) : LineOk (Txt.join (Str.ofString "") (ns.map sgn)) where
  len := by omega
  ok := by
    intro c hc
    rw [join_cps, List.mem_flatten] at hc
    obtain ⟨l, hl, hc⟩ := hc
    simp only [List.map_map, List.mem_map] at hl
    obtain ⟨x, _, rfl⟩ := hl
    exact sgn_ok x c hc
theorem slice_ok {line : Str} (h : LineOk line) (l u : Option Int) : LineOk (Txt.slice line l u) where
  len := Nat.le_trans (Txt.slice_le line l u) h.len
  ok := by
    unfold Txt.slice
    split
    · exact h.ok
    · intro c hc
      simp only [List.mem_filterMap] at hc
      obtain ⟨i, _, hi⟩ := hc
      refine h.ok c ?_
      rw [← Array.getElem?_toList] at hi
      exact List.mem_of_getElem? hi
end Mine
end

section
open PySem PySem.W PyProof.Rows
namespace Mine
abbrev restOf (x : Str) : List Str := (x.cps.toList.filter (fun c => !Txt.contains ws6 (chS c))).map chS

theorem rest_filter {x : Str} (h : LineOk x) : x.cps.toList.filter (fun c => !Txt.contains ws6 (chS c)) = x.cps.toList.filter (fun c => !Unicode.isSpace c) :=
  List.filter_congr fun c hc => by rw [ws6_space c (h.ok c hc)]

theorem chS_inj {l : List Nat} {l' : List Nat} (h : l.map chS = l'.map chS) : l = l' := by
  induction l generalizing l' with
  | nil => cases l' with | nil => rfl | cons _ _ => simp at h
  | cons a r ih => cases l' with
    | nil => simp at h
    | cons b t =>
      simp only [List.map_cons, List.cons.injEq, Str.mk.injEq, Array.mk.injEq, and_true] at h
      rw [show a = b by simpa using h.1, ih h.2]

theorem hash_eq : [Str.ofString "#"] = [35].map chS := by decide

theorem rest_yes {x : Str} (h : LineOk x) (hj : junkL x.cps.toList = true) : restOf x = [] ∨ (restOf x ≠ [] ∧ restOf x = [Str.ofString "#"]) := by
  unfold junkL at hj
  simp only [Bool.or_eq_true, decide_eq_true_eq] at hj
  unfold restOf
  rw [rest_filter h]
  rcases hj with e | e
  · left; rw [e]; rfl
  · right; rw [e]; exact ⟨by simp, hash_eq.symm⟩
theorem rest_no {x : Str} (h : LineOk x) (hj : junkL x.cps.toList = false) : restOf x ≠ [] ∧ restOf x ≠ [Str.ofString "#"] := by
  unfold junkL at hj
  simp only [Bool.or_eq_false_iff, decide_eq_false_iff_not] at hj
  unfold restOf
  rw [rest_filter h]
  refine ⟨fun e => hj.1 (by simpa using e), fun e => hj.2 ?_⟩
  rw [hash_eq] at e
  exact chS_inj e
theorem rest_ok {x : Str} (h : LineOk x) : ∀ y ∈ restOf x, PyData.strOk y = true := by
  intro y hy
  obtain ⟨c, hc, rfl⟩ := List.mem_map.mp hy
  have := h.ok c (List.mem_filter.mp hc).1
  show (#[c] : Array Nat).all (· < 0x110000) = true
  have hlt : c < 0x110000 := by unfold OkSign at this; omega
  simp [hlt]
theorem codes_ok {line : Str} (h : LineOk line) {pre post : List Int} {n : Nat} (e : KStt.codes line = pre ++ (n : Int) :: post) : OkSign n := by
  have hm : (n : Int) ∈ KStt.codes line := by rw [e]; simp
  unfold KStt.codes at hm
  obtain ⟨c, hc, hcn⟩ := List.mem_map.mp hm
  have : c = n := by omega
  subst this
  exact h.ok c (by simpa using hc)
theorem bt_of {n : Nat} (h : OkSign n) : Txt.contains (Str.ofString " \t") (chS n) = (n == 32 || n == 9) := by
  have : ∀ c < 127, Txt.contains (Str.ofString " \t") (chS c) = (c == 32 || c == 9) := by decide +kernel
  unfold OkSign at h
  exact this n (by omega)
section
variable {prog : Program} {w : World} {A : Around} {E : Value → Shared → Prop} {s : Shared} {a b : Addr} {xs ys : List Value} {ns ms : List Str} {Q : Value → Shared → Prop}
theorem eq_strs_t (e : ns = ms) (ha : s.heap.IsList a xs.toArray) (hb : s.heap.IsList b ys.toArray) (hi : StrsAre xs ns) (hj : StrsAre ys ms) (h1 : ∀ x ∈ ns, PyData.strOk x = true) (h2 : ∀ x ∈ ms, PyData.strOk x = true) (hu : A.units + 64 < cLine) (h : Q (.bool true) s) :
    wpAny (model prog w) A (compareOp .Eq (.ref a) (.ref b)) Q E s := eq_strs ha hb hi hj h1 h2 hu (by rw [decide_eq_true e]; exact h)
theorem eq_strs_f (e : ns ≠ ms) (ha : s.heap.IsList a xs.toArray) (hb : s.heap.IsList b ys.toArray) (hi : StrsAre xs ns) (hj : StrsAre ys ms) (h1 : ∀ x ∈ ns, PyData.strOk x = true) (h2 : ∀ x ∈ ms, PyData.strOk x = true) (hu : A.units + 64 < cLine) (h : Q (.bool false) s) :
    wpAny (model prog w) A (compareOp .Eq (.ref a) (.ref b)) Q E s := eq_strs ha hb hi hj h1 h2 hu (by rw [decide_eq_false e]; exact h)
end
end Mine
end

section
open PySem PySem.W PyProof.Rows
namespace Mine
open LCg LCt

theorem strs_snoc {y : Str} {t : Tok} : ∀ {vs : List Value} {ys : List Str}, StrsAre vs ys → StrsAre (vs ++ [.str y t]) (ys ++ [y])
  | _, _, .nil => .cons y t .nil
  | _, _, .cons z u r => .cons z u (strs_snoc r)

/-- how the iterator over a text stands -/
def StrIt (I : Addr) (x : Str) (t : Tok) (i : Nat) (h : Heap) : Prop := ∃ ty, h.IsStrIter I ty x t i

section
variable {prog : Program} {w : World} {A : Around} {E : Value → Shared → Prop} {s : Shared} {h₀ : Heap} {L : Addr} {m : Str → Option Value} {news : List (Addr × Obj)}

theorem pyIter_strI {x : Str} {t : Tok} {Q : Value → Shared → Prop} (hh : A.handled = none)
    (hQ : ∀ (o : Obj) (ty : String), Walks prog w A s.heap.objs.size [s.heap.objs.size] [s.heap.objs.size] x.cps.size (SignAt x) (fun i h => h.IsStrIter s.heap.objs.size ty x t i) → (s.heap.push o).IsStrIter s.heap.objs.size ty x t 0 →
      Q (.ref s.heap.objs.size) { s with heap := s.heap.push o }) : wpAny (model prog w) A (pyIter (.str x t)) Q E s := by
  cases ha : x.cps.all (· < 128)
  · exact wpAny_pyIter_wide ha (hQ _ _ (Walks.strWide hh _ x t) ⟨_, Heap.get?_push_size _ rfl, rfl, rfl⟩)
  · exact wpAny_pyIter_ascii ha (hQ _ _ (Walks.strAscii hh _ x t) ⟨_, Heap.get?_push_size _ rfl, rfl, rfl⟩)

/-- the turns of [x for x in a text if test], the test walked in full -/
theorem strRest {env : Env} {ct : Expr} {x : Str} {pe : Pos} {scope : Scope} {cl : List (Str × Addr)} {s₂ : Shared} {text : Str} {Fin : List Value → List (Addr × Obj) → Prop} (p : Nat → Bool)
    (hx : scope.names.lookup x = some .local) (hkind : scope.kind = .function) (hdx : (x == ("__debug__" : Str)) = false)
    (turn : ∀ c u I oI C oC D m₂ ys h tk (E' : Value → Shared → Prop), c ∈ text.cps.toList → NsObj oC m₂ → m₂ x = some (.str (chS c) u) → Fr h₀ L h m → News h₀ L h ((I, oI) :: (C, oC) :: (D, lst ys) :: news) → Off3 I C D news → ((@Ne Nat I C) ∧ (@Ne Nat I D) ∧ (@Ne Nat C D)) →
      wpAny (model prog w) A (isTrue ct (compEnvC scope cl C env) (eval ct (compEnvC scope cl C env))) (fun ok s' => ∃ h' tk', s' = { s₂ with heap := h', toks := tk' } ∧ ok = p c ∧ Fr h₀ L h' m ∧ News h₀ L h' ((I, oI) :: (C, oC) :: (D, lst ys) :: news)) E' { s₂ with heap := h, toks := tk })
    (fin : ∀ ys, StrsAre ys ((text.cps.toList.filter p).map chS) → Fin ys news) :
    CompRestT prog w A h₀ L m env ct (.Name x pe) x scope cl s₂ (fun nw => nw = news) (SignAt text) Fin text.cps.size 0 [] news := by
  have key : ∀ (j i : Nat) (ys : List Value), i + j = text.cps.size → StrsAre ys (((text.cps.toList.take i).filter p).map chS) → CompRestT prog w A h₀ L m env ct (.Name x pe) x scope cl s₂ (fun nw => nw = news) (SignAt text) Fin j i ys news := by
    intro j
    induction j with
    | zero =>
      intro i ys hi hy
      refine CompRestT.zero (fin ys ?_)
      have e : i = text.cps.toList.length := by simp; omega
      rw [e, List.take_length] at hy
      exact hy
    | succ j ih =>
      intro i ys hi hy
      refine CompRestT.succ ?_
      rintro v I oI C oC D m₂ h tk E' ⟨c, u, hc, rfl⟩ hC hm F N off ne
      have hc' : text.cps.toList[i]? = some c := by rw [Array.getElem?_toList]; exact hc
      refine wpAny_mono (turn c u I oI C oC D m₂ ys h tk E' (List.mem_of_getElem? hc') hC hm F N off ne) (fun ok s' hq => ?_) fun _ _ e => e
      obtain ⟨h', tk', rfl, rfl, F', N'⟩ := hq
      cases hp : p c with
      | true =>
        simp only [if_true]
        have hn : h'.Ns C m₂ := hC.ns (N' _ (List.mem_cons_of_mem _ List.mem_cons_self)).1
        refine wpAny_Name (wpAny_loadName_local (by show (relabel scope _).kind = .function; simpa [relabel] using hkind) (lookup_relabel_local hx) hn hm ?_) hdx
        refine ⟨h', tk', news, rfl, F', N', off, rfl, ih (i + 1) _ (by omega) ?_⟩
        rw [List.take_add_one, hc', List.filter_append, List.map_append]
        simpa [hp] using strs_snoc (y := chS c) (t := u) hy
      | false =>
        simp only [Bool.false_eq_true, if_false]
        refine ⟨h', tk', news, rfl, F', N', off, rfl, ih (i + 1) _ (by omega) ?_⟩
        rw [List.take_add_one, hc', List.filter_append, List.map_append]
        simpa [hp] using hy
  exact key text.cps.size 0 [] (by omega) (by simp only [List.take_zero, List.filter_nil, List.map_nil]; exact .nil)

/-- [x for x in a text if test], stored under a name; the test may call -/
theorem strComp_assignT {name : Str} {sc : Scope} {fa : Addr} {cd : Value} {ct : Expr} {x y z : Str} {px pe pz py : Pos} {scope : Scope} {cl : List (Str × Addr)} {pos spos : Pos} {Q : Flow → Shared → Prop} {text : Str} {tt : Tok} (p : Nat → Bool)
    (hh : A.handled = none) (F : Fr h₀ L s.heap m) (N : News h₀ L s.heap news) (hz : m z = some (.str text tt))
    (turn : ∀ s₂ c u I oI C oC D m₂ ys h tk (E' : Value → Shared → Prop), (∃ g, s₂ = { s with heap := g }) → c ∈ text.cps.toList → NsObj oC m₂ → m₂ x = some (.str (chS c) u) → Fr h₀ L h m → News h₀ L h ((I, oI) :: (C, oC) :: (D, lst ys) :: news) → Off3 I C D news → ((@Ne Nat I C) ∧ (@Ne Nat I D) ∧ (@Ne Nat C D)) →
      wpAny (model prog w) A (isTrue ct (compEnvC scope cl C (envOf name sc L fa cd)) (eval ct (compEnvC scope cl C (envOf name sc L fa cd)))) (fun ok s' => ∃ h' tk', s' = { s₂ with heap := h', toks := tk' } ∧ ok = p c ∧ Fr h₀ L h' m ∧ News h₀ L h' ((I, oI) :: (C, oC) :: (D, lst ys) :: news)) E' { s₂ with heap := h, toks := tk })
    (hQ : ∀ D ys h' tk, Fr h₀ L h' (fun q => if q = y then some (.ref D) else m q) → News h₀ L h' ((D, lst ys) :: news) → Off1 D news → StrsAre ys ((text.cps.toList.filter p).map chS) → Q .next { s with heap := h', toks := tk })
    (hsw : swapsWith (.ListComp (.Name x pe) [⟨.Name x px, .Name z pz, [ct], 0⟩] scope pos) (some (.Name y py)) spos.line (envOf name sc L fa cd) = pure true)
    (hclos : closureFor scope (envOf name sc L fa cd) = pure cl) (hcell : ∀ z ∈ scope.names, z.2 ≠ .cell) (hkind : scope.kind = .function)
    (hnames : ∀ z ∈ scope.names, z.2 = .local → scope.names.lookup z.1 = some .local) (hx : scope.names.lookup x = some .local)
    (hy : (envOf name sc L fa cd).kindOf y = some .local) (hk : sc.kind = .function) (hzl : (envOf name sc L fa cd).kindOf z = some .local)
    (hdz : (z == ("__debug__" : Str)) = false) (hdx : (x == ("__debug__" : Str)) = false)
    (hs : ∀ v, foldedSetIterable (.Name z pz) (envOf name sc L fa cd) v = pure v)
    (hsz : text.cps.size ≤ sizeLine) :
    wpAny (model prog w) A (exec (.Assign [.Name y py] (.ListComp (.Name x pe) [⟨.Name x px, .Name z pz, [ct], 0⟩] scope pos) spos) (envOf name sc L fa cd)) Q E s := by
  have hp : ((envOf name sc L fa cd).scope.kind == .class || ((envOf name sc L fa cd).scope.kind == .module && (envOf name sc L fa cd).locals != (envOf name sc L fa cd).globals)) = false := by show (sc.kind == .class || (sc.kind == .module && L != mainGlobals)) = false; rw [hk]; rfl
  rw [exec_Assign_Name_used _ _ _ _ hsw]
  refine wpAny_bind (wpAny_standAt (wpAny_bind ?_))
  show wpAny _ A (do let _ ← comprehension (.ListComp (.Name x pe) [⟨.Name x px, .Name z pz, [ct], 0⟩] scope pos) scope (envOf name sc L fa cd) _ (newList []) false (eval (.Name z pz) (envOf name sc L fa cd)) (some (assign (.Name y py) (envOf name sc L fa cd)))) _ _ s
  refine wpAny_bind (wpAny_mono (wpAny_comprehension_free (use := some (assign (.Name y py) (envOf name sc L fa cd))) (Q := fun _ s' => Q .next s') rfl hs hclos hkind hnames
    (ld F hz ?_ hk hzl hdz)) (fun _ s' hq => wpAny_pure (wpAny_pure hq)) fun _ _ e => e)
  refine pyIter_strI hh fun o ty W hst => ?_
  have up : ∀ b o', s.heap.get? b = some o' → (s.heap.push o).get? b = some o' := fun b o' e => Heap.get?_push_of_some _ e
  refine block_T (S := fun nw => nw = news) (Fin := fun ys nw => nw = news ∧ StrsAre ys ((text.cps.toList.filter p).map chS)) W hsz (fun i h st => by obtain ⟨o, e, _⟩ := st; exact ⟨o, e⟩)
    (fun i h h' o nw st e e' _ _ _ => W.frame i h h' st (fun b hb o' eb => by rw [List.mem_singleton.mp hb] at eb ⊢; rw [e] at eb; cases eb; exact e'))
    hcell hkind hx hst (fun b hb => ?_) (F.keeps up) (N.grown up) (Nat.ne_of_lt F.ns.lt) (next_is_new F) (fun q hq => Nat.ne_of_lt (Heap.lt_size (N q hq).1)) rfl
    (strRest p hx hkind hdx (fun c u I oI C oC D m₂ ys h tk E' hc hC hm F' N' off ne => turn _ c u I oI C oC D m₂ ys h tk E' ⟨_, rfl⟩ hc hC hm F' N' off ne) fun ys hys => ⟨rfl, hys⟩) ?_
  · rw [List.mem_singleton.mp hb]
    show s.heap.objs.size < (s.heap.push o).objs.size
    rw [Heap.size_push]; exact Nat.lt_succ_self _
  · intro D C h' tk m' ys news' F' N' o1 hn hC₀ hD₀ hCL hDL hCD offC fin
    obtain ⟨rfl, hys⟩ := fin
    show wpAny _ A (assign (.Name y py) (envOf name sc L fa cd) (.ref D)) _ _ _
    refine wpAny_assign_Name (wpAny_storeName_local hy F'.ns (fun h₂ hn₂ hs₂ => ?_) hp)
    have hL₀ : h₀.get? L = none := Heap.get?_none_of_le F'.above
    have F₂ : Fr h₀ L h₂ (fun q => if q = y then some (.ref D) else m q) := ⟨hn₂, fun b o e => hs₂.extBut b o (fun q => by have q' : b = L := q; rw [q', hL₀] at e; cases e) (F'.keep b o e), F'.above⟩
    refine ⟨m', hn.sameBut hs₂ hCL, fun h'' hs'' => hQ D ys h'' _ (F₂.change hs'' hCL hC₀) (fun q hq => ?_) o1 hys⟩
    have zz : h₂.get? q.1 = some q.2 := hs₂.extBut _ _ (N' q hq).2.1 (N' q hq).1
    refine ⟨hs''.extBut _ _ ?_ zz, (N' q hq).2⟩
    rcases List.mem_cons.mp hq with rfl | hq
    · exact Ne.symm hCD
    · exact offC q hq
end
end Mine
end

section
open PySem PySem.W PyProof.Rows
namespace Mine
def w8 (c : Nat) : Bool := [32, 9, 10, 13, 11, 12, 28, 31].contains c
def jk (cs : List Nat) : Bool := cs.all (fun c => c == 35 || w8 c) && decide (cs.count 35 < 2)

def JkP (cs : List Nat) (i : Nat) (c : Int × Tok) : Prop := c.1 = ((cs.take i).count 35 : Nat) ∧ ∀ n ∈ cs.take i, n = 35 ∨ w8 n = true

theorem jkP_zero (cs : List Nat) (t : Tok) : JkP cs 0 (0, t) := ⟨by simp, by simp⟩
theorem jkP_hash {cs : List Nat} {i : Nat} {mk : Int} {t t' : Tok} (h : JkP cs i (mk, t)) (hc : cs[i]? = some 35) : JkP cs (i + 1) (mk + 1, t') := by
  obtain ⟨h1, h2⟩ := h
  simp only at h1
  refine ⟨?_, ?_⟩
  · rw [List.take_add_one, hc, List.count_append, h1]; simp
  · intro n hn
    rw [List.take_add_one, hc] at hn
    rcases List.mem_append.mp hn with hn | hn
    · exact h2 n hn
    · simp at hn; exact .inl hn
theorem jkP_white {cs : List Nat} {i c : Nat} {mk : Int} {t t' : Tok} (h : JkP cs i (mk, t)) (hc : cs[i]? = some c) (h35 : c ≠ 35) (hw : w8 c = true) : JkP cs (i + 1) (mk, t') := by
  obtain ⟨h1, h2⟩ := h
  simp only at h1
  refine ⟨?_, ?_⟩
  · rw [List.take_add_one, hc, List.count_append, h1]
    have : ([c].count 35 : Nat) = 0 := by simp [List.count_cons, h35]
    simp [h35]
  · intro n hn
    rw [List.take_add_one, hc] at hn
    rcases List.mem_append.mp hn with hn | hn
    · exact h2 n hn
    · simp at hn; subst hn; exact .inr hw
theorem jk_done {cs : List Nat} {mk : Int} {t : Tok} (h : JkP cs cs.length (mk, t)) : decide (mk < 2) = jk cs := by
  obtain ⟨h1, h2⟩ := h
  rw [List.take_length] at h1 h2
  simp only at h1
  have ha : cs.all (fun c => c == 35 || w8 c) = true := by
    rw [List.all_eq_true]
    intro c hc
    rcases h2 c hc with e | e <;> simp [e]
  unfold jk
  rw [ha, Bool.true_and]
  congr 1
  rw [h1]
  exact propext ⟨fun h => by omega, fun h => by omega⟩
theorem jk_out {cs : List Nat} {i c : Nat} (hc : cs[i]? = some c) (h35 : c ≠ 35) (hw : w8 c = false) : jk cs = false := by
  unfold jk
  have : cs.all (fun c => c == 35 || w8 c) = false := by
    rw [Bool.eq_false_iff]
    intro h
    rw [List.all_eq_true] at h
    have := h c (List.mem_of_getElem? hc)
    simp [h35, hw] at this
  rw [this]; rfl

abbrev l8 : List Str := [Str.ofString " ", Str.ofString "\t", Str.ofString "\n", Str.ofString "\x0d", Str.ofString "\x0b", Str.ofString "\x0c", Str.ofString "\x1c", Str.ofString "\x1f"]
theorem l8_any (c : Nat) : (l8.any fun x => x == chS c) = w8 c := by
  have e : l8 = [chS 32, chS 9, chS 10, chS 13, chS 11, chS 12, chS 28, chS 31] := by decide +kernel
  rw [e]
  have key : ∀ a : Nat, (chS a == chS c) = (a == c) := fun a => by
    rw [Bool.eq_iff_iff]
    simp
  simp only [List.any_cons, List.any_nil, key, w8, List.contains_cons, List.contains_nil]
  simp only [Bool.or_false]
  have sw : ∀ a : Nat, (a == c) = (c == a) := fun a => by rw [Bool.eq_iff_iff]; simp; exact eq_comm
  simp only [sw]

theorem ch_hash (c : Nat) : (chS c == Str.ofString "#") = (c == 35) := by
  rw [show Str.ofString "#" = chS 35 from by decide +kernel, Bool.eq_iff_iff]; simp

theorem strs_at : ∀ {vs : List Value} {cs : List Nat}, StrsAre vs (cs.map chS) → ∀ (i : Nat) (v : Value), vs[i]? = some v → ∃ c t, cs[i]? = some c ∧ v = Value.str (chS c) t
  | [], _, _, i, v, h => by simp at h
  | _ :: _, [], h, _, _, _ => by cases h
  | a :: vs, c :: cs, h, i, v, hv => by
    cases h with
    | cons y t r =>
      cases i with
      | zero => simp only [List.getElem?_cons_zero, Option.some.injEq] at hv ⊢; exact ⟨c, t, rfl, hv.symm⟩
      | succ i => simp only [List.getElem?_cons_succ] at hv ⊢; exact strs_at r i v hv

section
variable {prog : Program} {w : World} {A : Around} {E : Value → Shared → Prop} {s : Shared} {env : Env} {h₀ : Heap} {x : Str} {body : List Stmt} {Q : Flow → Shared → Prop}
theorem str_loopK {σ : Type} {xt : Str} {tx : Tok} {m₀ : Str → Option Value}
    (Led : σ → List (Addr × Obj)) (ps : σ → List (Str × Value)) (Facts : σ → Prop) (stored : List Str) (P : Nat → σ → Prop) (c₀ : σ)
    (hh : A.handled = none)
    (F : Fr h₀ env.locals s.heap m₀) (N : News h₀ env.locals s.heap (Led c₀)) (hf : Facts c₀) (hk : ∀ p ∈ ps c₀, m₀ p.1 = some p.2) (hp : P 0 c₀)
    (turn : ∀ (c : σ) (i : Nat) (v : Value) (u : Str → Option Value) h tk own, i < xt.cps.size → SignAt xt i v → Facts c → P i c →
      Fr h₀ env.locals h (fun y => if y = x then some v else kstB (fun z => if stored.contains z then u z else m₀ z) (ps c) y) → News h₀ env.locals h (Led c ++ own) →
      wpAny (model prog w) A (execs body env) (InvPostN h₀ env.locals (KstS Led ps Facts x stored m₀ (fun pre c => P pre.length c) (rangeKs 0 (i + 1))) own ((Led c₀).map (·.1)) { s with heap := h, toks := tk } Q) E { s with heap := h, toks := tk })
    (done : ∀ (c : σ) (u : Str → Option Value) h tk, Facts c → P xt.cps.size c → Fr h₀ env.locals h (fun y => if y = x then u y else kstB (fun z => if stored.contains z then u z else m₀ z) (ps c) y) → News h₀ env.locals h (Led c) → Q .next { s with heap := h, toks := tk }) :
    wpAny (model prog w) A (pyIter (.str xt tx)) (fun it s₂ => LoopAtV prog w A h₀ env x body Q E it s₂) E s := by
  refine wpAny_pyIter_str fun o St hW hst => ?_
  refine loop_sK Led ps Facts stored P c₀ (hW A hh) ?_ ?_ ?_ hst (F.push _) (fun p hp => ⟨Heap.get?_push_of_some _ (N p hp).1, (N p hp).2⟩) hf hk hp turn done
  · intro hm
    exact absurd F.ns.lt (List.mem_singleton.mp hm ▸ Nat.lt_irrefl _)
  · intro b hb
    rw [List.mem_singleton.mp hb]
    exact next_is_new F
  · intro p hp hI
    exact absurd (Heap.lt_size (N p hp).1) (List.mem_singleton.mp hI ▸ Nat.lt_irrefl _)
end

/-- the eight white signs of law 03, as a text -/
def ws8 : Str := Str.ofString " \t\n\x0d\x0b\x0c\x1c\x1f"
abbrev left8 (x : Str) : List Nat := x.cps.toList.filter (fun c => !Txt.contains ws8 (chS c))
def j8 (x : Str) : Bool := decide (left8 x = []) || decide (left8 x = [35])
structure Text3 (x : Str) : Prop where
  len : x.length ≤ 1000
  ok : ∀ c ∈ x.cps.toList, c < 127
theorem left8_ok {x : Str} (h : Text3 x) : ∀ y ∈ (left8 x).map chS, PyData.strOk y = true := by
  intro y hy
  obtain ⟨c, hc, rfl⟩ := List.mem_map.mp hy
  have := h.ok c (List.mem_filter.mp hc).1
  show (#[c] : Array Nat).all (· < 0x110000) = true
  have hlt : c < 0x110000 := by omega
  simp [hlt]
theorem left8_cases (x : Str) : ((left8 x).map chS = [] ∧ j8 x = true) ∨ ((left8 x).map chS ≠ [] ∧ (left8 x).map chS = [Str.ofString "#"] ∧ j8 x = true) ∨ ((left8 x).map chS ≠ [] ∧ (left8 x).map chS ≠ [Str.ofString "#"] ∧ j8 x = false) := by
  unfold j8
  by_cases h1 : left8 x = []
  · left; rw [h1]; exact ⟨rfl, rfl⟩
  · right
    have h1' : (left8 x).map chS ≠ [] := fun e => h1 (by simpa using e)
    by_cases h2 : left8 x = [35]
    · left; exact ⟨h1', by rw [h2]; exact hash_eq.symm, by rw [decide_eq_false h1, decide_eq_true h2]; rfl⟩
    · right; exact ⟨h1', fun e => h2 (by rw [hash_eq] at e; exact chS_inj e), by rw [decide_eq_false h1, decide_eq_false h2]; rfl⟩
section
variable {prog : Program} {w : World} {A : Around} {E : Value → Shared → Prop} {s : Shared} {a b : Addr} {xs ys : List Value} {ns ms : List Str} {Q : Value → Shared → Prop}
theorem ne_strs_f (e : ns = ms) (ha : s.heap.IsList a xs.toArray) (hb : s.heap.IsList b ys.toArray) (hi : StrsAre xs ns) (hj : StrsAre ys ms) (h1 : ∀ x ∈ ns, PyData.strOk x = true) (h2 : ∀ x ∈ ms, PyData.strOk x = true) (hu : A.units + 64 < cLine) (h : Q (.bool false) s) :
    wpAny (model prog w) A (compareOp .NotEq (.ref a) (.ref b)) Q E s := ne_strs ha hb hi hj h1 h2 hu (by rw [decide_eq_true e]; exact h)
theorem ne_strs_t (e : ns ≠ ms) (ha : s.heap.IsList a xs.toArray) (hb : s.heap.IsList b ys.toArray) (hi : StrsAre xs ns) (hj : StrsAre ys ms) (h1 : ∀ x ∈ ns, PyData.strOk x = true) (h2 : ∀ x ∈ ms, PyData.strOk x = true) (hu : A.units + 64 < cLine) (h : Q (.bool true) s) :
    wpAny (model prog w) A (compareOp .NotEq (.ref a) (.ref b)) Q E s := ne_strs ha hb hi hj h1 h2 hu (by rw [decide_eq_false e]; exact h)
end
end Mine
end

section
open PySem PySem.W PyProof.Rows
set_option maxRecDepth 100000
set_option maxHeartbeats 8000000
open_top Mine.hd for PySem.Challenge.rw_dm0047_03
end

section
open PySem PySem.W PyProof.Rows Mine
set_option maxRecDepth 100000
set_option maxHeartbeats 8000000
namespace Mine
abbrev Ctr3 (w : World) (mean : ExcName → Option Value) (mg mb : Str → Option Value) (f : Addr) (news : List (Addr × Obj)) (vs : List Value) (R : Tok → Value) : Prop :=
  ∀ (p : Program) (loose : List Str) (dp un : Nat) (gd : Option (List Code)) (cn : Str) (cs : Scope) (a : Addr) (ccd : Value) (cl : List (Str × Addr)) (outer : List Env) (A₀ : Around) (base h₀ : Heap) (L : Addr) (m : Str → Option Value) (s : Shared) (Q E : Value → Shared → Prop),
    Below A₀ base outer h₀ → Fr h₀ L s.heap m → (hd.heap_39 w.params).In h₀ → News h₀ L s.heap news → Top p loose mean mg mb h₀ → cs.kind = .function →
    dp + 9 < recursionLimit → un + 99 < cLine → CbRet h₀ L m news s Q R →
      wpAny (model PySem.Challenge.rw_dm0047_03.row.prog w) (ktrTop dp un gd cn cs L a ccd cl outer) (call (.ref f) vs) Q E s
end Mine
local macro_rules | `(tactic| k_room) => `(tactic| first | ((try simp only [depth_mark, depth_under_make, depth_under_kw, depth_in1, depth_deeper, depth_caller]); decide) | ((try simp only [depth_mark, depth_under_make, depth_under_kw, depth_in1, depth_deeper, depth_caller]); (try dsimp only); omega))
local macro_rules | `(tactic| k_units) => `(tactic| first | exact Nat.le_of_ble_eq_true rfl | ((try simp only [units_in1, units_deeper, Around.mark_units, units_caller]); (try dsimp only); omega))
local macro_rules | `(tactic| walk_at "InvEndN") => `(tactic| (refine stop_in ?_))
local macro_rules | `(tactic| walk_at "exec For Name Name cons nil") => `(tactic| (k_here; refine stop_in ?_))
theorem Mine.junk_str {w : World} {mean : ExcName → Option Value} {mg mb : Str → Option Value} (x : Str) (t : Tok) (news : List (Addr × Obj)) : Ctr3 w mean mg mb 60 news [.str x t] (fun _ => .bool (jk x.cps.toList)) := by
  dsimp only [Ctr3, CbRet]
  k_fill
  intros
  rename_i hret
  refine wpAny_call ?_
  k_dflt (refine' code_def ?k1 ?k2 ?k3 ?k4 ?k5 ?kA ?kF ?kK ?k6 ?k7 ?k8 ?k9 ?kB ?_ ?c2 ?c3 ?c4 ?c5; (case kA => exact rfl); (case kF => exact rfl); (case kK => assumption); (case k1 => k_asm); (case k2 => k_asm); (case k3 => k_asm); (case k4 => k_asm); (case k5 => k_asm); (case k6 => k_is); (case k7 => k_is); (case k8 => k_room); (case k9 => exact BindsTo.of_eq rfl); (case c5 => decide); (case kB => exact locs rfl); (case c2 => exact rfl); (case c3 => exact rfl); (case c4 => exact rfl); k_whole; intro g' L' h' FG' F' N' B' X' T'; (try dsimp only); (try k_lift B'); (try k_fold))
  k_steps
  refine stop_out ?_
  rename Fr _ _ _ _ => lF
  rename News _ _ _ _ => lN
  (with_unfolding_all refine' For_invVF lF ?k1 ?k2 ?_)
  case k1 => exact rfl
  case k2 => exact rfl
  refine ld lF (by rfl) ?_
  (with_unfolding_all refine' str_loopK (σ := Int × Tok) (fun _ => news) (fun c => [(Str.ofString "marks", .int c.1 c.2)]) (fun _ => True) [] (JkP x.cps.toList) ((0, _) : Int × Tok) (by rfl) lF lN trivial ?hk (jkP_zero _ _) ?turn ?done)
  case hk => exact fun p hp => by rw [List.mem_singleton.mp hp]; rfl
  case done =>
    clear lF lN
    rintro ⟨mk, tmk⟩ u h tk _ hP F' N'
    (try k_fold)
    have hjk := jk_done (mk := mk) (t := tmk) (by rw [Array.length_toList]; exact hP)
    k_steps
    rw [hjk]
    exact hret 0 _ _ (by assumption) (by assumption)
  case turn =>
    clear lF lN
    rintro ⟨mk, tmk⟩ i v u h tk own hi ⟨c, tc, hc, rfl⟩ _ hP F' N'
    rw [← Array.getElem?_toList] at hc
    (try k_fold)
    by_cases h35 : c = 35
    · subst h35
      k_steps
      refine stop_out ?_
      rename Fr _ _ _ _ => lF
      rename News _ _ _ _ => lN
      refine kst_end ((mk + 1, _) : Int × Tok) lF lN (fun p hp => by simp [hp]) (fun p hp => by simp [hp]) rfl trivial (fun p hp => by rw [List.mem_singleton.mp hp]; rfl) ?_ (by rw [rangeKs_length]; exact jkP_hash hP hc)
      intro z h1 h2 _
      have h2' := h2 _ (List.mem_singleton.mpr rfl)
      simp [kstB, h1, h2']
    · have hs : (({ cps := #[c] } : Str) == Str.ofString "#") = false := by rw [ch_hash c]; simp [h35]
      have hany := l8_any c
      k_steps
      · refine stop_out ?_
        rename Fr _ _ _ _ => lF
        rename News _ _ _ _ => lN
        rename List.any _ _ = true => ha
        have hw : w8 c = true := hany.symm.trans ha
        refine kst_end ((mk, tmk) : Int × Tok) lF lN (fun p hp => by simp [hp]) (fun p hp => by simp [hp]) rfl trivial (fun p hp => by rw [List.mem_singleton.mp hp]; rfl) ?_ (by rw [rangeKs_length]; exact jkP_white hP hc h35 hw)
        intro z h1 h2 _
        have h2' := h2 _ (List.mem_singleton.mpr rfl)
        simp [kstB, h1, h2']
      · rename List.any _ _ = false => ha
        have hw : w8 c = false := hany.symm.trans ha
        rw [← jk_out hc h35 hw]
        rename News _ _ _ _ => lN
        exact hret 0 _ _ (by assumption) (fun p hp => lN p (by simp [hp]))
theorem Mine.junk_tup {w : World} {mean : ExcName → Option Value} {mg mb : Str → Option Value} (cs : List Nat) (T : Addr) (n : Nat) (vs : List Value) (news : List (Addr × Obj)) (hT : (T, ({ cls := .type "tuple", data := .seq vs.toArray n } : Obj)) ∈ news) (hvs : StrsAre vs (cs.map chS)) : Ctr3 w mean mg mb 60 news [.ref T] (fun _ => .bool (jk cs)) := by
  dsimp only [Ctr3, CbRet]
  k_fill
  intros
  rename_i hret
  refine wpAny_call ?_
  k_dflt (refine' code_def ?k1 ?k2 ?k3 ?k4 ?k5 ?kA ?kF ?kK ?k6 ?k7 ?k8 ?k9 ?kB ?_ ?c2 ?c3 ?c4 ?c5; (case kA => exact rfl); (case kF => exact rfl); (case kK => assumption); (case k1 => k_asm); (case k2 => k_asm); (case k3 => k_asm); (case k4 => k_asm); (case k5 => k_asm); (case k6 => k_is); (case k7 => k_is); (case k8 => k_room); (case k9 => exact BindsTo.of_eq rfl); (case c5 => decide); (case kB => exact locs rfl); (case c2 => exact rfl); (case c3 => exact rfl); (case c4 => exact rfl); k_whole; intro g' L' h' FG' F' N' B' X' T'; (try dsimp only); (try k_lift B'); (try k_fold))
  k_steps
  refine stop_out ?_
  rename Fr _ _ _ _ => lF
  rename News _ _ _ _ => lN
  (with_unfolding_all refine' For_invVF lF ?k1 ?k2 ?_)
  case k1 => exact rfl
  case k2 => exact rfl
  refine ld lF (by rfl) ?_
  (with_unfolding_all refine' tup_loopK (σ := Int × Tok) (fun _ => news) (fun c => [(Str.ofString "marks", .int c.1 c.2)]) (fun _ => True) [] (JkP cs) ((0, _) : Int × Tok) (by rfl) (News.isTup lN hT) (lN _ hT).2.1 lF lN trivial ?hk (jkP_zero _ _) ?turn ?done)
  case hk => exact fun p hp => by rw [List.mem_singleton.mp hp]; rfl
  case done =>
    clear lF lN
    rintro ⟨mk, tmk⟩ u h tk _ hP F' N'
    (try k_fold)
    have e : cs.length = vs.length := by rw [hvs.length, List.length_map]
    have hjk := jk_done (mk := mk) (t := tmk) (by rw [e]; exact hP)
    k_steps
    rw [hjk]
    exact hret 0 _ _ (by assumption) (by assumption)
  case turn =>
    clear lF lN
    rintro ⟨mk, tmk⟩ i v u h tk own hi hv _ hP F' N'
    obtain ⟨c, tc, hc, rfl⟩ := strs_at hvs i v (by simpa using hv)
    (try k_fold)
    by_cases h35 : c = 35
    · subst h35
      k_steps
      refine stop_out ?_
      rename Fr _ _ _ _ => lF
      rename News _ _ _ _ => lN
      refine kst_end ((mk + 1, _) : Int × Tok) lF lN (fun p hp => by simp [hp]) (fun p hp => by simp [hp]) rfl trivial (fun p hp => by rw [List.mem_singleton.mp hp]; rfl) ?_ (by rw [rangeKs_length]; exact jkP_hash hP hc)
      intro z h1 h2 _
      have h2' := h2 _ (List.mem_singleton.mpr rfl)
      simp [kstB, h1, h2']
    · have hs : (({ cps := #[c] } : Str) == Str.ofString "#") = false := by rw [ch_hash c]; simp [h35]
      have hany := l8_any c
      k_steps
      · refine stop_out ?_
        rename Fr _ _ _ _ => lF
        rename News _ _ _ _ => lN
        rename List.any _ _ = true => ha
        have hw : w8 c = true := hany.symm.trans ha
        refine kst_end ((mk, tmk) : Int × Tok) lF lN (fun p hp => by simp [hp]) (fun p hp => by simp [hp]) rfl trivial (fun p hp => by rw [List.mem_singleton.mp hp]; rfl) ?_ (by rw [rangeKs_length]; exact jkP_white hP hc h35 hw)
        intro z h1 h2 _
        have h2' := h2 _ (List.mem_singleton.mpr rfl)
        simp [kstB, h1, h2']
      · rename List.any _ _ = false => ha
        have hw : w8 c = false := hany.symm.trans ha
        rw [← jk_out hc h35 hw]
        rename News _ _ _ _ => lN
        exact hret 0 _ _ (by assumption) (fun p hp => lN p (by simp [hp]))
end

section
open PySem PySem.W PyProof.Rows Mine
set_option maxRecDepth 100000
set_option maxHeartbeats 8000000
local macro_rules | `(tactic| walk_at "exec Assign cons ListComp") => `(tactic| (k_here; refine stop_in ?_))
local macro_rules | `(tactic| walk_at "compareOp NotEq ref ref") => `(tactic| (k_here; refine stop_in ?_))
local macro_rules | `(tactic| k_room) => `(tactic| first | ((try simp only [depth_mark, depth_under_make, depth_under_kw, depth_in1, depth_deeper, depth_caller]); decide) | ((try simp only [depth_mark, depth_under_make, depth_under_kw, depth_in1, depth_deeper, depth_caller]); (try dsimp only); omega))
local macro_rules | `(tactic| k_units) => `(tactic| first | exact Nat.le_of_ble_eq_true rfl | ((try simp only [units_in1, units_deeper, Around.mark_units, units_caller]); (try dsimp only); omega))
theorem Mine.seen_str {w : World} {mean : ExcName → Option Value} {mg mb : Str → Option Value} (x : Str) (t : Tok) (hx : Text3 x) (news : List (Addr × Obj)) : Ctr3 w mean mg mb 45 news [.str x t, .ref 72] (fun _ => .bool (j8 x)) := by
  dsimp only [Ctr3, CbRet]
  k_fill
  intros
  rename_i hret
  have hlen := Text3.len hx
  refine wpAny_call ?_
  k_dflt (refine' code_def ?k1 ?k2 ?k3 ?k4 ?k5 ?kA ?kF ?kK ?k6 ?k7 ?k8 ?k9 ?kB ?_ ?c2 ?c3 ?c4 ?c5; (case kA => exact rfl); (case kF => exact rfl); (case kK => assumption); (case k1 => k_asm); (case k2 => k_asm); (case k3 => k_asm); (case k4 => k_asm); (case k5 => k_asm); (case k6 => k_is); (case k7 => k_is); (case k8 => k_room); (case k9 => exact binds_K (by k_in) rfl (by k_is) rfl rfl rfl); (case c5 => decide); (case kB => exact locs rfl); (case c2 => exact rfl); (case c3 => exact rfl); (case c4 => exact rfl); k_whole; intro g' L' h' FG' F' N' B' X' T'; (try dsimp only); (try k_lift B'); (try k_fold))
  k_steps
  refine stop_out ?_
  rename Fr _ _ _ _ => lF
  rename News _ _ _ _ => lN
  k_dflt (refine' strComp_assignT (fun c => !Txt.contains ws8 (chS c)) (by rfl) lF lN (by rfl) ?test ?go (by with_unfolding_all rfl) (by with_unfolding_all rfl) (by decide) (by rfl) (by decide) (by rfl) (by rfl) (by rfl) (by rfl) (by decide) (by decide) (by intro _; rfl) (Nat.le_trans hlen (by decide)))
  case test =>
    clear lF lN
    rintro s₂ c u I oI C oC D m₂ ys h tk E' ⟨g, rfl⟩ hc hC hm F' N' off ne
    (try k_fold)
    k_steps
    all_goals assumption
  case go =>
    clear lF lN
    intro D ys h' tk F' N' off hS
    (try k_fold)
    have hro := left8_ok hx
    rcases left8_cases x with ⟨e1, hj⟩ | ⟨e1, e2, hj⟩ | ⟨e1, e2, hj⟩
    · k_steps
      refine stop_out ?_
      rename News _ _ _ _ => lN
      refine' ne_strs_f e1 ?ha1 ?hb1 ?hi1 ?hj1 ?ho1 ?ho2 ?hu1 ?_
      (case ha1 => exact News.isList lN (by k_mem)); (case hb1 => exact News.isList lN (by k_mem)); (case hi1 => assumption); (case hj1 => exact .nil); (case ho1 => assumption); (case ho2 => decide +kernel); (case hu1 => k_units)
      k_steps
      rename News _ _ _ _ => lN
      rw [← hj]
      exact hret 0 _ _ (by assumption) (fun p hp => lN p (by simp [hp]))
    · k_steps
      refine stop_out ?_
      rename News _ _ _ _ => lN
      refine' ne_strs_t e1 ?ha1 ?hb1 ?hi1 ?hj1 ?ho1 ?ho2 ?hu1 ?_
      (case ha1 => exact News.isList lN (by k_mem)); (case hb1 => exact News.isList lN (by k_mem)); (case hi1 => assumption); (case hj1 => exact .nil); (case ho1 => assumption); (case ho2 => decide +kernel); (case hu1 => k_units)
      k_steps
      refine stop_out ?_
      rename News _ _ _ _ => lN
      refine' ne_strs_f e2 ?ha1 ?hb1 ?hi1 ?hj1 ?ho1 ?ho2 ?hu1 ?_
      (case ha1 => exact News.isList lN (by k_mem)); (case hb1 => exact News.isList lN (by k_mem)); (case hi1 => assumption); (case hj1 => exact .cons _ _ .nil); (case ho1 => assumption); (case ho2 => decide +kernel); (case hu1 => k_units)
      k_steps
      rename News _ _ _ _ => lN
      rw [← hj]
      exact hret 0 _ _ (by assumption) (fun p hp => lN p (by simp [hp]))
    · k_steps
      refine stop_out ?_
      rename News _ _ _ _ => lN
      refine' ne_strs_t e1 ?ha1 ?hb1 ?hi1 ?hj1 ?ho1 ?ho2 ?hu1 ?_
      (case ha1 => exact News.isList lN (by k_mem)); (case hb1 => exact News.isList lN (by k_mem)); (case hi1 => assumption); (case hj1 => exact .nil); (case ho1 => assumption); (case ho2 => decide +kernel); (case hu1 => k_units)
      k_steps
      refine stop_out ?_
      rename News _ _ _ _ => lN
      refine' ne_strs_t e2 ?ha1 ?hb1 ?hi1 ?hj1 ?ho1 ?ho2 ?hu1 ?_
      (case ha1 => exact News.isList lN (by k_mem)); (case hb1 => exact News.isList lN (by k_mem)); (case hi1 => assumption); (case hj1 => exact .cons _ _ .nil); (case ho1 => assumption); (case ho2 => decide +kernel); (case hu1 => k_units)
      k_steps
      rename News _ _ _ _ => lN
      rw [← hj]
      exact hret 0 _ _ (by assumption) (fun p hp => lN p (by simp [hp]))
end

section
open PySem PySem.W PyProof.Rows
namespace Mine
/-- the signs of law 03 -/
def abc3 : List Nat := [35, 32, 9, 10, 13, 11, 12, 97, 28, 31, 33]
structure Line3 (n : Nat) (x : Str) : Prop where
  len : x.length ≤ n
  ok : ∀ c ∈ x.cps.toList, c ∈ abc3
theorem Line3.text {n : Nat} {x : Str} (h : Line3 n x) (hn : n ≤ 1000) : Text3 x where
  len := Nat.le_trans h.len hn
  ok := fun c hc => by
    have : ∀ c ∈ abc3, c < 127 := by decide
    exact this c (h.ok c hc)
theorem abc3_ws : ∀ c ∈ abc3, Txt.contains ws8 (chS c) = w8 c ∧ Unicode.isSpace c = w8 c := by decide +kernel

theorem jk_filter (cs : List Nat) : jk cs = (decide (cs.filter (fun c => !w8 c) = []) || decide (cs.filter (fun c => !w8 c) = [35])) := by
  have hcount : cs.count 35 = (cs.filter (fun c => !w8 c)).count 35 := by
    rw [List.count_filter]; decide
  rw [Bool.eq_iff_iff]
  unfold jk
  simp only [Bool.and_eq_true, List.all_eq_true, Bool.or_eq_true, beq_iff_eq, decide_eq_true_eq]
  rw [hcount]
  constructor
  · rintro ⟨h1, h2⟩
    have hall : ∀ c ∈ cs.filter (fun c => !w8 c), c = 35 := by
      intro c hc
      obtain ⟨hm, hw⟩ := List.mem_filter.mp hc
      rcases h1 c hm with e | e
      · exact e
      · simp [e] at hw
    generalize cs.filter (fun c => !w8 c) = l at hall h2
    match l, hall, h2 with
    | [], _, _ => left; rfl
    | [a], hall, _ => right; rw [hall a List.mem_cons_self]
    | a :: b :: r, hall, h2 =>
      exfalso
      rw [hall a List.mem_cons_self, hall b (List.mem_cons_of_mem _ List.mem_cons_self)] at h2
      simp only [List.count_cons_self] at h2
      omega
  · intro h
    have hmem : ∀ c ∈ cs, c = 35 ∨ w8 c = true := by
      intro c hc
      cases hw : w8 c with
      | true => exact .inr rfl
      | false =>
        left
        have : c ∈ cs.filter (fun c => !w8 c) := List.mem_filter.mpr ⟨hc, by simp [hw]⟩
        rcases h with e | e
        · rw [e] at this; cases this
        · rw [e] at this; simpa using this
    refine ⟨hmem, ?_⟩
    rcases h with e | e <;> rw [e] <;> decide

theorem j8_eq {n : Nat} {x : Str} (h : Line3 n x) : j8 x = jk x.cps.toList := by
  rw [jk_filter]
  unfold j8 left8
  rw [List.filter_congr (q := fun c => !w8 c) fun c hc => by rw [(abc3_ws c (h.ok c hc)).1]]
theorem junkL_eq {n : Nat} {x : Str} (h : Line3 n x) : junkL x.cps.toList = jk x.cps.toList := by
  rw [jk_filter]
  unfold junkL
  rw [List.filter_congr (q := fun c => !w8 c) fun c hc => by rw [(abc3_ws c (h.ok c hc)).2]]
end Mine
end

section
open PySem PySem.W PyProof.Rows Mine
set_option maxRecDepth 100000
set_option maxHeartbeats 8000000
local macro_rules | `(tactic| k_room) => `(tactic| first | ((try simp only [depth_mark, depth_under_make, depth_under_kw, depth_in1, depth_deeper, depth_caller]); decide) | ((try simp only [depth_mark, depth_under_make, depth_under_kw, depth_in1, depth_deeper, depth_caller]); (try dsimp only); omega))
local macro_rules | `(tactic| k_units) => `(tactic| first | exact Nat.le_of_ble_eq_true rfl | ((try simp only [units_in1, units_deeper, Around.mark_units, units_caller]); (try dsimp only); omega))
theorem Mine.rx_of3 {P : Params} {h : Heap} (X : (hd.heap_39 P).In h) : RxAt h := ⟨X 37 _ rfl, ⟨_, _, X 36 _ rfl⟩, X 35 _ rfl⟩
local macro_rules | `(tactic| walk_at "callWith") => `(tactic| (k_here; (with_reducible show wpAny _ _ (callWith _ (Value.ref 37) [] _ []) _ _ _); k_dflt (refine' callWith_rx ?R ?F ?N ?hy ?len ?no ?yes (by rfl) (by rfl) (by decide); (case R => exact rx_of3 (by assumption)); (case F => k_asm); (case N => k_asm); (case hy => rfl); (case len => omega); (case' no => (intro hj9)); (case' yes => (intro hj9 a9 h9 F9 N9)))))
theorem Mine.plain_str {w : World} {mean : ExcName → Option Value} {mg mb : Str → Option Value} (x : Str) (t : Tok) (hx : Text3 x) (news : List (Addr × Obj)) : Ctr3 w mean mg mb 45 news [.str x t] (fun _ => .bool (junkL x.cps.toList)) := by
  dsimp only [Ctr3, CbRet]
  k_fill
  intros
  rename_i hret
  have hlen := Text3.len hx
  refine wpAny_call ?_
  k_dflt (refine' code_def ?k1 ?k2 ?k3 ?k4 ?k5 ?kA ?kF ?kK ?k6 ?k7 ?k8 ?k9 ?kB ?_ ?c2 ?c3 ?c4 ?c5; (case kA => exact rfl); (case kF => exact rfl); (case kK => assumption); (case k1 => k_asm); (case k2 => k_asm); (case k3 => k_asm); (case k4 => k_asm); (case k5 => k_asm); (case k6 => k_is); (case k7 => k_is); (case k8 => k_room); (case k9 => exact binds_K (by k_in) rfl (by k_is) rfl rfl rfl); (case c5 => decide); (case kB => exact locs rfl); (case c2 => exact rfl); (case c3 => exact rfl); (case c4 => exact rfl); k_whole; intro g' L' h' FG' F' N' B' X' T'; (try dsimp only); (try k_lift B'); (try k_fold))
  k_steps
  all_goals (rename junkL _ = _ => hj; rename News _ _ _ _ => lN; rw [hj] at hret; exact hret 0 _ _ (by assumption) (fun p hp => lN p (by simp [hp])))
end

section
open PySem PySem.W PySem.Calls PyProof.Rows
namespace Mine
section
variable {prog : Program} {w : World} {A : Around} {E : Value → Shared → Prop} {s : Shared} {h₀ : Heap} {L D : Addr} {m : Str → Option Value} {news news' : List (Addr × Obj)}
theorem setLast {l : Addr} {items : Array Value} {n : Nat} {t : Tok} {v : Value} {Q : Unit → Shared → Prop} (ho : s.heap.get? l = some (W.listOf items n)) (hn : 0 < items.size) (hsz : items.size ≤ sizeLine)
    (hQ : Q () { s with heap := s.heap.update l (Obj.mapSeq (·.setIfInBounds (items.size - 1) v)) }) : wpAny (model prog w) A (setItem (.ref l) (.int (-1) t) v) Q E s := by
  have hl : s.heap.IsList l items := ⟨_, ho, rfl, n, rfl⟩
  unfold setItem
  try with_reducible refine wpAny_holding ?_
  first | refine wpAny_bind (wpAny_pure ?_) | skip
  refine wpAny_bind (wpAny_sequenceKey hl.typeIs (by decide) ?_)
  refine wpAny_bind (wpAny_callSpecial?_slot (name := Str.ofString "__setitem__") hl.typeIs slot_list_setitem
    (wpAny_call_entry slot_list_setitem hl.typeIs entry_list_setitem ?_ (args_list_setitem _ _ _)))
  show wpAny _ _ (Builtin.List.listSubscript? (.int (-1) t) >>= _) _ _ s
  refine wpAny_bind (wpAny_listSubscript_int (by decide) ?_)
  obtain ⟨hh, g, d, tk, os⟩ := s
  dsimp only at ho hQ
  unfold W.listOf at ho
  dsimp only
  repeat lk
  have hj : items.size - 1 < items.size := by omega
  have hix : seqIndex? (-1) items.size = some (items.size - 1) := by
    rw [MeetsSeq.seqIndex_neg (by decide) (by omega)]
    congr 1; omega
  have hx' : items[items.size - 1]? = some items[items.size - 1] := Array.getElem?_eq_getElem hj
  rw [hix]
  simp only [Option.bind_some, hx', Option.map_some]
  refine wpAny_bind (wpAny_setSeqItemAt ho rfl ?_)
  first
    | exact wpAny_bind (wpAny_pure (wpAny_pure ⟨.none, rfl, wpAny_pure hQ⟩))
    | exact wpAny_pure ⟨.none, rfl, wpAny_pure hQ⟩

/-- the last item of a list of the ledger is changed -/
theorem setLast_K {its : Array Value} {n : Nat} {t : Tok} {v : Value} {Q : Unit → Shared → Prop} (F : Fr h₀ L s.heap m) (N : News h₀ L s.heap news) (U : Upd D (W.listOf its n) (W.listOf (its.setIfInBounds (its.size - 1) v) n) news news') (hn : 0 < its.size) (hsz : its.size ≤ sizeLine)
    (h : ∀ h', Fr h₀ L h' m → News h₀ L h' news' → Q () { s with heap := h' }) : wpAny (model prog w) A (setItem (.ref D) (.int (-1) t) v) Q E s := by
  obtain ⟨pre, post, rfl, rfl, a, b⟩ := U.split
  have z := N (D, W.listOf its n) (List.mem_append.mpr (.inr (.head _)))
  refine setLast z.1 hn hsz (h _ (F.change (Heap.SameBut.update ..) z.2.1 z.2.2) (ki_turn _ N a b rfl ?_))
  simp
end
end Mine
end

section
open PySem PySem.W PyProof.Rows
namespace Mine
abbrev S1 := List Value × List Str × Nat
def P1 (pre : List Int) (c : S1) : Prop := c.2.1 ≠ [] ∧ c.2.1.length ≤ 6 + pre.length ∧ ∀ s ∈ c.2.1, Line3 (5 + pre.length) s
def ss0 : List Str := [Str.ofString "", Str.ofString "#", Str.ofString " \t# \n", Str.ofString "##", Str.ofString "a", Str.ofString "!"]
theorem p1_zero {vs : List Value} : P1 [] (vs, ss0, 0) := by
  refine ⟨by show ss0 ≠ []; decide, by show ss0.length ≤ 6; decide, ?_⟩
  have : ∀ s ∈ ss0, s.length ≤ 5 ∧ ∀ c ∈ s.cps.toList, c ∈ abc3 := by decide +kernel
  exact fun s hs => ⟨(this s hs).1, (this s hs).2⟩
theorem Line3.mono {a b : Nat} {x : Str} (h : Line3 a x) (hab : a ≤ b) : Line3 b x := ⟨Nat.le_trans h.len hab, h.ok⟩
theorem Line3.app {a b : Nat} {x y : Str} (h : Line3 a x) (h' : Line3 b y) : Line3 (a + b) (x ++ y) where
  len := by rw [Str.length_append]; have := h.len; have := h'.len; omega
  ok := fun c hc => by
    rw [KT.app_list] at hc
    rcases List.mem_append.mp hc with hc | hc
    · exact h.ok c hc
    · exact h'.ok c hc
theorem p1_append {pre : List Int} {n : Int} {vs vs' : List Value} {ss : List Str} {k k' : Nat} {sg : Str} (h : P1 pre (vs, ss, k)) (hs : Line3 1 sg) : P1 (pre ++ [n]) (vs', ss ++ [sg], k') := by
  obtain ⟨h1, h2, h3⟩ := h
  refine ⟨by simp, ?_, ?_⟩
  · simp only [List.length_append, List.length_singleton] at h2 ⊢; omega
  · intro s hm
    rcases List.mem_append.mp hm with hm | hm
    · exact (h3 s hm).mono (by simp only [List.length_append, List.length_singleton]; omega)
    · rw [List.mem_singleton.mp hm]; exact hs.mono (by omega)
theorem p1_grow {pre : List Int} {n : Int} {vs vs' : List Value} {ss : List Str} {k k' : Nat} {sl sg : Str} (h : P1 pre (vs, ss ++ [sl], k)) (hs : Line3 1 sg) : P1 (pre ++ [n]) (vs', ss ++ [sl ++ sg], k') := by
  obtain ⟨h1, h2, h3⟩ := h
  refine ⟨by simp, ?_, ?_⟩
  · simp only [List.length_append, List.length_singleton] at h2 ⊢; omega
  · intro s hm
    rcases List.mem_append.mp hm with hm | hm
    · exact (h3 s (List.mem_append_left _ hm)).mono (by simp only [List.length_append, List.length_singleton]; omega)
    · rw [List.mem_singleton.mp hm]
      exact ((h3 sl (List.mem_append_right _ (List.mem_singleton.mpr rfl))).app hs).mono (by simp only [List.length_append, List.length_singleton]; omega)
theorem strs_last : ∀ {vs : List Value} {ss : List Str}, StrsAre vs ss → ss ≠ [] → ∃ vs' sl tl ss', vs = vs' ++ [Value.str sl tl] ∧ ss = ss' ++ [sl] ∧ StrsAre vs' ss'
  | _, _, .nil, h => absurd rfl h
  | _, _, .cons y t .nil, _ => ⟨[], y, t, [], rfl, rfl, .nil⟩
  | _, _, .cons y t (.cons z u r), _ => by
    obtain ⟨vs', sl, tl, ss', e1, e2, h⟩ := strs_last (.cons z u r) (by simp)
    exact ⟨.str y t :: vs', sl, tl, y :: ss', by rw [e1]; rfl, by rw [e2]; rfl, .cons y t h⟩
theorem set_last (vs : List Value) (a v : Value) : (vs ++ [a]).toArray.setIfInBounds ((vs ++ [a]).toArray.size - 1) v = (vs ++ [v]).toArray := by
  apply Array.toList_inj.mp
  simp [List.set_append]
theorem push_last (vs : List Value) (v : Value) : vs.toArray.push v = (vs ++ [v]).toArray := by simp
theorem sign_of {n : Int} : Line3 1 (Txt.item (Str.ofString "# \t\n\x0d\x0b\x0ca\x1c\x1f") (n.fmod 10)) := by
  have h0 : 0 ≤ n.fmod 10 := Int.fmod_nonneg_of_pos n (by decide)
  have h1 : n.fmod 10 < 10 := Int.fmod_lt_of_pos n (by decide)
  generalize n.fmod 10 = k at h0 h1
  have : k = 0 ∨ k = 1 ∨ k = 2 ∨ k = 3 ∨ k = 4 ∨ k = 5 ∨ k = 6 ∨ k = 7 ∨ k = 8 ∨ k = 9 := by omega
  refine ⟨Nat.le_refl 1, ?_⟩
  rcases this with rfl | rfl | rfl | rfl | rfl | rfl | rfl | rfl | rfl | rfl <;> decide +kernel
theorem sign_bang : Line3 1 (Str.ofString "!") := ⟨by decide, by decide +kernel⟩
end Mine
end

section
open PySem PySem.W PyProof.Rows
namespace Mine
/-- a turn's end where the ledger may have grown: what is kept stands, the walked thing's own stands, nothing kept is the iterator -/
def InvEndG (h₀ : Heap) (L : Addr) (J : (Str → Option Value) → List (Addr × Obj) → Prop) (own : List (Addr × Obj)) (I : Addr) (s₁ s₂ : Shared) : Prop :=
  ∃ h' tk m' nx, s₂ = { s₁ with heap := h', toks := tk } ∧ Fr h₀ L h' m' ∧ News h₀ L h' nx ∧ (∀ p ∈ own, h'.get? p.1 = some p.2) ∧ (∀ p ∈ nx, p.1 ≠ I) ∧ J m' nx
def InvPostG (h₀ : Heap) (L : Addr) (J : (Str → Option Value) → List (Addr × Obj) → Prop) (own : List (Addr × Obj)) (I : Addr) (s₁ : Shared) (Q : Flow → Shared → Prop) (f : Flow) (s₂ : Shared) : Prop :=
  match f with
  | .ret v => Q (.ret v) s₂
  | .brk => Q .next s₂
  | _ => InvEndG h₀ L J own I s₁ s₂

section
variable {prog : Program} {w : World} {A : Around} {E : Value → Shared → Prop} {s : Shared} {env : Env} {h₀ : Heap} {x : Str} {body : List Stmt} {Q : Flow → Shared → Prop}

/-- what a state of one's own says of a frame and a ledger -/
def KstG {σ : Type} (Led : σ → List (Addr × Obj)) (ps : σ → List (Str × Value)) (x : Str) (stored : List Str) (m₀ : Str → Option Value) (P : σ → Prop) (m : Str → Option Value) (nx : List (Addr × Obj)) : Prop :=
  ∃ c : σ, nx = Led c ∧ (∀ p ∈ ps c, m p.1 = some p.2) ∧ (∀ z, z ≠ x → (∀ p ∈ ps c, z ≠ p.1) → stored.contains z = false → m z = m₀ z) ∧ P c

theorem kstG_end {σ : Type} {Led : σ → List (Addr × Obj)} {ps : σ → List (Str × Value)} {stored : List Str} {m₀ : Str → Option Value} {P : σ → Prop} (c : σ) {L I : Addr} {m' : Str → Option Value} {own news' : List (Addr × Obj)} {s₁ : Shared} {h' : Heap} {tk : Nat}
    (F : Fr h₀ L h' m') (N : News h₀ L h' news') (hn : ∀ p ∈ Led c, p ∈ news') (ho : ∀ p ∈ own, p ∈ news') (hI : ∀ p ∈ Led c, p.1 ≠ I) (hk : ∀ p ∈ ps c, m' p.1 = some p.2) (hr : ∀ z, z ≠ x → (∀ p ∈ ps c, z ≠ p.1) → stored.contains z = false → m' z = m₀ z) (hp : P c) :
    InvEndG h₀ L (KstG Led ps x stored m₀ P) own I s₁ { s₁ with heap := h', toks := tk } :=
  ⟨h', tk, m', Led c, rfl, F, fun p hp => N p (hn p hp), fun p hp => (N p (ho p hp)).1, hI, c, rfl, hk, hr, hp⟩

/-- a loop over a list that stands in the ledger or below; the ledger may grow -/
theorem list_loopG {σ : Type} {l : Addr} {its : Array Value} {m₀ : Str → Option Value}
    (Led : σ → List (Addr × Obj)) (ps : σ → List (Str × Value)) (stored : List Str) (P : Nat → σ → Prop) (c₀ : σ)
    (hh : A.handled = none) (hl : s.heap.IsList l its) (hlL : l ≠ env.locals) (hl₀ : h₀.get? l = none)
    (F : Fr h₀ env.locals s.heap m₀) (N : News h₀ env.locals s.heap (Led c₀)) (hk : ∀ p ∈ ps c₀, m₀ p.1 = some p.2) (hp : P 0 c₀)
    (turn : ∀ (c : σ) (i : Nat) (v : Value) (u : Str → Option Value) h tk I oI ol, i < its.size → its[i]? = some v → P i c → (∀ p ∈ Led c, p.1 ≠ I) → I ≠ l → (∃ n, ol.data = .seq its n) →
      Fr h₀ env.locals h (fun y => if y = x then some v else kstB (fun z => if stored.contains z then u z else m₀ z) (ps c) y) → News h₀ env.locals h (Led c ++ [(I, oI), (l, ol)]) →
      wpAny (model prog w) A (execs body env) (InvPostG h₀ env.locals (KstG Led ps x stored m₀ (P (i + 1))) [(I, oI), (l, ol)] I { s with heap := h, toks := tk } Q) E { s with heap := h, toks := tk })
    (done : ∀ (c : σ) (u : Str → Option Value) h tk, P its.size c → Fr h₀ env.locals h (fun y => if y = x then u y else kstB (fun z => if stored.contains z then u z else m₀ z) (ps c) y) → News h₀ env.locals h (Led c) → Q .next { s with heap := h, toks := tk }) :
    wpAny (model prog w) A (pyIter (.ref l)) (fun it s₂ => LoopAtV prog w A h₀ env x body Q E it s₂) E s := by
  have hlt : l < s.heap.objs.size := by obtain ⟨o, ho, _⟩ := hl; exact Heap.lt_size ho
  have hne : l ≠ s.heap.objs.size := Nat.ne_of_lt hlt
  refine wpAny_pyIter_list hl ?_
  let J : Nat → (Str → Option Value) → List (Addr × Obj) → Prop := fun i m nx => KstG Led ps x stored m₀ (P i) m nx
  refine ⟨s.heap.objs.size, [s.heap.objs.size, l], [s.heap.objs.size], its.size, _, _, m₀, Led c₀, J, rfl, Walks.list hh s.heap.objs.size l hne its, ?_, ?_, ?_, ?_, F.push _, (fun p hp => ⟨Heap.get?_push_of_some _ (N p hp).1, (N p hp).2⟩), ⟨c₀, rfl, hk, fun _ _ _ _ => rfl, hp⟩, ?_, ?_⟩
  · intro hm
    rcases List.mem_cons.mp hm with e | hm
    · exact absurd F.ns.lt (e ▸ Nat.lt_irrefl _)
    · exact hlL (List.mem_singleton.mp hm).symm
  · intro b hb
    rw [List.mem_singleton.mp hb]
    exact next_is_new F
  · intro p hp hI
    exact absurd (Heap.lt_size (N p hp).1) (List.mem_singleton.mp hI ▸ Nat.lt_irrefl _)
  · refine ⟨⟨_, Heap.get?_push_size _ rfl, rfl, rfl⟩, ?_⟩
    obtain ⟨o, ho, r⟩ := hl
    exact ⟨o, Heap.get?_push_of_some _ ho, r⟩
  · rintro i v m₁ news₁ s₁ own ⟨hh', tk', rfl⟩ hin hP ⟨c, rfl, h1, h2, hp'⟩ hoff hown hownAt hin' hSt F₁ N₁
    obtain ⟨⟨oI, hoI, cI, dI⟩, ⟨ol, hol, cl, nl, dl⟩⟩ := hSt
    have hI₀ : h₀.get? s.heap.objs.size = none := next_is_new F
    have mI : (s.heap.objs.size, oI) ∈ own := hin' _ List.mem_cons_self hI₀ _ hoI
    have ml : (l, ol) ∈ own := hin' _ (List.mem_cons_of_mem _ List.mem_cons_self) hl₀ _ hol
    have N₂ : News h₀ env.locals hh' (Led c ++ [(s.heap.objs.size, oI), (l, ol)]) := fun p hp => by
      rcases List.mem_append.mp hp with h | h
      · exact N₁ p (List.mem_append.mpr (.inr h))
      · rcases List.mem_cons.mp h with rfl | h
        · exact N₁ _ (List.mem_append.mpr (.inl mI))
        · rw [List.mem_singleton.mp h]; exact N₁ _ (List.mem_append.mpr (.inl ml))
    have hLI : ∀ p ∈ Led c, p.1 ≠ s.heap.objs.size := fun p hp e => hoff p hp (List.mem_singleton.mpr e)
    refine wpAny_mono (turn c i v m₁ hh' tk' s.heap.objs.size oI ol hin hP hp' hLI (Ne.symm hne) ⟨nl, dl⟩ (kst_fr h1 h2 F₁) N₂) (fun f s₂ p => ?_) fun _ _ e => e
    have fin : InvEndG h₀ env.locals (KstG Led ps x stored m₀ (P (i + 1))) [(s.heap.objs.size, oI), (l, ol)] s.heap.objs.size { s with heap := hh', toks := tk' } s₂ → LoopStepU h₀ env.locals [s.heap.objs.size] own (J (i + 1)) { s with heap := hh', toks := tk' } .next s₂ := by
      rintro ⟨h', tk, m', nx, e, F', N', ho, hI, hm⟩
      refine ⟨rfl, h', tk, m', nx, e, F', fun p hp => ?_, fun p hp hq => hI p hp (List.mem_singleton.mp hq), hm⟩
      rcases List.mem_append.mp hp with hp | hp
      · refine ⟨?_, (N₁ p (List.mem_append.mpr (.inl hp))).2⟩
        have hb := hown p hp
        have hcur := hownAt p hp
        rcases List.mem_cons.mp hb with e1 | e1
        · have : p = (s.heap.objs.size, oI) := by
            obtain ⟨pa, po⟩ := p
            simp only at e1 hcur
            subst e1
            rw [hoI] at hcur
            rw [Option.some.inj hcur]
          rw [this]; exact ho _ List.mem_cons_self
        · have e1 := List.mem_singleton.mp e1
          have : p = (l, ol) := by
            obtain ⟨pa, po⟩ := p
            simp only at e1 hcur
            subst e1
            rw [hol] at hcur
            rw [Option.some.inj hcur]
          rw [this]; exact ho _ (List.mem_cons_of_mem _ List.mem_cons_self)
      · exact N' p hp
    cases f with
    | ret v => exact .ret p
    | brk => exact .brk p
    | next => exact .next (fin p)
    | cont => exact .cont (fin p)
  · rintro h' tk m' news' F' N' _ ⟨c, rfl, h1, h2, hp'⟩
    exact done c m' h' tk hp' (kst_frOut h1 h2 F') N'
end
end Mine
end

section
open PySem PySem.W PyProof.Rows PySem.SeqAt
namespace Mine
section
variable {prog : Program} {w : World} {A : Around} {E : Value → Shared → Prop} {s : Shared} {a b : Addr} {its : Array Value} {Q : Value → Shared → Prop}
/-- two lists of the very same things: they differ not -/
theorem ne_same (ha : s.heap.IsList a its) (hb : s.heap.IsList b its) (hu : A.units < cLine) (h : Q (.bool false) s) : wpAny (model prog w) A (compareOp .NotEq (.ref a) (.ref b)) Q E s := by
  refine cmp_ofNotEq ?_
  refine RcNeAt.lists (e := fun _ => true) ha hb rfl hu (fun j h1 h2 => EqAt.same _) prog w E Q ?_
  have : (List.range its.size).all (fun _ => true) = true := by simp
  rw [this]; exact h
end
end Mine
end

section
open PySem PySem.W PyProof.Rows
namespace Mine
/-- the state of the second loop: the things seen and handed (the same), the lists' counts, the lambda's code once it is made -/
abbrev S2 := List Value × Nat × Nat × Option (Addr × Obj)
def lamLine : Nat := 47
def lamCol : Nat := 45
def psOf : Option (Addr × Obj) → Array Value
  | none => #[]
  | some p => #[rawInt lamLine, rawInt lamCol, .ref p.1]
def exOf : Option (Addr × Obj) → List (Addr × Obj)
  | none => []
  | some p => [p]
def CodeOk (q : Str) : Option (Addr × Obj) → Prop
  | none => True
  | some p => ∃ vs t, p.2.data = .fields vs ∧ vs[1]? = some (.str q t)
theorem strs_get : ∀ {vs : List Value} {ss : List Str}, StrsAre vs ss → ∀ (i : Nat) (v : Value), vs[i]? = some v → ∃ x t, x ∈ ss ∧ v = Value.str x t
  | _, _, .nil, i, v, h => by simp at h
  | _, _, .cons y t r, i, v, h => by
    cases i with
    | zero => simp only [List.getElem?_cons_zero, Option.some.injEq] at h; exact ⟨y, t, List.mem_cons_self, h.symm⟩
    | succ i =>
      simp only [List.getElem?_cons_succ] at h
      obtain ⟨x, t', hx, e⟩ := strs_get r i v h
      exact ⟨x, t', List.mem_cons_of_mem _ hx, e⟩
end Mine
end

section
open PySem PySem.W PyProof.Rows Mine
namespace Mine
theorem seen3 {w : World} {mean : ExcName → Option Value} {mg mb : Str → Option Value} {n : Nat} (x : Str) (t : Tok) (b : Bool) (hb : jk x.cps.toList = b) (hx : Line3 n x) (hn : n ≤ 1000) (news : List (Addr × Obj)) : Ctr3 w mean mg mb 45 news [.str x t, .ref 72] (fun _ => .bool b) := by
  have := @seen_str w mean mg mb x t (hx.text hn) news
  rw [j8_eq hx, hb] at this
  exact this
theorem plain3 {w : World} {mean : ExcName → Option Value} {mg mb : Str → Option Value} {n : Nat} (x : Str) (t : Tok) (b : Bool) (hb : jk x.cps.toList = b) (hx : Line3 n x) (hn : n ≤ 1000) (news : List (Addr × Obj)) : Ctr3 w mean mg mb 45 news [.str x t] (fun _ => .bool b) := by
  have := @plain_str w mean mg mb x t (hx.text hn) news
  rw [junkL_eq hx, hb] at this
  exact this
theorem junk3 {w : World} {mean : ExcName → Option Value} {mg mb : Str → Option Value} (x : Str) (t : Tok) (b : Bool) (hb : jk x.cps.toList = b) (news : List (Addr × Obj)) : Ctr3 w mean mg mb 60 news [.str x t] (fun _ => .bool b) := by
  have := @junk_str w mean mg mb x t news
  rw [hb] at this
  exact this
theorem junkT3 {w : World} {mean : ExcName → Option Value} {mg mb : Str → Option Value} (cs : List Nat) (T : Addr) (n : Nat) (vs : List Value) (news : List (Addr × Obj)) (b : Bool) (hb : jk cs = b) (hT : (T, ({ cls := .type "tuple", data := .seq vs.toArray n } : Obj)) ∈ news) (hvs : StrsAre vs (cs.map chS)) : Ctr3 w mean mg mb 60 news [.ref T] (fun _ => .bool b) := by
  have := @junk_tup w mean mg mb cs T n vs news hT hvs
  rw [hb] at this
  exact this
end Mine
end

section
open PySem PySem.W PyProof.Rows
namespace Mine
theorem strs_of_signs : ∀ (cs : List Nat) (vs : List Value), vs.length = cs.length → (∀ (j : Nat) (v : Value), vs[j]? = some v → ∃ c u, cs[j]? = some c ∧ v = Value.str (chS c) u) → StrsAre vs (cs.map chS)
  | [], [], _, _ => .nil
  | [], _ :: _, hl, _ => by simp at hl
  | _ :: _, [], hl, _ => by simp at hl
  | c :: cs, v :: vs, hl, hv => by
    obtain ⟨c', u, hc, rfl⟩ := hv 0 v rfl
    simp only [List.getElem?_cons_zero, Option.some.injEq] at hc
    subst hc
    exact .cons _ _ (strs_of_signs cs vs (by simpa using hl) fun j v hj => by simpa using hv (j + 1) v (by simpa using hj))
section
variable {prog : Program} {w : World} {A : Around} {E : Value → Shared → Prop} {s : Shared} {h₀ : Heap} {L : Addr} {m : Str → Option Value} {news : List (Addr × Obj)} {Q : Value → Shared → Prop}
theorem tupStr_K {x : Str} {t : Tok} (hh : A.handled = none) (F : Fr h₀ L s.heap m) (N : News h₀ L s.heap news) (hsz : x.cps.size ≤ sizeLine)
    (h : ∀ T vs h' tk, Fr h₀ L h' m → News h₀ L h' ((T, ({ cls := .type "tuple", data := .seq vs.toArray } : Obj)) :: news) → (∀ p ∈ news, p.1 < T) → StrsAre vs (x.cps.toList.map chS) → Q (.ref T) { s with heap := h', toks := tk }) :
    wpAny (model prog w) A (call (.type "tuple") [.str x t]) Q E s := by
  refine call_tuple_str hh x t (fun h' tk acc hk hacc => ?_) hsz
  have F' : Fr h₀ L h' m := F.keeps hk
  have N' : News h₀ L h' news := N.grown hk
  refine h _ acc.toList _ _ (F'.push _) ?_ (fun p hp => Heap.lt_size (N' p hp).1) ?_
  · have := News.push F' N' { cls := .type "tuple", data := .seq acc }
    simpa using this
  · refine strs_of_signs _ _ ?_ ?_
    · have := hacc.1
      simpa using this
    · intro j v hj
      obtain ⟨c, u, hc, e⟩ := hacc.2 j v (by simpa using hj)
      exact ⟨c, u, by rw [Array.getElem?_toList]; exact hc, e⟩
end
end Mine
end

section
open PySem PySem.W PyProof.Rows PySem.Calls PySem.Spec
namespace Mine
set_option maxRecDepth 100000
theorem updF_at {d : Addr} {o : Obj} : ∀ {pre post : List (Addr × Obj)}, (∀ p ∈ pre, p.1 ≠ d) → (∀ p ∈ post, p.1 ≠ d) → UpdF d o (pre ++ (d, o) :: post) (fun o' => pre ++ (d, o') :: post)
  | [], _, _, h => .head h
  | q :: r, _, h1, h2 => .tail (h1 q List.mem_cons_self) (updF_at (fun p hp => h1 p (List.mem_cons_of_mem _ hp)) h2)
section
variable {M : Model} {A : Around} {E : Value → Shared → Prop} {s : Shared} {h₀ : Heap} {L a c P : Addr} {m mg mb : Str → Option Value} {cn : Str} {cs : Scope} {ccd : Value} {cl : List (Str × Addr)}
  {p : Program} {loose : List Str} {mean : ExcName → Option Value} {params : Arguments} {body : Expr} {scope : Scope} {pos : Pos} {clos : List (Str × Addr)}
/-- the lambda made: its code is made at the first time, found again later -/
theorem lam_K {Q : Value → Shared → Prop} {tb : Option (Addr × Obj)} (led : Option (Addr × Obj) → List (Addr × Obj)) (pre post : List (Addr × Obj)) (hled : ∀ tb, (∀ p, p ∈ led tb ↔ p ∈ pre ++ (P, tabObj (psOf tb)) :: (post ++ exOf tb)))
    (h1 : ∀ p ∈ pre, p.1 ≠ P) (h2 : ∀ p ∈ post, p.1 ≠ P) (hq : CodeOk (cn ++ ".<locals>." ++ "<lambda>") tb)
    (F : Fr h₀ L s.heap m) (N : News h₀ L s.heap (led tb)) (T : Top p loose mean mg mb h₀) (C : CodeHd h₀ c P) (hcd : ccd = .ref c)
    (hdef : defaultsOf params (envX cn cs L a ccd cl) = ([], [])) (hl : pos.line = lamLine) (hc : pos.col = lamCol)
    (hcl : closureFor scope (envX cn cs L a ccd cl) = pure clos)
    (h : ∀ f q ctv h' tk, Fr h₀ L h' m → News h₀ L h' ((f, kla_obj "<lambda>" (cn ++ ".<locals>." ++ "<lambda>") params body scope clos ((mg "__name__").getD .none) q.1 ctv) :: led (some q)) →
      CodeOk (cn ++ ".<locals>." ++ "<lambda>") (some q) → (tb = some q ∨ (tb = none ∧ ∀ y ∈ led none, y.1 < q.1)) → (∀ y ∈ led (some q), y.1 < f) → Q (.ref f) { s with heap := h', toks := tk }) :
    wpAny M A (eval (.Lambda params body scope pos) (envX cn cs L a ccd cl)) Q E s := by
  refine kla_eval hdef ?_
  have N₂ : News h₀ L s.heap (pre ++ (P, tabObj (psOf tb)) :: (post ++ exOf tb)) := fun p hp => N p ((hled tb p).mpr hp)
  cases tb with
  | none =>
    have U : UpdF P (tabObj #[]) (pre ++ (P, tabObj #[]) :: (post ++ [])) (fun o' => pre ++ (P, o') :: (post ++ [])) := updF_at h1 (fun p hp => h2 p (by simpa using hp))
    refine kla_nest (ps := #[]) F N₂ T C hcd U trivial rfl hcl fun f c' oc vs t ctv h' tk F' N' d1 d2 l1 l2 => ?_
    refine h f (c', oc) ctv h' tk F' (fun y hy => N' y ?_) ⟨vs, t, d1, d2⟩ (.inr ⟨rfl, fun y hy => l1 y ((hled none y).mp hy)⟩) (fun y hy => ?_)
    · rcases List.mem_cons.mp hy with rfl | hy
      · exact List.mem_cons_self
      · have := (hled _ y).mp hy
        simp only [List.mem_append, List.mem_cons, exOf, List.not_mem_nil, or_false] at this ⊢
        rcases this with h | h | h | h
        · exact .inr (.inr (.inl h))
        · refine .inr (.inr (.inr (.inl ?_)))
          rw [h, psOf, hl, hc]; rfl
        · exact .inr (.inr (.inr (.inr h)))
        · exact .inr (.inl h)
    · have := (hled _ y).mp hy
      simp only [List.mem_append, List.mem_cons, exOf, List.not_mem_nil, or_false] at this
      have l3 : ∀ q ∈ pre ++ (P, tabObj #[]) :: (post ++ []), q.1 < f := fun q hq => Nat.lt_trans (l1 q hq) l2
      rcases this with h | h | h | h
      · exact l3 y (by simp [h])
      · have := l3 (P, tabObj #[]) (by simp); rw [h]; exact this
      · exact l3 y (by simp [h])
      · rw [h]; exact l2
  | some q =>
    obtain ⟨c', oc⟩ := q
    have ht : TriplesOk (psOf (some (c', oc))).toList := by simp [psOf, TriplesOk, rawInt]
    have hf : codeAmong pos (psOf (some (c', oc))).toList = some (.ref c') := by simp [psOf, codeAmong, rawInt, hl, hc]
    refine kla_hit F N₂ T C hcd (List.mem_append_right _ List.mem_cons_self) ht hf hcl fun f ctv h' tk F' N' l1 => ?_
    refine h f (c', oc) ctv h' tk F' (fun y hy => N' y ?_) hq (.inl rfl) (fun y hy => l1 y ((hled _ y).mp hy))
    rcases List.mem_cons.mp hy with rfl | hy
    · exact List.mem_cons_self
    · exact List.mem_cons_of_mem _ ((hled _ y).mp hy)
end
end Mine
end

section
open PySem PySem.W PyProof.Rows PySem.Calls PySem.Spec
namespace Mine
theorem len_push {prog : Program} {w : World} {A : Around} {E : Value → Shared → Prop} {s : Shared} {l : Addr} {its : List Value} {v : Value} {Q : Value → Shared → Prop} (hl : s.heap.IsList l (its ++ [v]).toArray) (hfit : its.length < 1000)
    (h : Q (.int ((its.length + 1 : Nat) : Int) (s.toks + 1)) { s with toks := s.toks + 1 + 1 }) : wpAny (model prog w) A (call (.builtin "len") [.ref l]) Q E s := by
  have e : (its ++ [v]).toArray.size = its.length + 1 := by simp
  refine len_list hl ?_ ?_
  · rw [e]; omega
  · rw [e]; exact h
end Mine
end

section
open PySem PySem.W PyProof.Rows PySem.Calls PySem.Spec PyProof.V
namespace Mine
section
variable {M : Model} {A : Around} {E : Value → Shared → Prop} {s' : Shared} {base g g₂ h : Heap} {outer : List Env} {L a e t : Addr} {m : Str → Option Value} {name : Str} {scope : Scope} {cd : Value} {cl : List (Str × Addr)} {Q : Unit → Shared → Prop} {news : List (Addr × Obj)}
/-- an exception in flight leaves a frame with cells -/
theorem leave_onX {cls : Value} {vs : List Value} (K : Below A base outer g) (F : Fr g L g₂ m) (R : RaisedK base (envX name scope L a cd cl :: outer) e cls t vs news s'.heap) (hsm : g₂.UpToSlots s'.heap)
    (hQ : ∀ h', RaisedK base outer e cls t vs news h' → g.UpToSlots h' → Q () { s' with heap := h' }) :
    wpAny M (A.deeper (envX name scope L a cd cl)) (leaving (envX name scope L a cd cl) (.ref e)) Q E s' := by
  obtain ⟨⟨B, hB, hl, hfl, hnew⟩, htup⟩ := R
  exact wpAny_leaves_onW (Around.frames_deeper K.stack) rfl hfl fun h' x1 x2 => hQ h' ⟨⟨B, hB, hl, x1, hnew⟩, htup.of_slots x2⟩ ((Heap.UpToSlots.of_keeps F.keep).trans (hsm.trans x2))
end
section
variable {prog : Program} {w : World} {A₀ : Around} {E : Value → Shared → Prop} {s' : Shared} {h₀ h : Heap} {outer : List Env} {L a e t : Addr} {m : Str → Option Value} {name : Str} {scope : Scope} {cd : Value} {cl : List (Str × Addr)}
  {vs : List Value} {n : Str} {b₀ : Stmt} {suite : List Stmt} {pos np : Pos} {rest : List ExceptHandler} {Q : Flow → Shared → Prop} {news : List (Addr × Obj)}
  {p : Program} {loose : List Str} {mean : ExcName → Option Value} {mg mb : Str → Option Value} {x : Str} {X T' : String} {K' : Frag}
theorem caught_XB (K : Below A₀ h₀ outer h₀) (F : Fr h₀ L h m) (hsm : h.UpToSlots s'.heap) (R : RaisedK h₀ (envX name scope L a cd cl :: outer) e (.type X) t vs news s'.heap)
    (T : TopRead p loose mg mb h₀) (XK : K'.In h₀) (hns : nsIn K' mainGlobals x = some none) (hv : bootBuiltins x = some (.type T'))
    (hexc : isSubtype (.type T') (.type "BaseException") = pure true) (hnt : isSubtype (.type ((Manifest.find? T').elim "type" fun y => y.metatype)) (.type "tuple") = pure false) (hsub : isSubtype (.type X) (.type T') = pure true)
    (k : ∀ h' news₂ tk, Fr h₀ L h' (fun y => if y = n then some (.ref e) else m y) → News h₀ L h' news₂ → Got news₂ e t (.type X) vs → News h₀ L h' news →
      wpAny (model prog w) ((A₀.deeper (envX name scope L a cd cl)).mark (some (.ref e))) (execs (b₀ :: suite) (envX name scope L a cd cl))
        (fun f s₄ => wpAny (model prog w) (A₀.deeper (envX name scope L a cd cl)) (do bindName (envX name scope L a cd cl) n .none; unbindBehindTheSuite (envX name scope L a cd cl) n pos) (fun _ s₅ => Q f s₅) E s₄)
        (AsSuiteRaised (model prog w) ((A₀.deeper (envX name scope L a cd cl)).mark (some (.ref e))) (envX name scope L a cd cl) n pos (notedBy (model prog w) ((A₀.deeper (envX name scope L a cd cl)).mark (some (.ref e))) (envX name scope L a cd cl) (cameBackBy (model prog w) (A₀.deeper (envX name scope L a cd cl)) (envX name scope L a cd cl) E)))
        { s' with heap := h', toks := tk })
    (hn : x ≠ "__name__" := by decide +kernel)
    (hk : scope.kind = .function := by rfl) (hlo : (envX name scope L a cd cl).kindOf n = some .local := by rfl) (hx : (envX name scope L a cd cl).kindOf x = some .globalImplicit := by rfl) (hd : (x == ("__debug__" : Str)) = false := by decide) :
    wpAny (model prog w) (A₀.deeper (envX name scope L a cd cl)) (noteFrame (.ref e) (envX name scope L a cd cl))
      (fun _ s₂ => wpAny (model prog w) (A₀.deeper (envX name scope L a cd cl)) (setFlight (.ref e) none) (fun _ s₃ =>
        wpAny (model prog w) (A₀.deeper (envX name scope L a cd cl)) (handleBy (.ref e) (envX name scope L a cd cl) (.ExceptHandler (some (.Name x np)) (some n) (b₀ :: suite) pos :: rest)) Q E s₃) E s₂) E s' := by
  obtain ⟨⟨B, hB, hl, hfl, hnew⟩, htup⟩ := R
  have hL : B.get? L = none := by
    obtain ⟨_, ⟨L', _, hf, hn', _⟩, _⟩ := hfl.2.2.1
    obtain rfl : L = L' := Option.some.inj hf
    exact hn'
  refine wpAny_looks_onW (Around.frames_deeper K.stack) rfl hfl fun h₄ hheld₄ hsm₄ => ?_
  refine wpAny_landsW hheld₄ fun h₅ hheld hsm₅' => ?_
  have hsm₅ := hsm₄.trans hsm₅'
  have hheld' := flyingW_base hB hheld
  have F₅ := F.of_stays hheld'.1 (hsm.trans hsm₅)
  obtain ⟨ob, hob, hobc⟩ := hheld'.there
  refine wpAny_handleBy_builtin_as (X := X) (T := T') (b := true) hexc hnt hsub (nameX_B F₅ XK T hns hv hn ⟨rfl, ⟨ob, hob, hobc⟩, ?_⟩ hk hx hd)
  refine lands_againW hheld fun h₆ hfl₆ hsm₆ => ?_
  have hfl₆' := flyingW_base hB hfl₆
  have F₆ := F.of_stays hfl₆'.1 ((hsm.trans hsm₅).trans hsm₆)
  obtain ⟨oe, ws, hoe, hoec, hoed, hoe0⟩ := hfl₆'.first
  obtain ⟨ot, nt, hot, hotc, hotd⟩ := (htup.of_slots hsm₅).of_slots hsm₆
  have N₆ := News.more F₆ (News.more F₆ News.nil hot (fun es n q => by rw [hotd] at q; cases q) (fresh_of_stays hB hnew)) hoe (fun es n q => by rw [hoed] at q; cases q) hfl₆'.2.1
  have Nl : News h₀ L h₆ news := fun q hq => ⟨hfl₆.1 _ _ (hl q hq).1, (fun z => by have := (hl q hq).1; rw [z, hL] at this; cases this), (hl q hq).2⟩
  refine storeX_L F₆ (news := _ ++ news) (fun q hq => (List.mem_append.mp hq).elim (N₆ q) (Nl q)) (fun h₇ F₇ N₇ => ?_) hk hlo
  exact k h₇ _ _ F₇ (fun q hq => N₇ q (List.mem_append_left _ hq)) ⟨oe, ot, ws, nt, .head _, .tail _ (.head _), hoec, hoed, hoe0, hotc, hotd⟩ fun q hq => N₇ q (List.mem_append_right _ hq)
end
end Mine
end

section
open PySem PySem.W PyProof.Rows Mine
set_option maxRecDepth 100000
set_option maxHeartbeats 8000000
namespace Mine
/-- a call of the noting reader that gives something back -/
abbrev CtrR (w : World) (mean : ExcName → Option Value) (mg mb : Str → Option Value) (aS : Addr) (its : List Value) (n : Nat) (rest : List (Addr × Obj)) (v : Value) (b : Bool) : Prop :=
  ∀ (p : Program) (loose : List Str) (dp un : Nat) (gd : Option (List Code)) (cn : Str) (cs : Scope) (a : Addr) (ccd : Value) (cl : List (Str × Addr)) (outer : List Env) (A₀ : Around) (base h₀ : Heap) (L : Addr) (m : Str → Option Value) (s : Shared) (Q E : Value → Shared → Prop),
    Below A₀ base outer h₀ → Fr h₀ L s.heap m → (hd.heap_39 w.params).In h₀ → News h₀ L s.heap ((aS, W.listOf its.toArray n) :: rest) → Top p loose mean mg mb h₀ → cs.kind = .function →
    dp + 30 < recursionLimit → un + 300 < cLine → its.length < 1000 → (∀ q ∈ rest, q.1 ≠ aS) →
    (∀ h' tk r, (r = Value.none ↔ b = false) → Fr h₀ L h' m → News h₀ L h' ((aS, W.listOf (its ++ [v]).toArray (n + 1)) :: rest) → Q r { s with heap := h', toks := tk }) →
      wpAny (model PySem.Challenge.rw_dm0047_03.row.prog w) (ktrTop dp un gd cn cs L a ccd cl outer) (call (.ref 67) [.ref aS, v]) Q E s
end Mine
local macro_rules | `(tactic| k_room) => `(tactic| first | ((try simp only [depth_mark, depth_under_make, depth_under_kw, depth_in1, depth_deeper, depth_caller]); decide) | ((try simp only [depth_mark, depth_under_make, depth_under_kw, depth_in1, depth_deeper, depth_caller]); (try dsimp only); omega))
local macro_rules | `(tactic| k_units) => `(tactic| first | exact Nat.le_of_ble_eq_true rfl | ((try simp only [units_in1, units_deeper, Around.mark_units, units_caller]); (try dsimp only); omega))
local macro_rules | `(tactic| walk_at "call builtin:list.append") => `(tactic| (k_here; refine stop_in ?_))
local macro_rules | `(tactic| walk_at "call ref") => `(tactic| (k_here; (with_reducible show wpAny _ _ (call (Value.ref 60) [Value.str _ _]) _ _ _); k_dflt (refine' junk3 _ _ _ (by assumption) _ _ _ _ _ _ _ _ _ _ _ _ _ _ _ _ _ _ _ _ ?hB9 ?hF9 ?hK9 ?hN9 ?hT9 ?hkd9 ?hrm9 ?hun9 ?_; (case hB9 => k_asm); (case hF9 => k_asm); (case hK9 => k_asm); (case hN9 => k_asm); (case hT9 => k_asm); (case hkd9 => exact rfl); (case hrm9 => k_room); (case hun9 => k_units); k_whole); intro t9 h9 tk9 F9 N9; (try dsimp only)))
local macro_rules | `(tactic| walk_at "compareOp In str str") => `(tactic| (k_here; refine stop_in ?_))
theorem Mine.reader_f {w : World} {mean : ExcName → Option Value} {mg mb : Str → Option Value} (aS : Addr) (its : List Value) (n : Nat) (rest : List (Addr × Obj)) (x : Str) (t : Tok) (hb : jk x.cps.toList = false) (hg : (!(Builtin.Str.occurrences x (Str.ofString "!") 0 x.length 1).isEmpty) = false) : CtrR w mean mg mb aS its n rest (.str x t) false := by
  dsimp only [CtrR]
  k_fill
  intros
  rename_i hlen hoff hret
  refine wpAny_call ?_
  k_dflt (refine' code_def ?k1 ?k2 ?k3 ?k4 ?k5 ?kA ?kF ?kK ?k6 ?k7 ?k8 ?k9 ?kB ?_ ?c2 ?c3 ?c4 ?c5; (case kA => exact rfl); (case kF => exact rfl); (case kK => assumption); (case k1 => k_asm); (case k2 => k_asm); (case k3 => k_asm); (case k4 => k_asm); (case k5 => k_asm); (case k6 => k_is); (case k7 => k_is); (case k8 => k_room); (case k9 => exact BindsTo.of_eq rfl); (case c5 => decide); (case kB => exact locs rfl); (case c2 => exact rfl); (case c3 => exact rfl); (case c4 => exact rfl); k_whole; intro g' L' h' FG' F' N' B' X' T'; (try dsimp only); (try k_lift B'); (try k_fold))
  k_steps
  refine stop_out ?_
  rename Fr g' _ _ _ => lF
  rename News g' _ _ _ => lN
  refine append_K lF lN (Upd.head hoff) ?_ (by rw [List.size_toArray, sizeLine_eq]; omega)
  clear lF lN
  intro h' F' N'
  rw [push_last] at N'
  k_steps
  refine stop_out ?_
  refine in_str ?_
  rw [hg]
  k_steps
  exact hret _ _ _ (by simp) (by assumption) (by assumption)
local macro_rules | `(tactic| walk_at "call builtin:len") => `(tactic| (k_here; (with_reducible show wpAny _ _ (call (Value.builtin "len") [Value.ref _]) _ _ _); refine len_list (News.isList (by k_asm) (by k_mem)) (by simp only [List.size_toArray, List.length_append, List.length_singleton]; omega) ?_))
local macro_rules | `(tactic| walk_at "getItem ref int") => `(tactic| (k_here; refine stop_in ?_))
theorem Mine.reader_t {w : World} {mean : ExcName → Option Value} {mg mb : Str → Option Value} (aS : Addr) (its : List Value) (n : Nat) (rest : List (Addr × Obj)) (x : Str) (t : Tok) (hb : jk x.cps.toList = true) (hg : (!(Builtin.Str.occurrences x (Str.ofString "!") 0 x.length 1).isEmpty) = false) : CtrR w mean mg mb aS its n rest (.str x t) true := by
  dsimp only [CtrR]
  k_fill
  intros
  rename_i hlen hoff hret
  refine wpAny_call ?_
  k_dflt (refine' code_def ?k1 ?k2 ?k3 ?k4 ?k5 ?kA ?kF ?kK ?k6 ?k7 ?k8 ?k9 ?kB ?_ ?c2 ?c3 ?c4 ?c5; (case kA => exact rfl); (case kF => exact rfl); (case kK => assumption); (case k1 => k_asm); (case k2 => k_asm); (case k3 => k_asm); (case k4 => k_asm); (case k5 => k_asm); (case k6 => k_is); (case k7 => k_is); (case k8 => k_room); (case k9 => exact BindsTo.of_eq rfl); (case c5 => decide); (case kB => exact locs rfl); (case c2 => exact rfl); (case c3 => exact rfl); (case c4 => exact rfl); k_whole; intro g' L' h' FG' F' N' B' X' T'; (try dsimp only); (try k_lift B'); (try k_fold))
  k_steps
  refine stop_out ?_
  rename Fr g' _ _ _ => lF
  rename News g' _ _ _ => lN
  refine append_K lF lN (Upd.head hoff) ?_ (by rw [List.size_toArray, sizeLine_eq]; omega)
  clear lF lN
  intro h' F' N'
  rw [push_last] at N'
  k_steps
  refine stop_out ?_
  refine in_str ?_
  rw [hg]
  k_steps
  rename News g' _ _ _ => lN
  generalize hkk : ((its ++ [Value.str x t]).toArray.size : Int).fmod 6 = k
  have hk : 0 ≤ k ∧ k < 6 := by
    rw [Int.fmod_eq_emod_of_nonneg _ (by decide)] at hkk
    omega
  obtain rfl | rfl | rfl | rfl | rfl | rfl : k = 0 ∨ k = 1 ∨ k = 2 ∨ k = 3 ∨ k = 4 ∨ k = 5 := by omega
  all_goals refine item_list (News.isList lN List.mem_cons_self) (by decide) (by decide) rfl ?_
  all_goals (dsimp only; k_steps)
  all_goals
    rename News _ _ _ _ => kN
    exact hret _ _ _ (by first | (simp; done) | (constructor <;> intro h <;> cases h)) (by assumption) (fun q hq => kN q (by first | exact List.mem_cons_of_mem _ (List.mem_cons_of_mem _ hq) | exact List.mem_cons_of_mem _ (List.mem_cons_of_mem _ (List.mem_cons_of_mem _ hq)) | exact List.mem_cons_of_mem _ (List.mem_cons_of_mem _ (List.mem_cons_of_mem _ (List.mem_cons_of_mem _ hq)))))
end

section
open PySem PySem.W PyProof.Rows Mine
set_option maxRecDepth 100000
set_option maxHeartbeats 8000000
namespace Mine
/-- a call of the noting reader that raises -/
abbrev CtrX (w : World) (mean : ExcName → Option Value) (mg mb : Str → Option Value) (aS : Addr) (its : List Value) (n : Nat) (rest : List (Addr × Obj)) (v : Value) (msg : Str) : Prop :=
  ∀ (p : Program) (loose : List Str) (dp un : Nat) (gd : Option (List Code)) (cn : Str) (cs : Scope) (a : Addr) (ccd : Value) (cl : List (Str × Addr)) (outer : List Env) (A₀ : Around) (base h₀ : Heap) (L : Addr) (m : Str → Option Value) (s : Shared) (Q E : Value → Shared → Prop),
    Below A₀ base outer h₀ → Fr h₀ L s.heap m → (hd.heap_39 w.params).In h₀ → News h₀ L s.heap ((aS, W.listOf its.toArray n) :: rest) → Top p loose mean mg mb h₀ → cs.kind = .function →
    dp + 30 < recursionLimit → un + 300 < cLine → its.length < 1000 → (∀ q ∈ rest, q.1 ≠ aS) →
    (∀ e t g h' tm tk, RaisedK base (envX cn cs L a ccd cl :: outer) e (.type "ValueError") t [.str msg tm] ((aS, W.listOf (its ++ [v]).toArray (n + 1)) :: rest) h' → Fr h₀ L g m → g.UpToSlots h' → E (.ref e) { s with heap := h', toks := tk }) →
      wpAny (model PySem.Challenge.rw_dm0047_03.row.prog w) (ktrTop dp un gd cn cs L a ccd cl outer) (call (.ref 67) [.ref aS, v]) Q E s
end Mine
local macro_rules | `(tactic| k_room) => `(tactic| first | ((try simp only [depth_mark, depth_under_make, depth_under_kw, depth_in1, depth_deeper, depth_caller]); decide) | ((try simp only [depth_mark, depth_under_make, depth_under_kw, depth_in1, depth_deeper, depth_caller]); (try dsimp only); omega))
local macro_rules | `(tactic| k_units) => `(tactic| first | exact Nat.le_of_ble_eq_true rfl | ((try simp only [units_in1, units_deeper, Around.mark_units, units_caller]); (try dsimp only); omega))
local macro_rules | `(tactic| walk_at "call builtin:list.append") => `(tactic| (k_here; refine stop_in ?_))
local macro_rules | `(tactic| walk_at "call builtin:len") => `(tactic| (k_here; (with_reducible show wpAny _ _ (call (Value.builtin "len") [Value.ref _]) _ _ _); refine len_push (News.isList (by k_asm) (by k_mem)) (by omega) ?_))
local macro_rules | `(tactic| walk_at "exec Raise some none") => `(tactic| (k_here; refine stop_in ?_))
local macro_rules | `(tactic| walk_at "compareOp In str str") => `(tactic| (k_here; refine stop_in ?_))
theorem Mine.reader_x {w : World} {mean : ExcName → Option Value} {mg mb : Str → Option Value} (aS : Addr) (its : List Value) (n : Nat) (rest : List (Addr × Obj)) (x : Str) (t : Tok) (hg : (!(Builtin.Str.occurrences x (Str.ofString "!") 0 x.length 1).isEmpty) = true) : CtrX w mean mg mb aS its n rest (.str x t) (Str.ofString "no reading of " ++ Str.ofString (toString ((its.length + 1 : Nat) : Int))) := by
  dsimp only [CtrX]
  k_fill
  intros
  rename_i hlen hoff hret
  refine wpAny_call ?_
  k_dflt (refine' code_def ?k1 ?k2 ?k3 ?k4 ?k5 ?kA ?kF ?kK ?k6 ?k7 ?k8 ?k9 ?kB ?_ ?c2 ?c3 ?c4 ?c5; (case kA => exact rfl); (case kF => exact rfl); (case kK => assumption); (case k1 => k_asm); (case k2 => k_asm); (case k3 => k_asm); (case k4 => k_asm); (case k5 => k_asm); (case k6 => k_is); (case k7 => k_is); (case k8 => k_room); (case k9 => exact BindsTo.of_eq rfl); (case c5 => decide); (case kB => exact locs rfl); (case c2 => exact rfl); (case c3 => exact rfl); (case c4 => exact rfl); k_whole; intro g' L' h' FG' F' N' B' X' T'; (try dsimp only); (try k_lift B'); (try k_fold))
  k_steps
  refine stop_out ?_
  rename Fr g' _ _ _ => lF
  rename News g' _ _ _ => lN
  refine append_K lF lN (Upd.head hoff) ?_ (by rw [List.size_toArray, sizeLine_eq]; omega)
  clear lF lN
  intro h' F' N'
  rw [push_last] at N'
  k_steps
  refine stop_out ?_
  refine in_str ?_
  rw [hg]
  k_steps
  refine stop_out ?_
  refine Raise_madeB PySem.F.excCall_ValueError PySem.F.excRaise_ValueError rfl ?_
  iterate 1 (first | walk1 | (dsimp only; walk1))
  refine ⟨rfl, ?_⟩
  k_steps
  exact hret _ _ g' _ _ _ (by assumption) FG' (by assumption)
end

section
open PySem PySem.W PyProof.Rows Mine
set_option maxRecDepth 100000
set_option maxHeartbeats 8000000
namespace Mine
/-- the law's noting lambda, its places left open -/
abbrev lamObj (p1 p2 p3 p4 p5 : Pos) (cC : Addr) (pm : Value) (c' : Addr) (ctv : Value) : Obj :=
  kla_obj (Str.ofString "<lambda>") (Str.ofString "law" ++ Str.ofString ".<locals>." ++ Str.ofString "<lambda>")
    { posonlyargs := [], args := [{ arg := Str.ofString "thing", annotation := none, pos := p1 }], vararg := none, kwonlyargs := [], kw_defaults := [], kwarg := none, defaults := [] }
    ((Expr.Name (Str.ofString "_law_reader") p2).Call [Expr.Name (Str.ofString "seen") p3, Expr.Name (Str.ofString "thing") p4] [] p5)
    { kind := ScopeKind.function, names := [(Str.ofString "thing", NameKind.local), (Str.ofString "seen", NameKind.free), (Str.ofString "_law_reader", NameKind.globalImplicit)], isGenerator := false, isCoroutine := false }
    [(Str.ofString "seen", cC)] pm c' ctv
/-- a call of the lambda that gives something back -/
abbrev CtrLR (w : World) (mean : ExcName → Option Value) (mg mb : Str → Option Value) (aS : Addr) (its : List Value) (n : Nat) (f : Addr) (fo : Obj) (rest : List (Addr × Obj)) (v : Value) (b : Bool) : Prop :=
  ∀ (p : Program) (loose : List Str) (dp un : Nat) (gd : Option (List Code)) (cn : Str) (cs : Scope) (a : Addr) (ccd : Value) (cl : List (Str × Addr)) (outer : List Env) (A₀ : Around) (base h₀ : Heap) (L : Addr) (m : Str → Option Value) (s : Shared) (Q E : Value → Shared → Prop),
    Below A₀ base outer h₀ → Fr h₀ L s.heap m → (hd.heap_39 w.params).In h₀ → News h₀ L s.heap ((aS, W.listOf its.toArray n) :: (f, fo) :: rest) → Top p loose mean mg mb h₀ → cs.kind = .function →
    dp + 40 < recursionLimit → un + 400 < cLine → its.length < 1000 → (∀ q ∈ (f, fo) :: rest, q.1 ≠ aS) →
    (∀ h' tk r, (r = Value.none ↔ b = false) → Fr h₀ L h' m → News h₀ L h' ((aS, W.listOf (its ++ [v]).toArray (n + 1)) :: (f, fo) :: rest) → Q r { s with heap := h', toks := tk }) →
      wpAny (model PySem.Challenge.rw_dm0047_03.row.prog w) (ktrTop dp un gd cn cs L a ccd cl outer) (call (.ref f) [v]) Q E s
/-- a call of the lambda that raises -/
abbrev CtrLX (w : World) (mean : ExcName → Option Value) (mg mb : Str → Option Value) (aS : Addr) (its : List Value) (n : Nat) (f : Addr) (fo : Obj) (rest : List (Addr × Obj)) (v : Value) (msg : Str) : Prop :=
  ∀ (p : Program) (loose : List Str) (dp un : Nat) (gd : Option (List Code)) (cn : Str) (cs : Scope) (a : Addr) (ccd : Value) (cl : List (Str × Addr)) (outer : List Env) (A₀ : Around) (base h₀ : Heap) (L : Addr) (m : Str → Option Value) (s : Shared) (Q E : Value → Shared → Prop),
    Below A₀ base outer h₀ → Fr h₀ L s.heap m → (hd.heap_39 w.params).In h₀ → News h₀ L s.heap ((aS, W.listOf its.toArray n) :: (f, fo) :: rest) → Top p loose mean mg mb h₀ → cs.kind = .function →
    dp + 40 < recursionLimit → un + 400 < cLine → its.length < 1000 → (∀ q ∈ (f, fo) :: rest, q.1 ≠ aS) →
    (∀ e t g h' tm tk, RaisedK base (envX cn cs L a ccd cl :: outer) e (.type "ValueError") t [.str msg tm] ((aS, W.listOf (its ++ [v]).toArray (n + 1)) :: (f, fo) :: rest) h' → Fr h₀ L g m → g.UpToSlots h' → E (.ref e) { s with heap := h', toks := tk }) →
      wpAny (model PySem.Challenge.rw_dm0047_03.row.prog w) (ktrTop dp un gd cn cs L a ccd cl outer) (call (.ref f) [v]) Q E s
end Mine
local macro_rules | `(tactic| k_room) => `(tactic| first | ((try simp only [depth_mark, depth_under_make, depth_under_kw, depth_in1, depth_deeper, depth_caller]); decide) | ((try simp only [depth_mark, depth_under_make, depth_under_kw, depth_in1, depth_deeper, depth_caller]); (try dsimp only); omega))
local macro_rules | `(tactic| k_units) => `(tactic| first | exact Nat.le_of_ble_eq_true rfl | ((try simp only [units_in1, units_deeper, Around.mark_units, units_caller]); (try dsimp only); omega))
local macro_rules | `(tactic| walk_at "call ref") => `(tactic| (k_here; (with_reducible show wpAny _ _ (call (Value.ref 67) _) _ _ _); refine stop_in ?_))
theorem Mine.lam_r {w : World} {mean : ExcName → Option Value} {mg mb : Str → Option Value} {aS : Addr} {its : List Value} {n : Nat} {f : Addr} {p1 p2 p3 p4 p5 : Pos} {cC : Addr} {pm : Value} {c' : Addr} {ctv : Value} {oC oc : Obj} {rest : List (Addr × Obj)} {v : Value} {b : Bool} {vs : Array Value} {tq : Tok}
    (hC : CtrR w mean mg mb aS its n ((f, lamObj p1 p2 p3 p4 p5 cC pm c' ctv) :: (cC, oC) :: (c', oc) :: rest) v b)
    (dC : oC.data = .cell (some (.ref aS))) (d1 : oc.data = .fields vs) (d2 : vs[1]? = some (.str (Str.ofString "law" ++ Str.ofString ".<locals>." ++ Str.ofString "<lambda>") tq)) :
    CtrLR w mean mg mb aS its n f (lamObj p1 p2 p3 p4 p5 cC pm c' ctv) ((cC, oC) :: (c', oc) :: rest) v b := by
  dsimp only [CtrLR]
  k_fill
  intros
  rename_i hlen hoff hret
  refine wpAny_call ?_
  k_dflt (refine' kla_code ?k1 ?k2 ?k3 ?k4 ?k5 ?kA ?kF ?kK ?k6 ?k7 ?k8 ?k9 ?kB ?_ ?c2 ?c3 ?c4 ?c5; (case kA => exact rfl); (case kF => exact rfl); (case kK => assumption); (case k1 => k_asm); (case k2 => k_asm); (case k3 => k_asm); (case k4 => k_asm); (case k5 => k_asm); (case k6 => k_mem); (case k7 => exact codeRec_news (by k_asm) (by k_mem) (by assumption) (by assumption)); (case k8 => k_room); (case k9 => exact rfl); (case c5 => decide); (case kB => exact locs rfl); (case c2 => exact rfl); (case c3 => exact rfl); (case c4 => exact rfl); k_whole; intro g' L' h' FG' F' N' B' X' T'; (try dsimp only); (try k_lift B'); (try k_fold))
  iterate 4 (first | walk1 | (dsimp only; walk1))
  refine nameX_F N' rfl (List.mem_cons_of_mem _ (List.mem_cons_of_mem _ List.mem_cons_self)) dC ?_
  iterate 1 (first | walk1 | (dsimp only; walk1))
  refine nameX_L F' (by rfl) ?_
  k_steps
  refine stop_out ?_
  refine' hC _ _ _ _ _ _ _ _ _ _ _ _ _ _ _ _ _ _ _ ?hB9 ?hF9 ?hK9 ?hN9 ?hT9 rfl ?hrm9 ?hun9 hlen hoff ?_
  case hB9 => k_asm
  case hF9 => k_asm
  case hK9 => k_asm
  case hN9 => k_asm
  case hT9 => k_asm
  case hrm9 => k_room
  case hun9 => k_units
  clear F' N'
  intro h' tk r hr F' N'
  k_steps
  exact hret _ _ _ hr (by assumption) (by assumption)

theorem Mine.lam_x {w : World} {mean : ExcName → Option Value} {mg mb : Str → Option Value} {aS : Addr} {its : List Value} {n : Nat} {f : Addr} {p1 p2 p3 p4 p5 : Pos} {cC : Addr} {pm : Value} {c' : Addr} {ctv : Value} {oC oc : Obj} {rest : List (Addr × Obj)} {v : Value} {msg : Str} {vs : Array Value} {tq : Tok}
    (hC : CtrX w mean mg mb aS its n ((f, lamObj p1 p2 p3 p4 p5 cC pm c' ctv) :: (cC, oC) :: (c', oc) :: rest) v msg)
    (dC : oC.data = .cell (some (.ref aS))) (d1 : oc.data = .fields vs) (d2 : vs[1]? = some (.str (Str.ofString "law" ++ Str.ofString ".<locals>." ++ Str.ofString "<lambda>") tq)) :
    CtrLX w mean mg mb aS its n f (lamObj p1 p2 p3 p4 p5 cC pm c' ctv) ((cC, oC) :: (c', oc) :: rest) v msg := by
  dsimp only [CtrLX]
  k_fill
  intros
  rename_i hlen hoff hret
  refine wpAny_call ?_
  k_dflt (refine' kla_code ?k1 ?k2 ?k3 ?k4 ?k5 ?kA ?kF ?kK ?k6 ?k7 ?k8 ?k9 ?kB ?_ ?c2 ?c3 ?c4 ?c5; (case kA => exact rfl); (case kF => exact rfl); (case kK => assumption); (case k1 => k_asm); (case k2 => k_asm); (case k3 => k_asm); (case k4 => k_asm); (case k5 => k_asm); (case k6 => k_mem); (case k7 => exact codeRec_news (by k_asm) (by k_mem) (by assumption) (by assumption)); (case k8 => k_room); (case k9 => exact rfl); (case c5 => decide); (case kB => exact locs rfl); (case c2 => exact rfl); (case c3 => exact rfl); (case c4 => exact rfl); k_whole; intro g' L' h' FG' F' N' B' X' T'; (try dsimp only); (try k_lift B'); (try k_fold))
  iterate 4 (first | walk1 | (dsimp only; walk1))
  refine nameX_F N' rfl (List.mem_cons_of_mem _ (List.mem_cons_of_mem _ List.mem_cons_self)) dC ?_
  iterate 1 (first | walk1 | (dsimp only; walk1))
  refine nameX_L F' (by rfl) ?_
  k_steps
  refine stop_out ?_
  refine' hC _ _ _ _ _ _ _ _ _ _ _ _ _ _ _ _ _ _ _ ?hB9 ?hF9 ?hK9 ?hN9 ?hT9 rfl ?hrm9 ?hun9 hlen hoff ?_
  case hB9 => k_asm
  case hF9 => k_asm
  case hK9 => k_asm
  case hN9 => k_asm
  case hT9 => k_asm
  case hrm9 => k_room
  case hun9 => k_units
  clear F' N'
  intro e t g h' tm tk hR F' hsl
  refine leave_onX B' F' hR hsl fun h2 R2 s2 => ?_
  exact hret _ _ g' _ _ _ R2 FG' s2
end

section
open PySem PySem.W PyProof.Rows Mine
set_option maxRecDepth 100000
set_option maxHeartbeats 8000000
theorem Mine.any_bang (x : Str) : ((x.cps.toList.map chS).any (· == Str.ofString "!")) = (!(Builtin.Str.occurrences x (Str.ofString "!") 0 x.length 1).isEmpty) := by
  rw [show Str.ofString "!" = ⟨#[33]⟩ from by decide +kernel, StrLaws.found_one, Bool.eq_iff_iff, List.any_eq_true, decide_eq_true_eq]
  constructor
  · rintro ⟨y, hy, e⟩
    obtain ⟨c, hc, rfl⟩ := List.mem_map.mp hy
    have e2 : chS c = chS 33 := by simpa using e
    have e3 : c = 33 := by simpa [chS] using e2
    exact e3 ▸ hc
  · intro h
    exact ⟨chS 33, List.mem_map.mpr ⟨33, h, rfl⟩, by simp⟩
local macro_rules | `(tactic| k_room) => `(tactic| first | ((try simp only [depth_mark, depth_under_make, depth_under_kw, depth_in1, depth_deeper, depth_caller]); decide) | ((try simp only [depth_mark, depth_under_make, depth_under_kw, depth_in1, depth_deeper, depth_caller]); (try dsimp only); omega))
local macro_rules | `(tactic| k_units) => `(tactic| first | exact Nat.le_of_ble_eq_true rfl | ((try simp only [units_in1, units_deeper, Around.mark_units, units_caller]); (try dsimp only); omega))
local macro_rules | `(tactic| walk_at "call builtin:list.append") => `(tactic| (k_here; refine stop_in ?_))
local macro_rules | `(tactic| walk_at "call ref") => `(tactic| (k_here; (with_reducible show wpAny _ _ (call (Value.ref 60) [Value.ref _]) _ _ _); k_dflt (refine' junkT3 _ _ _ _ _ _ (by assumption) (List.mem_cons_of_mem _ (by assumption)) (by assumption) _ _ _ _ _ _ _ _ _ _ _ _ _ _ _ _ _ _ _ ?hB9 ?hF9 ?hK9 ?hN9 ?hT9 ?hkd9 ?hrm9 ?hun9 ?_; (case hB9 => k_asm); (case hF9 => k_asm); (case hK9 => k_asm); (case hN9 => k_asm); (case hT9 => k_asm); (case hkd9 => exact rfl); (case hrm9 => k_room); (case hun9 => k_units); k_whole); intro t9 h9 tk9 F9 N9; (try dsimp only)))
local macro_rules | `(tactic| walk_at "compareOp In str ref") => `(tactic| (k_here; refine stop_in ?_))
theorem Mine.reader_fT {w : World} {mean : ExcName → Option Value} {mg mb : Str → Option Value} (aS : Addr) (its : List Value) (n : Nat) (rest : List (Addr × Obj)) (x : Str) (T : Addr) (nT : Nat) (tvs : List Value) (hT : (T, ({ cls := .type "tuple", data := .seq tvs.toArray nT } : Obj)) ∈ rest) (hvs : StrsAre tvs (x.cps.toList.map chS)) (hb : jk x.cps.toList = false) (hg : (!(Builtin.Str.occurrences x (Str.ofString "!") 0 x.length 1).isEmpty) = false) : CtrR w mean mg mb aS its n rest (.ref T) false := by
  dsimp only [CtrR]
  k_fill
  intros
  rename_i hlen hoff hret
  refine wpAny_call ?_
  k_dflt (refine' code_def ?k1 ?k2 ?k3 ?k4 ?k5 ?kA ?kF ?kK ?k6 ?k7 ?k8 ?k9 ?kB ?_ ?c2 ?c3 ?c4 ?c5; (case kA => exact rfl); (case kF => exact rfl); (case kK => assumption); (case k1 => k_asm); (case k2 => k_asm); (case k3 => k_asm); (case k4 => k_asm); (case k5 => k_asm); (case k6 => k_is); (case k7 => k_is); (case k8 => k_room); (case k9 => exact BindsTo.of_eq rfl); (case c5 => decide); (case kB => exact locs rfl); (case c2 => exact rfl); (case c3 => exact rfl); (case c4 => exact rfl); k_whole; intro g' L' h' FG' F' N' B' X' T'; (try dsimp only); (try k_lift B'); (try k_fold))
  k_steps
  refine stop_out ?_
  rename Fr g' _ _ _ => lF
  rename News g' _ _ _ => lN
  refine append_K lF lN (Upd.head hoff) ?_ (by rw [List.size_toArray, sizeLine_eq]; omega)
  clear lF lN
  intro h' F' N'
  rw [push_last] at N'
  k_steps
  refine stop_out ?_
  rename News g' _ _ _ => lN
  refine in_tuple_strs (News.isTup lN (List.mem_cons_of_mem _ hT)) hvs ?_
  rw [any_bang, hg]
  k_steps
  exact hret _ _ _ (by simp) (by assumption) (by assumption)
local macro_rules | `(tactic| walk_at "call builtin:len") => `(tactic| (k_here; (with_reducible show wpAny _ _ (call (Value.builtin "len") [Value.ref _]) _ _ _); refine len_list (News.isList (by k_asm) (by k_mem)) (by simp only [List.size_toArray, List.length_append, List.length_singleton]; omega) ?_))
local macro_rules | `(tactic| walk_at "getItem ref int") => `(tactic| (k_here; refine stop_in ?_))
theorem Mine.reader_tT {w : World} {mean : ExcName → Option Value} {mg mb : Str → Option Value} (aS : Addr) (its : List Value) (n : Nat) (rest : List (Addr × Obj)) (x : Str) (T : Addr) (nT : Nat) (tvs : List Value) (hT : (T, ({ cls := .type "tuple", data := .seq tvs.toArray nT } : Obj)) ∈ rest) (hvs : StrsAre tvs (x.cps.toList.map chS)) (hb : jk x.cps.toList = true) (hg : (!(Builtin.Str.occurrences x (Str.ofString "!") 0 x.length 1).isEmpty) = false) : CtrR w mean mg mb aS its n rest (.ref T) true := by
  dsimp only [CtrR]
  k_fill
  intros
  rename_i hlen hoff hret
  refine wpAny_call ?_
  k_dflt (refine' code_def ?k1 ?k2 ?k3 ?k4 ?k5 ?kA ?kF ?kK ?k6 ?k7 ?k8 ?k9 ?kB ?_ ?c2 ?c3 ?c4 ?c5; (case kA => exact rfl); (case kF => exact rfl); (case kK => assumption); (case k1 => k_asm); (case k2 => k_asm); (case k3 => k_asm); (case k4 => k_asm); (case k5 => k_asm); (case k6 => k_is); (case k7 => k_is); (case k8 => k_room); (case k9 => exact BindsTo.of_eq rfl); (case c5 => decide); (case kB => exact locs rfl); (case c2 => exact rfl); (case c3 => exact rfl); (case c4 => exact rfl); k_whole; intro g' L' h' FG' F' N' B' X' T'; (try dsimp only); (try k_lift B'); (try k_fold))
  k_steps
  refine stop_out ?_
  rename Fr g' _ _ _ => lF
  rename News g' _ _ _ => lN
  refine append_K lF lN (Upd.head hoff) ?_ (by rw [List.size_toArray, sizeLine_eq]; omega)
  clear lF lN
  intro h' F' N'
  rw [push_last] at N'
  k_steps
  refine stop_out ?_
  rename News g' _ _ _ => lN
  refine in_tuple_strs (News.isTup lN (List.mem_cons_of_mem _ hT)) hvs ?_
  rw [any_bang, hg]
  k_steps
  rename News g' _ _ _ => lN
  generalize hkk : ((its ++ [Value.ref T]).toArray.size : Int).fmod 6 = k
  have hk : 0 ≤ k ∧ k < 6 := by
    rw [Int.fmod_eq_emod_of_nonneg _ (by decide)] at hkk
    omega
  obtain rfl | rfl | rfl | rfl | rfl | rfl : k = 0 ∨ k = 1 ∨ k = 2 ∨ k = 3 ∨ k = 4 ∨ k = 5 := by omega
  all_goals refine item_list (News.isList lN List.mem_cons_self) (by decide) (by decide) rfl ?_
  all_goals (dsimp only; k_steps)
  all_goals
    rename News _ _ _ _ => kN
    exact hret _ _ _ (by first | (simp; done) | (constructor <;> intro h <;> cases h)) (by assumption) (fun q hq => kN q (by first | exact List.mem_cons_of_mem _ (List.mem_cons_of_mem _ hq) | exact List.mem_cons_of_mem _ (List.mem_cons_of_mem _ (List.mem_cons_of_mem _ hq)) | exact List.mem_cons_of_mem _ (List.mem_cons_of_mem _ (List.mem_cons_of_mem _ (List.mem_cons_of_mem _ hq)))))

local macro_rules | `(tactic| walk_at "call builtin:len") => `(tactic| (k_here; (with_reducible show wpAny _ _ (call (Value.builtin "len") [Value.ref _]) _ _ _); refine len_push (News.isList (by k_asm) (by k_mem)) (by omega) ?_))
local macro_rules | `(tactic| walk_at "exec Raise some none") => `(tactic| (k_here; refine stop_in ?_))
theorem Mine.reader_xT {w : World} {mean : ExcName → Option Value} {mg mb : Str → Option Value} (aS : Addr) (its : List Value) (n : Nat) (rest : List (Addr × Obj)) (x : Str) (T : Addr) (nT : Nat) (tvs : List Value) (hT : (T, ({ cls := .type "tuple", data := .seq tvs.toArray nT } : Obj)) ∈ rest) (hvs : StrsAre tvs (x.cps.toList.map chS)) (hg : (!(Builtin.Str.occurrences x (Str.ofString "!") 0 x.length 1).isEmpty) = true) : CtrX w mean mg mb aS its n rest (.ref T) (Str.ofString "no reading of " ++ Str.ofString (toString ((its.length + 1 : Nat) : Int))) := by
  dsimp only [CtrX]
  k_fill
  intros
  rename_i hlen hoff hret
  refine wpAny_call ?_
  k_dflt (refine' code_def ?k1 ?k2 ?k3 ?k4 ?k5 ?kA ?kF ?kK ?k6 ?k7 ?k8 ?k9 ?kB ?_ ?c2 ?c3 ?c4 ?c5; (case kA => exact rfl); (case kF => exact rfl); (case kK => assumption); (case k1 => k_asm); (case k2 => k_asm); (case k3 => k_asm); (case k4 => k_asm); (case k5 => k_asm); (case k6 => k_is); (case k7 => k_is); (case k8 => k_room); (case k9 => exact BindsTo.of_eq rfl); (case c5 => decide); (case kB => exact locs rfl); (case c2 => exact rfl); (case c3 => exact rfl); (case c4 => exact rfl); k_whole; intro g' L' h' FG' F' N' B' X' T'; (try dsimp only); (try k_lift B'); (try k_fold))
  k_steps
  refine stop_out ?_
  rename Fr g' _ _ _ => lF
  rename News g' _ _ _ => lN
  refine append_K lF lN (Upd.head hoff) ?_ (by rw [List.size_toArray, sizeLine_eq]; omega)
  clear lF lN
  intro h' F' N'
  rw [push_last] at N'
  k_steps
  refine stop_out ?_
  rename News g' _ _ _ => lN
  refine in_tuple_strs (News.isTup lN (List.mem_cons_of_mem _ hT)) hvs ?_
  rw [any_bang, hg]
  k_steps
  refine stop_out ?_
  refine Raise_madeB PySem.F.excCall_ValueError PySem.F.excRaise_ValueError rfl ?_
  iterate 1 (first | walk1 | (dsimp only; walk1))
  refine ⟨rfl, ?_⟩
  k_steps
  exact hret _ _ g' _ _ _ (by assumption) FG' (by assumption)
end

section
open PySem PySem.W PyProof.Rows Mine
namespace Mine
theorem ne_str_self {prog : Program} {w : World} {A : Around} {E : Value → Shared → Prop} {s : Shared} {x : Str} {t u : Tok} {Q : Value → Shared → Prop} (h : Q (.bool false) s) : wpAny (model prog w) A (compareOp .NotEq (.str x t) (.str x u)) Q E s :=
  ne_str (by simpa using h)
/-- behind a suite «except .. as n»: the name goes, in a frame with cells -/
theorem nameX_goes {M : Model} {A : Around} {E : Value → Shared → Prop} {s : Shared} {h₀ : Heap} {L a : Addr} {m : Str → Option Value} {name : Str} {scope : Scope} {cd : Value} {cl : List (Str × Addr)} {news : List (Addr × Obj)} {n : Str} {pos : Pos} {Q : Unit → Shared → Prop} (F : Fr h₀ L s.heap m) (N : News h₀ L s.heap news)
    (h : ∀ h' v, Fr h₀ L h' (fun x => if x = n then v else m x) → News h₀ L h' news → Q () { s with heap := h', toks := s.toks + 1 })
    (hk : scope.kind = .function := by rfl) (hl : (envX name scope L a cd cl).kindOf n = some .local := by rfl) :
    wpAny M A (do bindName (envX name scope L a cd cl) n .none; unbindBehindTheSuite (envX name scope L a cd cl) n pos) Q E s :=
  wpAny_nameGoes_keeps hl F.ns (by show (scope.kind == .class || (scope.kind == .module && L != mainGlobals)) = false; rw [hk]; rfl) fun h' v hn hs => h h' v (F.set hn hs) (N.set hs)
theorem isnot_r {M : Model} {A : Around} {E : Value → Shared → Prop} {s : Shared} {Q : Value → Shared → Prop} {r : Value} {b : Bool} (hr : r = Value.none ↔ b = false) (h : Q (.bool b) s) : wpAny M A (compareOp .IsNot r .none) Q E s := by
  cases b with
  | false => obtain rfl := hr.mpr rfl; exact isnot_none_none h
  | true => exact isnot_none_ne (fun e => nomatch hr.mp e) h
theorem jk_bang {x : Str} (hg : (!(Builtin.Str.occurrences x (Str.ofString "!") 0 x.length 1).isEmpty) = true) : jk x.cps.toList = false := by
  rw [show Str.ofString "!" = ⟨#[33]⟩ from by decide +kernel, StrLaws.found_one, decide_eq_true_eq] at hg
  obtain ⟨i, hi⟩ := List.mem_iff_getElem?.mp hg
  exact jk_out hi (by decide) (by decide)
/-- what is handed over: a text, or the tuple of its signs -/
theorem reads_r {x : Str} {tx : Tok} {T : Addr} {nT : Nat} {tvs : List Value} {v : Value} {b : Bool} (hv : v = .str x tx ∨ v = .ref T) (hvs : StrsAre tvs (x.cps.toList.map chS)) (hb : jk x.cps.toList = b) (hg : (!(Builtin.Str.occurrences x (Str.ofString "!") 0 x.length 1).isEmpty) = false)
    (w : World) (mean : ExcName → Option Value) (mg mb : Str → Option Value) (aS : Addr) (its : List Value) (n : Nat) (rest : List (Addr × Obj)) (hT : (T, ({ cls := .type "tuple", data := .seq tvs.toArray nT } : Obj)) ∈ rest) : CtrR w mean mg mb aS its n rest v b := by
  rcases hv with rfl | rfl <;> cases b
  · exact reader_f aS its n rest x tx hb hg
  · exact reader_t aS its n rest x tx hb hg
  · exact reader_fT aS its n rest x T nT tvs hT hvs hb hg
  · exact reader_tT aS its n rest x T nT tvs hT hvs hb hg
theorem reads_x {x : Str} {tx : Tok} {T : Addr} {nT : Nat} {tvs : List Value} {v : Value} (hv : v = .str x tx ∨ v = .ref T) (hvs : StrsAre tvs (x.cps.toList.map chS)) (hg : (!(Builtin.Str.occurrences x (Str.ofString "!") 0 x.length 1).isEmpty) = true)
    (w : World) (mean : ExcName → Option Value) (mg mb : Str → Option Value) (aS : Addr) (its : List Value) (n : Nat) (rest : List (Addr × Obj)) (hT : (T, ({ cls := .type "tuple", data := .seq tvs.toArray nT } : Obj)) ∈ rest) : CtrX w mean mg mb aS its n rest v (Str.ofString "no reading of " ++ Str.ofString (toString ((its.length + 1 : Nat) : Int))) := by
  rcases hv with rfl | rfl
  · exact reader_x aS its n rest x tx hg
  · exact reader_xT aS its n rest x T nT tvs hT hvs hg
theorem lam_rN {w : World} {mean : ExcName → Option Value} {mg mb : Str → Option Value} {aS : Addr} {its : List Value} {n : Nat} {f : Addr} {p1 p2 p3 p4 p5 : Pos} {cC : Addr} {pm : Value} {c' : Addr} {ctv : Value} {oC oc : Obj} (rest : List (Addr × Obj)) {v : Value} {b : Bool} {vs : Array Value} {tq : Tok}
    {p : Program} {loose : List Str} {dp un : Nat} {gd : Option (List Code)} {cn : Str} {cs : Scope} {a : Addr} {ccd : Value} {cl : List (Str × Addr)} {outer : List Env} {A₀ : Around} {base h₀ : Heap} {L : Addr} {m : Str → Option Value} {s : Shared} {Q E : Value → Shared → Prop} {led : List (Addr × Obj)}
    (N : News h₀ L s.heap ((f, lamObj p1 p2 p3 p4 p5 cC pm c' ctv) :: led)) (hled : ∀ q ∈ (aS, W.listOf its.toArray n) :: (cC, oC) :: (c', oc) :: rest, q ∈ led)
    (hC : ∀ w mean mg mb, CtrR w mean mg mb aS its n ((f, lamObj p1 p2 p3 p4 p5 cC pm c' ctv) :: (cC, oC) :: (c', oc) :: rest) v b)
    (dC : oC.data = .cell (some (.ref aS))) (d1 : oc.data = .fields vs) (d2 : vs[1]? = some (.str (Str.ofString "law" ++ Str.ofString ".<locals>." ++ Str.ofString "<lambda>") tq))
    (B : Below A₀ base outer h₀) (F : Fr h₀ L s.heap m) (X : (hd.heap_39 w.params).In h₀) (T : Top p loose mean mg mb h₀) (hk : cs.kind = .function) (hd : dp + 40 < recursionLimit) (hu : un + 400 < cLine) (hlen : its.length < 1000)
    (hfS : f ≠ aS) (hcS : cC ≠ aS) (hc'S : c' ≠ aS) (hoff : ∀ q ∈ rest, q.1 ≠ aS)
    (hret : ∀ h' tk r, (r = Value.none ↔ b = false) → Fr h₀ L h' m → News h₀ L h' ((aS, W.listOf (its ++ [v]).toArray (n + 1)) :: (f, lamObj p1 p2 p3 p4 p5 cC pm c' ctv) :: (cC, oC) :: (c', oc) :: rest) → Q r { s with heap := h', toks := tk }) :
    wpAny (model PySem.Challenge.rw_dm0047_03.row.prog w) (ktrTop dp un gd cn cs L a ccd cl outer) (call (.ref f) [v]) Q E s := by
  refine lam_r (hC w mean mg mb) dC d1 d2 _ _ _ _ _ _ _ _ _ _ _ _ _ _ _ _ _ _ _ B F X (fun q hq => N q ?_) T hk hd hu hlen (fun q hq => ?_) hret
  · rcases List.mem_cons.mp hq with rfl | hq
    · exact List.mem_cons_of_mem _ (hled _ List.mem_cons_self)
    · rcases List.mem_cons.mp hq with rfl | hq
      · exact List.mem_cons_self
      · exact List.mem_cons_of_mem _ (hled _ (List.mem_cons_of_mem _ hq))
  · rcases List.mem_cons.mp hq with rfl | hq
    · exact hfS
    rcases List.mem_cons.mp hq with rfl | hq
    · exact hcS
    rcases List.mem_cons.mp hq with rfl | hq
    · exact hc'S
    exact hoff q hq
theorem lam_xN {w : World} {mean : ExcName → Option Value} {mg mb : Str → Option Value} {aS : Addr} {its : List Value} {n : Nat} {f : Addr} {p1 p2 p3 p4 p5 : Pos} {cC : Addr} {pm : Value} {c' : Addr} {ctv : Value} {oC oc : Obj} (rest : List (Addr × Obj)) {v : Value} {msg : Str} {vs : Array Value} {tq : Tok}
    {p : Program} {loose : List Str} {dp un : Nat} {gd : Option (List Code)} {cn : Str} {cs : Scope} {a : Addr} {ccd : Value} {cl : List (Str × Addr)} {outer : List Env} {A₀ : Around} {base h₀ : Heap} {L : Addr} {m : Str → Option Value} {s : Shared} {Q E : Value → Shared → Prop} {led : List (Addr × Obj)}
    (N : News h₀ L s.heap ((f, lamObj p1 p2 p3 p4 p5 cC pm c' ctv) :: led)) (hled : ∀ q ∈ (aS, W.listOf its.toArray n) :: (cC, oC) :: (c', oc) :: rest, q ∈ led)
    (hC : ∀ w mean mg mb, CtrX w mean mg mb aS its n ((f, lamObj p1 p2 p3 p4 p5 cC pm c' ctv) :: (cC, oC) :: (c', oc) :: rest) v msg)
    (dC : oC.data = .cell (some (.ref aS))) (d1 : oc.data = .fields vs) (d2 : vs[1]? = some (.str (Str.ofString "law" ++ Str.ofString ".<locals>." ++ Str.ofString "<lambda>") tq))
    (B : Below A₀ base outer h₀) (F : Fr h₀ L s.heap m) (X : (hd.heap_39 w.params).In h₀) (T : Top p loose mean mg mb h₀) (hk : cs.kind = .function) (hd : dp + 40 < recursionLimit) (hu : un + 400 < cLine) (hlen : its.length < 1000)
    (hfS : f ≠ aS) (hcS : cC ≠ aS) (hc'S : c' ≠ aS) (hoff : ∀ q ∈ rest, q.1 ≠ aS)
    (hret : ∀ e t g h' tm tk, RaisedK base (envX cn cs L a ccd cl :: outer) e (.type "ValueError") t [.str msg tm] ((aS, W.listOf (its ++ [v]).toArray (n + 1)) :: (f, lamObj p1 p2 p3 p4 p5 cC pm c' ctv) :: (cC, oC) :: (c', oc) :: rest) h' → Fr h₀ L g m → g.UpToSlots h' → E (.ref e) { s with heap := h', toks := tk }) :
    wpAny (model PySem.Challenge.rw_dm0047_03.row.prog w) (ktrTop dp un gd cn cs L a ccd cl outer) (call (.ref f) [v]) Q E s := by
  refine lam_x (hC w mean mg mb) dC d1 d2 _ _ _ _ _ _ _ _ _ _ _ _ _ _ _ _ _ _ _ B F X (fun q hq => N q ?_) T hk hd hu hlen (fun q hq => ?_) hret
  · rcases List.mem_cons.mp hq with rfl | hq
    · exact List.mem_cons_of_mem _ (hled _ List.mem_cons_self)
    · rcases List.mem_cons.mp hq with rfl | hq
      · exact List.mem_cons_self
      · exact List.mem_cons_of_mem _ (hled _ (List.mem_cons_of_mem _ hq))
  · rcases List.mem_cons.mp hq with rfl | hq
    · exact hfS
    rcases List.mem_cons.mp hq with rfl | hq
    · exact hcS
    rcases List.mem_cons.mp hq with rfl | hq
    · exact hc'S
    exact hoff q hq
end Mine
end

section
open PySem PySem.W PyProof.Rows Mine
set_option maxRecDepth 100000
set_option maxHeartbeats 8000000
local macro_rules | `(tactic| walk_at "exec For Name Name cons nil") => `(tactic| (k_here; refine stop_in ?_))
local macro_rules | `(tactic| walk_at "InvEndN") => `(tactic| (refine stop_in ?_))
local macro_rules | `(tactic| walk_at "getItem ref int") => `(tactic| (k_here; refine stop_in ?_))
local macro_rules | `(tactic| walk_at "exec For Name List cons nil") => `(tactic| (k_here; refine stop_in ?_))
local macro_rules | `(tactic| walk_at "pyIter ref") => `(tactic| (k_here; refine stop_in ?_))
local macro_rules | `(tactic| walk_at "compareOp NotEq ref ref") => `(tactic| (k_here; refine stop_in ?_))
local macro_rules | `(tactic| walk_at "InvPostG") => `(tactic| (refine stop_in ?_))
structure Mine.Go : Prop where
local macro_rules | `(tactic| walk_at "exec If") => `(tactic| (k_here; (fail_if_success (rename Go => hg9)); refine stop_in ?_))
local macro_rules | `(tactic| walk_at "eval Lambda") => `(tactic| (k_here; refine stop_in ?_))
local macro_rules | `(tactic| walk_at "call builtin:list.append") => `(tactic| (k_here; refine stop_in ?_))
local macro_rules | `(tactic| walk_at "call ref") => `(tactic| (k_here; (with_reducible show wpAny _ _ (call (Value.ref 45) [Value.str _ _, Value.ref 72]) _ _ _); k_dflt (refine' seen3 _ _ _ (by assumption) (by assumption) (by omega) _ _ _ _ _ _ _ _ _ _ _ _ _ _ _ _ _ _ _ _ ?hB9 ?hF9 ?hK9 ?hN9 ?hT9 ?hkd9 ?hrm9 ?hun9 ?_; (case hB9 => k_asm); (case hF9 => k_asm); (case hK9 => k_asm); (case hN9 => k_asm); (case hT9 => k_asm); (case hkd9 => exact rfl); (case hrm9 => k_room); (case hun9 => k_units); k_whole); intro t9 h9 tk9 F9 N9; (try dsimp only)))
local macro_rules | `(tactic| walk_at "call ref") => `(tactic| (k_here; (with_reducible show wpAny _ _ (call (Value.ref 45) [Value.str _ _]) _ _ _); k_dflt (refine' plain3 _ _ _ (by assumption) (by assumption) (by omega) _ _ _ _ _ _ _ _ _ _ _ _ _ _ _ _ _ _ _ _ ?hB9 ?hF9 ?hK9 ?hN9 ?hT9 ?hkd9 ?hrm9 ?hun9 ?_; (case hB9 => k_asm); (case hF9 => k_asm); (case hK9 => k_asm); (case hN9 => k_asm); (case hT9 => k_asm); (case hkd9 => exact rfl); (case hrm9 => k_room); (case hun9 => k_units); k_whole); intro t9 h9 tk9 F9 N9; (try dsimp only)))
local macro_rules | `(tactic| walk_at "call ref") => `(tactic| (k_here; (with_reducible show wpAny _ _ (call (Value.ref 60) [Value.str _ _]) _ _ _); k_dflt (refine' junk3 _ _ _ (by assumption) _ _ _ _ _ _ _ _ _ _ _ _ _ _ _ _ _ _ _ _ ?hB9 ?hF9 ?hK9 ?hN9 ?hT9 ?hkd9 ?hrm9 ?hun9 ?_; (case hB9 => k_asm); (case hF9 => k_asm); (case hK9 => k_asm); (case hN9 => k_asm); (case hT9 => k_asm); (case hkd9 => exact rfl); (case hrm9 => k_room); (case hun9 => k_units); k_whole); intro t9 h9 tk9 F9 N9; (try dsimp only)))
local macro_rules | `(tactic| walk_at "call builtin:len") => `(tactic| (k_here; (with_reducible show wpAny _ _ (call (Value.builtin "len") [Value.ref _]) _ _ _); refine len_push (News.isList (by k_asm) (by k_mem)) (by omega) ?_))
local macro_rules | `(tactic| walk_at "call type:str") => `(tactic| (k_here; (with_reducible show wpAny _ _ (call (Value.type "str") [Value.ref _]) _ _ _); refine stop_in ?_))
local macro_rules | `(tactic| walk_at "compareOp NotEq str str") => `(tactic| (k_here; refine ne_str_self ?_))
theorem PySem.Challenge.cw_dm0047_03_holds : PySem.Challenge.rw_dm0047_03.Holds := by
  refine hd ?_
  w_strict (k_go0; (all_goals try k_fold); k_steps)
  refine stop_out ?_
  rename Fr _ _ _ _ => lF
  rename News _ _ _ _ => lN
  (with_unfolding_all refine' For_invVF lF ?k1 ?k2 ?_)
  case k1 => exact rfl
  case k2 => exact rfl
  iterate 1 (first | walk1 | (dsimp only; walk1))
  rename Heap.IsList (ghostOf _ _) _ _ => hSc
  rename IntsAre _ _ => hI
  rename _ ∧ @LT.lt Nat _ 74 _ => lAB
  obtain ⟨lA, lB⟩ := lAB
  (with_unfolding_all refine' kst_list (σ := S1) (fun c => (_, W.listOf c.1.toArray c.2.2) :: [_, _]) (fun _ => []) (fun c => StrsAre c.1 c.2.1) [Str.ofString "rest", Str.ofString "sign"] P1 ((_, ss0, 0) : S1) (by rfl) hSc hI lF lN ?hf (fun _ h => nomatch h) p1_zero ?turn ?done)
  case hf => exact .cons _ _ (.cons _ _ (.cons _ _ (.cons _ _ (.cons _ _ (.cons _ _ .nil)))))
  case done =>
    clear lF lN
    rintro ⟨vs, ss, nn⟩ u h tk hS ⟨hne, hlen, hLines⟩ F' N'
    dsimp only at hS hne hlen hLines F' N'
    (try k_fold)
    w_strict k_steps
    rename Shared => sB
    rename_i aL hB1 hB2 tkB1 tkB2 aS hA1 FA NA lS hA2 oC dC aH hA3 lH hA4 lF lN
    clear FA NA
    refine stop_out ?_
    (with_unfolding_all refine' For_invVF lF ?k1 ?k2 ?_)
    case k1 => exact rfl
    case k2 => exact rfl
    iterate 1 (first | walk1 | (dsimp only; walk1))
    (with_unfolding_all refine' list_loopG (σ := S2) (fun c => (aH, W.listOf c.1.toArray c.2.1) :: (aS, W.listOf c.1.toArray c.2.2.1) :: (aL, W.listOf vs.toArray nn) :: (sB.heap.objs.size + 1, oC) :: (74, tabObj (psOf c.2.2.2)) :: exOf c.2.2.2) (fun _ => []) [Str.ofString "one", Str.ofString "due", Str.ofString "told", Str.ofString "err"] (fun i c => c.1.length = 2 * i ∧ CodeOk (Str.ofString "law.<locals>.<lambda>") c.2.2.2 ∧ ∀ p ∈ exOf c.2.2.2, aH < p.1) (([], 0, 0, none) : S2) (by rfl) (News.isList lN (List.mem_cons_of_mem _ (List.mem_cons_of_mem _ List.mem_cons_self))) ?hlL ?hl0 lF lN (fun _ h => nomatch h) ⟨rfl, trivial, fun _ h => nomatch h⟩ ?turn2 ?done2)
    case hlL => exact (lN _ (List.mem_cons_of_mem _ (List.mem_cons_of_mem _ List.mem_cons_self))).2.1
    case hl0 => exact (lN _ (List.mem_cons_of_mem _ (List.mem_cons_of_mem _ List.mem_cons_self))).2.2
    case done2 =>
      clear lF lN
      rintro ⟨its, nH, nS, tb⟩ u h tk hP F' N'
      dsimp only at F' N' hP
      (try k_fold)
      have hGo := Go.mk
      w_strict k_steps
    case turn2 =>
      clear lF lN
      rintro ⟨its, nH, nS, tb⟩ i v u h tk I oI ol hi hv ⟨hlen2, hcode, hex⟩ hLI hIl ⟨nol, hol⟩ F' N'
      dsimp only at F' N' hlen2 hcode hex hLI
      obtain ⟨x, tx, hxm, rfl⟩ := strs_get hS i v (by simpa using hv)
      have hx := hLines x hxm
      have hT3 : Text3 x := hx.text (by omega)
      (try k_fold)
      have nI1 : aH ≠ I := hLI (aH, W.listOf its.toArray nH) (by simp)
      have nI2 : aS ≠ I := hLI (aS, W.listOf its.toArray nS) (by simp)
      have nI3 : aL ≠ I := hLI (aL, W.listOf vs.toArray nn) (by simp)
      have nI4 : sB.heap.objs.size + 1 ≠ I := hLI (sB.heap.objs.size + 1, oC) (by simp)
      have nI5 : (74 : Nat) ≠ I := hLI (74, tabObj (psOf tb)) (by simp)
      have hGo := Go.mk
      obtain ⟨b, hb⟩ : ∃ b, jk x.cps.toList = b := ⟨_, rfl⟩
      cases b
      · w_strict k_steps
        refine stop_out ?_
        rename Fr _ _ _ _ => lF
        (with_unfolding_all refine' For_invVF lF ?k1 ?k2 ?_)
        case k1 => exact rfl
        case k2 => exact rfl
        w_strict k_steps
        rename Fr _ _ _ _ => lF
        rename News _ _ _ _ => lN
        refine tupStr_K (by rfl) lF lN (Nat.le_trans hT3.len (by decide)) ?_
        clear lF lN
        intro T tvs hT1 tkT F' N' lT hTS
        w_strict k_steps
        refine stop_out ?_
        rename_i aD hD1 lF lN lD
        have lTH : aH < T := lT _ List.mem_cons_self
        have lDT : T < aD := lD.1
        have lDH : aH < aD := Nat.lt_trans lTH lDT
        have lTI : I < T := lT (I, oI) (by simp)
        have lIH : I ≠ aH := fun e => hLI _ List.mem_cons_self e.symm
        (with_unfolding_all refine' list_loopG (σ := S2) (fun c => (aH, W.listOf c.1.toArray c.2.1) :: (aS, W.listOf c.1.toArray c.2.2.1) :: (aL, W.listOf vs.toArray nn) :: (sB.heap.objs.size + 1, oC) :: (74, tabObj (psOf c.2.2.2)) :: (T, { cls := Value.type "tuple", data := Data.seq tvs.toArray }) :: (I, oI) :: (aL, ol) :: exOf c.2.2.2) (fun _ => []) [Str.ofString "due", Str.ofString "told", Str.ofString "err"] (fun j c => c.1.length = 2 * i + j ∧ CodeOk (Str.ofString "law.<locals>.<lambda>") c.2.2.2 ∧ ∀ p ∈ exOf c.2.2.2, aH < p.1 ∧ p.1 ≠ I) ((its, nH, nS, tb) : S2) (by rfl) (News.isList lN List.mem_cons_self) ?hlL ?hl0 lF ?hN (fun _ h => nomatch h) ⟨hlen2, hcode, fun p hp => ⟨hex p hp, hLI p (by simp [hp])⟩⟩ ?turn3 ?done3)
        case hlL => exact (lN _ List.mem_cons_self).2.1
        case hl0 => exact (lN _ List.mem_cons_self).2.2
        case hN =>
          intro p hp
          refine lN p ?_
          simp only [List.mem_cons, List.mem_append, List.not_mem_nil, or_false] at hp ⊢
          rcases hp with h | h | h | h | h | h | h | h | h <;> simp [h]
        case done3 =>
          clear lF lN
          rintro ⟨its2, nH2, nS2, tb2⟩ u2 h2 tk2 ⟨hl3, hcode2, hex2⟩ F' N'
          dsimp only at F' N' hl3 hcode2 hex2
          (try k_fold)
          w_strict k_steps
          refine stop_out ?_
          rename News _ _ _ _ => lN
          refine ne_same (its := its2.toArray) (News.isList lN (List.mem_cons_of_mem _ List.mem_cons_self)) (News.isList lN List.mem_cons_self) (by k_units) ?_
          w_strict k_steps
          refine stop_out ?_
          rename Fr _ _ _ _ => lF
          refine kstG_end ((its2, nH2, nS2, tb2) : S2) lF lN ?h1 ?h2 ?h3 (fun _ h => nomatch h) ?h4 ?h5
          case h1 =>
            intro p hp
            simp only [List.mem_cons] at hp ⊢
            rcases hp with h | h | h | h | h | h <;> simp [h]
          case h2 =>
            intro p hp
            simp only [List.mem_cons, List.not_mem_nil, or_false] at hp ⊢
            rcases hp with h | h <;> simp [h]
          case h3 =>
            intro p hp
            simp only [List.mem_cons] at hp
            rcases hp with h | h | h | h | h | h
            · subst h; exact nI1
            · subst h; exact nI2
            · subst h; exact nI3
            · subst h; exact nI4
            · subst h; exact nI5
            · exact (hex2 p h).2
          case h4 =>
            intro z h1 _ h3
            simp only [List.contains_cons, List.contains_nil, Bool.or_false, Bool.or_eq_false_iff, beq_eq_false_iff_ne, ne_eq] at h3
            simp [kstB, h1, h3]
          case h5 => exact ⟨by show its2.length = 2 * (i + 1); simp at hl3; omega, hcode2, fun p hp => (hex2 p hp).1⟩
        case turn3 =>
          clear lF lN
          rintro ⟨its2, nH2, nS2, tb2⟩ j v2 u2 h2 tk2 I2 oI2 oD hj hv2 ⟨hl3, hcode2, hex2⟩ hLI2 hI2D ⟨nD, hDd⟩ F' N'
          dsimp only at F' N' hl3 hcode2 hex2 hLI2
          have nJ1 : aH ≠ I2 := hLI2 (aH, W.listOf its2.toArray nH2) (by simp)
          have nJ2 : aS ≠ I2 := hLI2 (aS, W.listOf its2.toArray nS2) (by simp)
          have hj2 : j < 2 := hj
          have hv3 : v2 = .str x tx ∨ v2 = .ref T := by
            obtain rfl | rfl : j = 0 ∨ j = 1 := by omega
            · exact .inl (Option.some.inj hv2).symm
            · exact .inr (Option.some.inj hv2).symm
          have hi3 : i < 69 := by
            have : i < vs.toArray.size := hi
            rw [List.size_toArray, hS.length] at this; omega
          (try k_fold)
          w_strict k_steps
          refine stop_out ?_
          rename Fr _ _ _ _ => lF
          rename News _ _ _ _ => lN
          refine append_K lF lN (Upd.head ?off) ?go ?siz
          case siz => rw [List.size_toArray, hl3, sizeLine_eq]; omega
          case off =>
            intro p hp
            rcases List.mem_append.mp hp with hp | hp
            · rcases List.mem_cons.mp hp with h | hp
              · subst h; exact Nat.ne_of_lt lH.1
              rcases List.mem_cons.mp hp with h | hp
              · subst h; exact Nat.ne_of_lt lH.2.1
              rcases List.mem_cons.mp hp with h | hp
              · subst h; exact Nat.ne_of_lt lH.2.2.1
              rcases List.mem_cons.mp hp with h | hp
              · subst h; exact Nat.ne_of_lt lH.2.2.2
              rcases List.mem_cons.mp hp with h | hp
              · subst h; exact Nat.ne_of_gt lTH
              rcases List.mem_cons.mp hp with h | hp
              · subst h; exact lIH
              rcases List.mem_cons.mp hp with h | hp
              · subst h; exact Nat.ne_of_lt lH.2.1
              exact Nat.ne_of_gt (hex2 p hp).1
            · rcases List.mem_cons.mp hp with h | hp
              · subst h; exact Ne.symm nJ1
              rcases List.mem_cons.mp hp with h | hp
              · subst h; exact Nat.ne_of_gt lDH
              exact nomatch hp
          case go =>
            clear lF lN
            intro h' F' N'
            rw [push_last] at N'
            have nC : sB.heap.objs.size + 1 ≠ 74 := by
              intro e
              have e1 := (N' (74, tabObj (psOf tb2)) (by simp)).1
              have e2 := (N' (sB.heap.objs.size + 1, oC) (by simp)).1
              simp only at e1 e2
              rw [e, e1] at e2
              cases e2; cases dC
            have nJ5 : (74 : Nat) ≠ I2 := hLI2 (74, tabObj (psOf tb2)) (by simp)
            obtain ⟨g, hg⟩ : ∃ g, (!(Builtin.Str.occurrences x (Str.ofString "!") 0 x.length 1).isEmpty) = g := ⟨_, rfl⟩
            cases g
            · w_strict k_steps
              refine wpAny_Try_except ?_
              w_strict k_steps
              refine stop_out ?_
              rename Fr _ _ _ _ => lF
              rename News _ _ _ _ => lN
              refine' lam_K (P := 74) (c := 78) (tb := tb2) (fun tb => (aH, W.listOf (its2 ++ [v2]).toArray (nH2 + 1)) :: (aS, W.listOf its2.toArray nS2) :: (aL, W.listOf vs.toArray nn) :: (sB.heap.objs.size + 1, oC) :: (74, tabObj (psOf tb)) :: (T, { cls := Value.type "tuple", data := Data.seq tvs.toArray }) :: (I, oI) :: (aL, ol) :: (I2, oI2) :: (aD, oD) :: exOf tb) [(aH, W.listOf (its2 ++ [v2]).toArray (nH2 + 1)), (aS, W.listOf its2.toArray nS2), (aL, W.listOf vs.toArray nn), (sB.heap.objs.size + 1, oC)] [(T, { cls := Value.type "tuple", data := Data.seq tvs.toArray }), (I, oI), (aL, ol), (I2, oI2), (aD, oD)] ?hled ?h1 ?h2 hcode2 lF ?hN ?hT ?hC rfl ?hdf rfl rfl rfl ?go2
              case hled => intro tb p; simp [exOf]
              case h1 =>
                intro p hp
                simp only [List.mem_cons, List.not_mem_nil, or_false] at hp
                rcases hp with h | h | h | h <;> subst h
                · exact Nat.ne_of_gt lH.2.2.2
                · exact Nat.ne_of_gt lS.2.2
                · exact Nat.ne_of_gt lB
                · exact nC
              case h2 =>
                intro p hp
                simp only [List.mem_cons, List.not_mem_nil, or_false] at hp
                rcases hp with h | h | h | h | h <;> subst h
                · exact Nat.ne_of_gt (Nat.lt_trans lH.2.2.2 lTH)
                · exact Ne.symm nI5
                · exact Nat.ne_of_gt lB
                · exact Ne.symm nJ5
                · exact Nat.ne_of_gt (Nat.lt_trans lH.2.2.2 lDH)
              case hN =>
                intro p hp
                refine lN p ?_
                revert hp
                simp only [List.mem_cons, List.mem_append, List.append_eq, List.not_mem_nil, or_false]
                intro hp
                rcases hp with h | h | h | h | h | h | h | h | h | h | h <;> simp [h]
              case hT => k_asm
              case hC => kn_code
              case hdf => exact rfl
              case go2 =>
                clear lF lN
                intro f q ctv h3 tk3 F' N' hq hfr hlf
                (try dsimp only at N')
                w_strict k_steps
                obtain ⟨q1, q2⟩ := q
                obtain ⟨vsq, tq, d1, d2⟩ := hq
                have hq1 : aH < q1 ∧ q1 ≠ I ∧ q1 ≠ I2 := by
                  rcases hfr with e | ⟨e, hy⟩
                  · refine ⟨(hex2 (q1, q2) (by rw [e]; exact List.mem_singleton.mpr rfl)).1, (hex2 (q1, q2) (by rw [e]; exact List.mem_singleton.mpr rfl)).2, ?_⟩
                    exact hLI2 (q1, q2) (by rw [e]; simp [exOf])
                  · refine ⟨hy _ List.mem_cons_self, Nat.ne_of_gt (hy (I, oI) (by simp)), Nat.ne_of_gt (hy (I2, oI2) (by simp))⟩
                have hfS : aS < f := hlf (aS, W.listOf its2.toArray nS2) (by simp)
                have hfH : aH < f := hlf (aH, W.listOf (its2 ++ [v2]).toArray (nH2 + 1)) (by simp)
                rename News _ _ _ _ => lN
                refine' lam_rN ((aH, W.listOf (its2 ++ [v2]).toArray (nH2 + 1)) :: (aL, W.listOf vs.toArray nn) :: (74, tabObj (psOf (some (q1, q2)))) :: (T, { cls := Value.type "tuple", data := Data.seq tvs.toArray }) :: (I, oI) :: (aL, ol) :: (I2, oI2) :: (aD, oD) :: []) (aS := aS) (its := its2) (n := nS2) (oc := q2) lN ?hled9 (fun w mean mg mb => reads_r (nT := 0) hv3 hTS hb hg w mean mg mb aS its2 nS2 _ ?hTm) dC d1 d2 ?hB9 ?hF9 ?hK9 ?hT9 rfl ?hrm9 ?hun9 ?hlen9 ?hfS9 ?hcS9 ?hqS9 ?hoff9 ?go3
                case hTm => simp
                case hB9 => k_asm
                case hF9 => k_asm
                case hK9 => k_asm
                case hled9 =>
                  intro p
                  simp only [List.mem_cons, List.not_mem_nil, or_false, exOf]
                  intro hp
                  rcases hp with h | h | h | h | h | h | h | h | h | h | h <;> simp [h]
                case hT9 => k_asm
                case hrm9 => k_room
                case hun9 => k_units
                case hlen9 => rw [hl3]; omega
                case hfS9 => exact Nat.ne_of_gt hfS
                case hcS9 => exact Nat.ne_of_lt lS.2.1
                case hqS9 => exact Nat.ne_of_gt (Nat.lt_trans lH.1 hq1.1)
                case hoff9 =>
                  intro p hp
                  simp only [List.mem_cons, List.not_mem_nil, or_false] at hp
                  have hSH : aS < aH := lH.1
                  rcases hp with h | h | h | h | h | h | h | h <;> subst h
                  · exact Nat.ne_of_gt hSH
                  · exact Nat.ne_of_lt lS.1
                  · exact Nat.ne_of_lt lS.2.2
                  · exact Nat.ne_of_gt (Nat.lt_trans hSH lTH)
                  · exact Ne.symm nI2
                  · exact Nat.ne_of_lt lS.1
                  · exact Ne.symm nJ2
                  · exact Nat.ne_of_gt (Nat.lt_trans hSH lDH)
                case go3 =>
                  clear lN
                  intro h5 tk5 r hr F' N'
                  iterate 1 (first | walk1 | (dsimp only; walk1))
                  refine isnot_r hr ?_
                  w_strict k_steps
                  refine stop_out ?_
                  rename News _ _ _ _ => lN
                  refine ne_same (its := (its2 ++ [v2]).toArray) (News.isList lN List.mem_cons_self) (News.isList lN (by k_mem)) (by k_units) ?_
                  w_strict k_steps
                  refine stop_out ?_
                  rename Fr _ _ _ _ => lF
                  refine kstG_end ((its2 ++ [v2], nH2 + 1, nS2 + 1, some (q1, q2)) : S2) lF lN ?h1 ?h2 ?h3 (fun _ h => nomatch h) ?h4 ?h5
                  case h1 =>
                    intro p
                    simp only [List.mem_cons, List.not_mem_nil, or_false, exOf]
                    intro hp
                    rcases hp with h | h | h | h | h | h | h | h | h <;> simp [h]
                  case h2 =>
                    intro p
                    simp only [List.mem_cons, List.not_mem_nil, or_false]
                    intro hp
                    rcases hp with h | h <;> simp [h]
                  case h3 =>
                    intro p
                    simp only [List.mem_cons, List.not_mem_nil, or_false, exOf]
                    intro hp
                    rcases hp with h | h | h | h | h | h | h | h | h <;> subst h
                    · exact nJ1
                    · exact nJ2
                    · exact hLI2 (aL, W.listOf vs.toArray nn) (by simp)
                    · exact hLI2 (sB.heap.objs.size + 1, oC) (by simp)
                    · exact nJ5
                    · exact hLI2 (T, { cls := Value.type "tuple", data := Data.seq tvs.toArray }) (by simp)
                    · exact hLI2 (I, oI) (by simp)
                    · exact hLI2 (aL, W.listOf vs.toArray nn) (by simp)
                    · exact hq1.2.2
                  case h4 =>
                    intro z h1 _ h3
                    simp only [List.contains_cons, List.contains_nil, Bool.or_false, Bool.or_eq_false_iff, beq_eq_false_iff_ne, ne_eq] at h3
                    simp [kstB, h1, h3]
                  case h5 =>
                    refine ⟨by simp only [List.length_append, List.length_singleton, hl3]; omega, ⟨vsq, tq, d1, d2⟩, fun p hp => ?_⟩
                    rw [List.mem_singleton.mp hp]
                    exact ⟨hq1.1, hq1.2.1⟩
            · w_strict k_steps
              refine wpAny_Try_except ?_
              w_strict k_steps
              refine stop_out ?_
              rename Fr _ _ _ _ => lF
              rename News _ _ _ _ => lN
              refine' lam_K (P := 74) (c := 78) (tb := tb2) (fun tb => (aH, W.listOf (its2 ++ [v2]).toArray (nH2 + 1)) :: (aS, W.listOf its2.toArray nS2) :: (aL, W.listOf vs.toArray nn) :: (sB.heap.objs.size + 1, oC) :: (74, tabObj (psOf tb)) :: (T, { cls := Value.type "tuple", data := Data.seq tvs.toArray }) :: (I, oI) :: (aL, ol) :: (I2, oI2) :: (aD, oD) :: exOf tb) [(aH, W.listOf (its2 ++ [v2]).toArray (nH2 + 1)), (aS, W.listOf its2.toArray nS2), (aL, W.listOf vs.toArray nn), (sB.heap.objs.size + 1, oC)] [(T, { cls := Value.type "tuple", data := Data.seq tvs.toArray }), (I, oI), (aL, ol), (I2, oI2), (aD, oD)] ?hled ?h1 ?h2 hcode2 lF ?hN ?hT ?hC rfl ?hdf rfl rfl rfl ?go2
              case hled => intro tb p; simp [exOf]
              case h1 =>
                intro p hp
                simp only [List.mem_cons, List.not_mem_nil, or_false] at hp
                rcases hp with h | h | h | h <;> subst h
                · exact Nat.ne_of_gt lH.2.2.2
                · exact Nat.ne_of_gt lS.2.2
                · exact Nat.ne_of_gt lB
                · exact nC
              case h2 =>
                intro p hp
                simp only [List.mem_cons, List.not_mem_nil, or_false] at hp
                rcases hp with h | h | h | h | h <;> subst h
                · exact Nat.ne_of_gt (Nat.lt_trans lH.2.2.2 lTH)
                · exact Ne.symm nI5
                · exact Nat.ne_of_gt lB
                · exact Ne.symm nJ5
                · exact Nat.ne_of_gt (Nat.lt_trans lH.2.2.2 lDH)
              case hN =>
                intro p hp
                refine lN p ?_
                revert hp
                simp only [List.mem_cons, List.mem_append, List.append_eq, List.not_mem_nil, or_false]
                intro hp
                rcases hp with h | h | h | h | h | h | h | h | h | h | h <;> simp [h]
              case hT => k_asm
              case hC => kn_code
              case hdf => exact rfl
              case go2 =>
                clear lF lN
                intro f q ctv h3 tk3 F' N' hq hfr hlf
                (try dsimp only at N')
                w_strict k_steps
                obtain ⟨q1, q2⟩ := q
                obtain ⟨vsq, tq, d1, d2⟩ := hq
                have hq1 : aH < q1 ∧ q1 ≠ I ∧ q1 ≠ I2 := by
                  rcases hfr with e | ⟨e, hy⟩
                  · refine ⟨(hex2 (q1, q2) (by rw [e]; exact List.mem_singleton.mpr rfl)).1, (hex2 (q1, q2) (by rw [e]; exact List.mem_singleton.mpr rfl)).2, ?_⟩
                    exact hLI2 (q1, q2) (by rw [e]; simp [exOf])
                  · refine ⟨hy _ List.mem_cons_self, Nat.ne_of_gt (hy (I, oI) (by simp)), Nat.ne_of_gt (hy (I2, oI2) (by simp))⟩
                have hfS : aS < f := hlf (aS, W.listOf its2.toArray nS2) (by simp)
                have hfH : aH < f := hlf (aH, W.listOf (its2 ++ [v2]).toArray (nH2 + 1)) (by simp)
                rename News _ _ _ _ => lN
                refine' lam_xN ((aH, W.listOf (its2 ++ [v2]).toArray (nH2 + 1)) :: (aL, W.listOf vs.toArray nn) :: (74, tabObj (psOf (some (q1, q2)))) :: (T, { cls := Value.type "tuple", data := Data.seq tvs.toArray }) :: (I, oI) :: (aL, ol) :: (I2, oI2) :: (aD, oD) :: []) (aS := aS) (its := its2) (n := nS2) (oc := q2) lN ?hled9 (fun w mean mg mb => reads_x (nT := 0) hv3 hTS hg w mean mg mb aS its2 nS2 _ ?hTm) dC d1 d2 ?hB9 ?hF9 ?hK9 ?hT9 rfl ?hrm9 ?hun9 ?hlen9 ?hfS9 ?hcS9 ?hqS9 ?hoff9 ?go3
                case hTm => simp
                case hB9 => k_asm
                case hF9 => k_asm
                case hK9 => k_asm
                case hled9 =>
                  intro p
                  simp only [List.mem_cons, List.not_mem_nil, or_false, exOf]
                  intro hp
                  rcases hp with h | h | h | h | h | h | h | h | h | h | h <;> simp [h]
                case hT9 => k_asm
                case hrm9 => k_room
                case hun9 => k_units
                case hlen9 => rw [hl3]; omega
                case hfS9 => exact Nat.ne_of_gt hfS
                case hcS9 => exact Nat.ne_of_lt lS.2.1
                case hqS9 => exact Nat.ne_of_gt (Nat.lt_trans lH.1 hq1.1)
                case hoff9 =>
                  intro p hp
                  simp only [List.mem_cons, List.not_mem_nil, or_false] at hp
                  have hSH : aS < aH := lH.1
                  rcases hp with h | h | h | h | h | h | h | h <;> subst h
                  · exact Nat.ne_of_gt hSH
                  · exact Nat.ne_of_lt lS.1
                  · exact Nat.ne_of_lt lS.2.2
                  · exact Nat.ne_of_gt (Nat.lt_trans hSH lTH)
                  · exact Ne.symm nI2
                  · exact Nat.ne_of_lt lS.1
                  · exact Ne.symm nJ2
                  · exact Nat.ne_of_gt (Nat.lt_trans hSH lDH)
                case go3 =>
                  clear lN
                  intro e tE gE h5 tmE tk5 hR F' hsl
                  refine' leave_onX ?hB8 F' hR hsl fun h6 hR2 hs2 => ?_
                  case hB8 => k_asm
                  clear F' hsl
                  refine' caught_XB (X := "ValueError") (T' := "ValueError") ?hK8 ?hF8 hs2 hR2 ?hT8 ?hX8 ?hn8 PyProof.Rows.Boot.«ValueError» PySem.F.isExc_ValueError PySem.F.notTuple_ValueError ?hs8 ?go8
                  case hK8 => k_asm
                  case hF8 => assumption
                  case hT8 => k_asm
                  case hX8 => k_asm
                  case hn8 => rfl
                  case hs8 => rw [isSubtype_type]; kernel_rfl
                  case go8 =>
                    intro h7 news7 tk7 F' N7 G7 N'
                    w_strict k_steps
                    refine stop_out ?_
                    refine str_got_one PySem.F.excStr_ValueError N7 G7 (by k_units) ?_
                    w_strict k_steps
                    rename Fr _ _ _ _ => lF
                    rename News _ _ _ _ => lN
                    refine nameX_goes lF lN ?_
                    clear lF lN
                    intro h8 v8 F' N'
                    w_strict k_steps
                    refine stop_out ?_
                    rename News _ _ _ _ => lN
                    refine ne_same (its := (its2 ++ [v2]).toArray) (News.isList lN List.mem_cons_self) (News.isList lN (by k_mem)) (by k_units) ?_
                    w_strict k_steps
                    refine stop_out ?_
                    rename Fr _ _ _ _ => lF
                    refine kstG_end ((its2 ++ [v2], nH2 + 1, nS2 + 1, some (q1, q2)) : S2) lF lN ?h1 ?h2 ?h3 (fun _ h => nomatch h) ?h4 ?h5
                    case h1 =>
                      intro p
                      simp only [List.mem_cons, List.not_mem_nil, or_false, exOf]
                      intro hp
                      rcases hp with h | h | h | h | h | h | h | h | h <;> simp [h]
                    case h2 =>
                      intro p
                      simp only [List.mem_cons, List.not_mem_nil, or_false]
                      intro hp
                      rcases hp with h | h <;> simp [h]
                    case h3 =>
                      intro p
                      simp only [List.mem_cons, List.not_mem_nil, or_false, exOf]
                      intro hp
                      rcases hp with h | h | h | h | h | h | h | h | h <;> subst h
                      · exact nJ1
                      · exact nJ2
                      · exact hLI2 (aL, W.listOf vs.toArray nn) (by simp)
                      · exact hLI2 (sB.heap.objs.size + 1, oC) (by simp)
                      · exact nJ5
                      · exact hLI2 (T, { cls := Value.type "tuple", data := Data.seq tvs.toArray }) (by simp)
                      · exact hLI2 (I, oI) (by simp)
                      · exact hLI2 (aL, W.listOf vs.toArray nn) (by simp)
                      · exact hq1.2.2
                    case h4 =>
                      intro z h1 _ h3
                      simp only [List.contains_cons, List.contains_nil, Bool.or_false, Bool.or_eq_false_iff, beq_eq_false_iff_ne, ne_eq] at h3
                      simp [kstB, h1, h3]
                    case h5 =>
                      refine ⟨by simp only [List.length_append, List.length_singleton, hl3]; omega, ⟨vsq, tq, d1, d2⟩, fun p hp => ?_⟩
                      rw [List.mem_singleton.mp hp]
                      exact ⟨hq1.1, hq1.2.1⟩
      · w_strict k_steps
        refine stop_out ?_
        rename Fr _ _ _ _ => lF
        (with_unfolding_all refine' For_invVF lF ?k1 ?k2 ?_)
        case k1 => exact rfl
        case k2 => exact rfl
        w_strict k_steps
        rename Fr _ _ _ _ => lF
        rename News _ _ _ _ => lN
        refine tupStr_K (by rfl) lF lN (Nat.le_trans hT3.len (by decide)) ?_
        clear lF lN
        intro T tvs hT1 tkT F' N' lT hTS
        w_strict k_steps
        refine stop_out ?_
        rename_i aD hD1 lF lN lD
        have lTH : aH < T := lT _ List.mem_cons_self
        have lDT : T < aD := lD.1
        have lDH : aH < aD := Nat.lt_trans lTH lDT
        have lTI : I < T := lT (I, oI) (by simp)
        have lIH : I ≠ aH := fun e => hLI _ List.mem_cons_self e.symm
        (with_unfolding_all refine' list_loopG (σ := S2) (fun c => (aH, W.listOf c.1.toArray c.2.1) :: (aS, W.listOf c.1.toArray c.2.2.1) :: (aL, W.listOf vs.toArray nn) :: (sB.heap.objs.size + 1, oC) :: (74, tabObj (psOf c.2.2.2)) :: (T, { cls := Value.type "tuple", data := Data.seq tvs.toArray }) :: (I, oI) :: (aL, ol) :: exOf c.2.2.2) (fun _ => []) [Str.ofString "due", Str.ofString "told", Str.ofString "err"] (fun j c => c.1.length = 2 * i + j ∧ CodeOk (Str.ofString "law.<locals>.<lambda>") c.2.2.2 ∧ ∀ p ∈ exOf c.2.2.2, aH < p.1 ∧ p.1 ≠ I) ((its, nH, nS, tb) : S2) (by rfl) (News.isList lN List.mem_cons_self) ?hlL ?hl0 lF ?hN (fun _ h => nomatch h) ⟨hlen2, hcode, fun p hp => ⟨hex p hp, hLI p (by simp [hp])⟩⟩ ?turn3 ?done3)
        case hlL => exact (lN _ List.mem_cons_self).2.1
        case hl0 => exact (lN _ List.mem_cons_self).2.2
        case hN =>
          intro p hp
          refine lN p ?_
          simp only [List.mem_cons, List.mem_append, List.not_mem_nil, or_false] at hp ⊢
          rcases hp with h | h | h | h | h | h | h | h | h <;> simp [h]
        case done3 =>
          clear lF lN
          rintro ⟨its2, nH2, nS2, tb2⟩ u2 h2 tk2 ⟨hl3, hcode2, hex2⟩ F' N'
          dsimp only at F' N' hl3 hcode2 hex2
          (try k_fold)
          w_strict k_steps
          refine stop_out ?_
          rename News _ _ _ _ => lN
          refine ne_same (its := its2.toArray) (News.isList lN (List.mem_cons_of_mem _ List.mem_cons_self)) (News.isList lN List.mem_cons_self) (by k_units) ?_
          w_strict k_steps
          refine stop_out ?_
          rename Fr _ _ _ _ => lF
          refine kstG_end ((its2, nH2, nS2, tb2) : S2) lF lN ?h1 ?h2 ?h3 (fun _ h => nomatch h) ?h4 ?h5
          case h1 =>
            intro p hp
            simp only [List.mem_cons] at hp ⊢
            rcases hp with h | h | h | h | h | h <;> simp [h]
          case h2 =>
            intro p hp
            simp only [List.mem_cons, List.not_mem_nil, or_false] at hp ⊢
            rcases hp with h | h <;> simp [h]
          case h3 =>
            intro p hp
            simp only [List.mem_cons] at hp
            rcases hp with h | h | h | h | h | h
            · subst h; exact nI1
            · subst h; exact nI2
            · subst h; exact nI3
            · subst h; exact nI4
            · subst h; exact nI5
            · exact (hex2 p h).2
          case h4 =>
            intro z h1 _ h3
            simp only [List.contains_cons, List.contains_nil, Bool.or_false, Bool.or_eq_false_iff, beq_eq_false_iff_ne, ne_eq] at h3
            simp [kstB, h1, h3]
          case h5 => exact ⟨by show its2.length = 2 * (i + 1); simp at hl3; omega, hcode2, fun p hp => (hex2 p hp).1⟩
        case turn3 =>
          clear lF lN
          rintro ⟨its2, nH2, nS2, tb2⟩ j v2 u2 h2 tk2 I2 oI2 oD hj hv2 ⟨hl3, hcode2, hex2⟩ hLI2 hI2D ⟨nD, hDd⟩ F' N'
          dsimp only at F' N' hl3 hcode2 hex2 hLI2
          have nJ1 : aH ≠ I2 := hLI2 (aH, W.listOf its2.toArray nH2) (by simp)
          have nJ2 : aS ≠ I2 := hLI2 (aS, W.listOf its2.toArray nS2) (by simp)
          have hj2 : j < 2 := hj
          have hv3 : v2 = .str x tx ∨ v2 = .ref T := by
            obtain rfl | rfl : j = 0 ∨ j = 1 := by omega
            · exact .inl (Option.some.inj hv2).symm
            · exact .inr (Option.some.inj hv2).symm
          have hi3 : i < 69 := by
            have : i < vs.toArray.size := hi
            rw [List.size_toArray, hS.length] at this; omega
          (try k_fold)
          w_strict k_steps
          refine stop_out ?_
          rename Fr _ _ _ _ => lF
          rename News _ _ _ _ => lN
          refine append_K lF lN (Upd.head ?off) ?go ?siz
          case siz => rw [List.size_toArray, hl3, sizeLine_eq]; omega
          case off =>
            intro p hp
            rcases List.mem_append.mp hp with hp | hp
            · rcases List.mem_cons.mp hp with h | hp
              · subst h; exact Nat.ne_of_lt lH.1
              rcases List.mem_cons.mp hp with h | hp
              · subst h; exact Nat.ne_of_lt lH.2.1
              rcases List.mem_cons.mp hp with h | hp
              · subst h; exact Nat.ne_of_lt lH.2.2.1
              rcases List.mem_cons.mp hp with h | hp
              · subst h; exact Nat.ne_of_lt lH.2.2.2
              rcases List.mem_cons.mp hp with h | hp
              · subst h; exact Nat.ne_of_gt lTH
              rcases List.mem_cons.mp hp with h | hp
              · subst h; exact lIH
              rcases List.mem_cons.mp hp with h | hp
              · subst h; exact Nat.ne_of_lt lH.2.1
              exact Nat.ne_of_gt (hex2 p hp).1
            · rcases List.mem_cons.mp hp with h | hp
              · subst h; exact Ne.symm nJ1
              rcases List.mem_cons.mp hp with h | hp
              · subst h; exact Nat.ne_of_gt lDH
              exact nomatch hp
          case go =>
            clear lF lN
            intro h' F' N'
            rw [push_last] at N'
            have nC : sB.heap.objs.size + 1 ≠ 74 := by
              intro e
              have e1 := (N' (74, tabObj (psOf tb2)) (by simp)).1
              have e2 := (N' (sB.heap.objs.size + 1, oC) (by simp)).1
              simp only at e1 e2
              rw [e, e1] at e2
              cases e2; cases dC
            have nJ5 : (74 : Nat) ≠ I2 := hLI2 (74, tabObj (psOf tb2)) (by simp)
            obtain ⟨g, hg⟩ : ∃ g, (!(Builtin.Str.occurrences x (Str.ofString "!") 0 x.length 1).isEmpty) = g := ⟨_, rfl⟩
            cases g
            · w_strict k_steps
              refine wpAny_Try_except ?_
              w_strict k_steps
              refine stop_out ?_
              rename Fr _ _ _ _ => lF
              rename News _ _ _ _ => lN
              refine' lam_K (P := 74) (c := 78) (tb := tb2) (fun tb => (aH, W.listOf (its2 ++ [v2]).toArray (nH2 + 1)) :: (aS, W.listOf its2.toArray nS2) :: (aL, W.listOf vs.toArray nn) :: (sB.heap.objs.size + 1, oC) :: (74, tabObj (psOf tb)) :: (T, { cls := Value.type "tuple", data := Data.seq tvs.toArray }) :: (I, oI) :: (aL, ol) :: (I2, oI2) :: (aD, oD) :: exOf tb) [(aH, W.listOf (its2 ++ [v2]).toArray (nH2 + 1)), (aS, W.listOf its2.toArray nS2), (aL, W.listOf vs.toArray nn), (sB.heap.objs.size + 1, oC)] [(T, { cls := Value.type "tuple", data := Data.seq tvs.toArray }), (I, oI), (aL, ol), (I2, oI2), (aD, oD)] ?hled ?h1 ?h2 hcode2 lF ?hN ?hT ?hC rfl ?hdf rfl rfl rfl ?go2
              case hled => intro tb p; simp [exOf]
              case h1 =>
                intro p hp
                simp only [List.mem_cons, List.not_mem_nil, or_false] at hp
                rcases hp with h | h | h | h <;> subst h
                · exact Nat.ne_of_gt lH.2.2.2
                · exact Nat.ne_of_gt lS.2.2
                · exact Nat.ne_of_gt lB
                · exact nC
              case h2 =>
                intro p hp
                simp only [List.mem_cons, List.not_mem_nil, or_false] at hp
                rcases hp with h | h | h | h | h <;> subst h
                · exact Nat.ne_of_gt (Nat.lt_trans lH.2.2.2 lTH)
                · exact Ne.symm nI5
                · exact Nat.ne_of_gt lB
                · exact Ne.symm nJ5
                · exact Nat.ne_of_gt (Nat.lt_trans lH.2.2.2 lDH)
              case hN =>
                intro p hp
                refine lN p ?_
                revert hp
                simp only [List.mem_cons, List.mem_append, List.append_eq, List.not_mem_nil, or_false]
                intro hp
                rcases hp with h | h | h | h | h | h | h | h | h | h | h <;> simp [h]
              case hT => k_asm
              case hC => kn_code
              case hdf => exact rfl
              case go2 =>
                clear lF lN
                intro f q ctv h3 tk3 F' N' hq hfr hlf
                (try dsimp only at N')
                w_strict k_steps
                obtain ⟨q1, q2⟩ := q
                obtain ⟨vsq, tq, d1, d2⟩ := hq
                have hq1 : aH < q1 ∧ q1 ≠ I ∧ q1 ≠ I2 := by
                  rcases hfr with e | ⟨e, hy⟩
                  · refine ⟨(hex2 (q1, q2) (by rw [e]; exact List.mem_singleton.mpr rfl)).1, (hex2 (q1, q2) (by rw [e]; exact List.mem_singleton.mpr rfl)).2, ?_⟩
                    exact hLI2 (q1, q2) (by rw [e]; simp [exOf])
                  · refine ⟨hy _ List.mem_cons_self, Nat.ne_of_gt (hy (I, oI) (by simp)), Nat.ne_of_gt (hy (I2, oI2) (by simp))⟩
                have hfS : aS < f := hlf (aS, W.listOf its2.toArray nS2) (by simp)
                have hfH : aH < f := hlf (aH, W.listOf (its2 ++ [v2]).toArray (nH2 + 1)) (by simp)
                rename News _ _ _ _ => lN
                refine' lam_rN ((aH, W.listOf (its2 ++ [v2]).toArray (nH2 + 1)) :: (aL, W.listOf vs.toArray nn) :: (74, tabObj (psOf (some (q1, q2)))) :: (T, { cls := Value.type "tuple", data := Data.seq tvs.toArray }) :: (I, oI) :: (aL, ol) :: (I2, oI2) :: (aD, oD) :: []) (aS := aS) (its := its2) (n := nS2) (oc := q2) lN ?hled9 (fun w mean mg mb => reads_r (nT := 0) hv3 hTS hb hg w mean mg mb aS its2 nS2 _ ?hTm) dC d1 d2 ?hB9 ?hF9 ?hK9 ?hT9 rfl ?hrm9 ?hun9 ?hlen9 ?hfS9 ?hcS9 ?hqS9 ?hoff9 ?go3
                case hTm => simp
                case hB9 => k_asm
                case hF9 => k_asm
                case hK9 => k_asm
                case hled9 =>
                  intro p
                  simp only [List.mem_cons, List.not_mem_nil, or_false, exOf]
                  intro hp
                  rcases hp with h | h | h | h | h | h | h | h | h | h | h <;> simp [h]
                case hT9 => k_asm
                case hrm9 => k_room
                case hun9 => k_units
                case hlen9 => rw [hl3]; omega
                case hfS9 => exact Nat.ne_of_gt hfS
                case hcS9 => exact Nat.ne_of_lt lS.2.1
                case hqS9 => exact Nat.ne_of_gt (Nat.lt_trans lH.1 hq1.1)
                case hoff9 =>
                  intro p hp
                  simp only [List.mem_cons, List.not_mem_nil, or_false] at hp
                  have hSH : aS < aH := lH.1
                  rcases hp with h | h | h | h | h | h | h | h <;> subst h
                  · exact Nat.ne_of_gt hSH
                  · exact Nat.ne_of_lt lS.1
                  · exact Nat.ne_of_lt lS.2.2
                  · exact Nat.ne_of_gt (Nat.lt_trans hSH lTH)
                  · exact Ne.symm nI2
                  · exact Nat.ne_of_lt lS.1
                  · exact Ne.symm nJ2
                  · exact Nat.ne_of_gt (Nat.lt_trans hSH lDH)
                case go3 =>
                  clear lN
                  intro h5 tk5 r hr F' N'
                  iterate 1 (first | walk1 | (dsimp only; walk1))
                  refine isnot_r hr ?_
                  w_strict k_steps
                  refine stop_out ?_
                  rename News _ _ _ _ => lN
                  refine ne_same (its := (its2 ++ [v2]).toArray) (News.isList lN List.mem_cons_self) (News.isList lN (by k_mem)) (by k_units) ?_
                  w_strict k_steps
                  refine stop_out ?_
                  rename Fr _ _ _ _ => lF
                  refine kstG_end ((its2 ++ [v2], nH2 + 1, nS2 + 1, some (q1, q2)) : S2) lF lN ?h1 ?h2 ?h3 (fun _ h => nomatch h) ?h4 ?h5
                  case h1 =>
                    intro p
                    simp only [List.mem_cons, List.not_mem_nil, or_false, exOf]
                    intro hp
                    rcases hp with h | h | h | h | h | h | h | h | h <;> simp [h]
                  case h2 =>
                    intro p
                    simp only [List.mem_cons, List.not_mem_nil, or_false]
                    intro hp
                    rcases hp with h | h <;> simp [h]
                  case h3 =>
                    intro p
                    simp only [List.mem_cons, List.not_mem_nil, or_false, exOf]
                    intro hp
                    rcases hp with h | h | h | h | h | h | h | h | h <;> subst h
                    · exact nJ1
                    · exact nJ2
                    · exact hLI2 (aL, W.listOf vs.toArray nn) (by simp)
                    · exact hLI2 (sB.heap.objs.size + 1, oC) (by simp)
                    · exact nJ5
                    · exact hLI2 (T, { cls := Value.type "tuple", data := Data.seq tvs.toArray }) (by simp)
                    · exact hLI2 (I, oI) (by simp)
                    · exact hLI2 (aL, W.listOf vs.toArray nn) (by simp)
                    · exact hq1.2.2
                  case h4 =>
                    intro z h1 _ h3
                    simp only [List.contains_cons, List.contains_nil, Bool.or_false, Bool.or_eq_false_iff, beq_eq_false_iff_ne, ne_eq] at h3
                    simp [kstB, h1, h3]
                  case h5 =>
                    refine ⟨by simp only [List.length_append, List.length_singleton, hl3]; omega, ⟨vsq, tq, d1, d2⟩, fun p hp => ?_⟩
                    rw [List.mem_singleton.mp hp]
                    exact ⟨hq1.1, hq1.2.1⟩
            · exact absurd (hb.symm.trans (jk_bang hg)) (by decide)
  case turn =>
    clear lF lN
    rintro ⟨vs, ss, nn⟩ pre post n t u h tk own hns hn hoff hS hP F' N'
    dsimp only at hS F' N' hoff
    obtain ⟨vs', sl, tl, ss', rfl, rfl, hS'⟩ := strs_last hS hP.1
    have hsl := hP.2.2 sl (List.mem_append_right _ (List.mem_singleton.mpr rfl))
    have hpre : pre.length ≤ 63 := by
      have := congrArg List.length hns
      simp only [List.length_append, List.length_cons] at this
      omega
    (try k_fold)
    w_strict k_steps
    all_goals (refine stop_out ?_; have hGo := Go.mk)
    · have hsg := sign_bang
      w_strict k_steps
      · -- lines.append(sign)
        refine stop_out ?_
        rename Fr _ _ _ _ => lF
        rename News _ _ _ _ => lN
        refine append_K lF lN (Upd.head ?off) ?go ?siz
        case off =>
          have h1 := OwnOff.ne hoff List.mem_cons_self
          intro p hp
          rcases List.mem_cons.mp hp with rfl | hp
          · exact Nat.ne_of_lt lA
          · rcases List.mem_cons.mp hp with rfl | hp
            · exact Nat.ne_of_lt lB
            · exact h1 p hp
        case siz => rw [List.size_toArray, hS.length, sizeLine_eq]; have := hP.2.1; simp only [List.length_append, List.length_singleton] at this ⊢; omega
        case go =>
          clear lF lN
          intro h' F' N'
          rw [push_last] at N'
          w_strict k_steps
          refine stop_out ?_
          rename Fr _ _ _ _ => lF
          rename News _ _ _ _ => lN
          refine kst_end (_, _, _) lF lN (fun p hp => List.mem_append_left _ hp) (fun p hp => List.mem_cons_of_mem _ (List.mem_cons_of_mem _ (List.mem_cons_of_mem _ hp))) rfl (strs_snoc hS) (fun _ h => nomatch h) ?_ (p1_append hP hsg)
          intro z h1 _ h3
          simp only [List.contains_cons, List.contains_nil, Bool.or_false, Bool.or_eq_false_iff, beq_eq_false_iff_ne, ne_eq] at h3
          simp [kstB, h1, h3]
      · -- lines[-1] += sign
        refine stop_out ?_
        rename Fr _ _ _ _ => lF
        rename News _ _ _ _ => lN
        refine' wpAny_getItem_list_neg (x := Value.str sl tl) ?h1 ?h2 ?h3 ?h4 ?h5 ?_
        case h1 => exact News.isList lN List.mem_cons_self
        case h2 => decide
        case h3 => simp; omega
        case h4 => decide
        case h5 => simp [show ((-1 : Int) + ((vs'.length : Int) + 1)).toNat = vs'.length by omega]
        w_strict k_steps
        refine SB.iadd (fun t9 k9 => ?_) (by rw [sizeLine_eq]; have := hsl.len; have := hsg.len; omega)
        w_strict k_steps
        refine setLast_K lF lN (Upd.head ?off) ?pos ?siz ?go
        case off =>
          have h1 := OwnOff.ne hoff List.mem_cons_self
          intro p hp
          rcases List.mem_cons.mp hp with rfl | hp
          · exact Nat.ne_of_lt lA
          · rcases List.mem_cons.mp hp with rfl | hp
            · exact Nat.ne_of_lt lB
            · exact h1 p hp
        case pos => simp
        case siz => rw [List.size_toArray, hS.length, sizeLine_eq]; have := hP.2.1; simp only [List.length_append, List.length_singleton] at this ⊢; omega
        case go =>
          clear lF lN
          intro h' F' N'
          rw [set_last] at N'
          w_strict k_steps
          refine stop_out ?_
          rename Fr _ _ _ _ => lF
          rename News _ _ _ _ => lN
          refine kst_end (_, _, _) lF lN (fun p hp => List.mem_append_left _ hp) (fun p hp => List.mem_cons_of_mem _ (List.mem_cons_of_mem _ (List.mem_cons_of_mem _ hp))) rfl (strs_snoc hS') (fun _ h => nomatch h) ?_ (p1_grow hP hsg)
          intro z h1 _ h3
          simp only [List.contains_cons, List.contains_nil, Bool.or_false, Bool.or_eq_false_iff, beq_eq_false_iff_ne, ne_eq] at h3
          simp [kstB, h1, h3]
    · have hsg := @sign_of n
      w_strict k_steps
      · -- lines.append(sign)
        refine stop_out ?_
        rename Fr _ _ _ _ => lF
        rename News _ _ _ _ => lN
        refine append_K lF lN (Upd.head ?off) ?go ?siz
        case off =>
          have h1 := OwnOff.ne hoff List.mem_cons_self
          intro p hp
          rcases List.mem_cons.mp hp with rfl | hp
          · exact Nat.ne_of_lt lA
          · rcases List.mem_cons.mp hp with rfl | hp
            · exact Nat.ne_of_lt lB
            · exact h1 p hp
        case siz => rw [List.size_toArray, hS.length, sizeLine_eq]; have := hP.2.1; simp only [List.length_append, List.length_singleton] at this ⊢; omega
        case go =>
          clear lF lN
          intro h' F' N'
          rw [push_last] at N'
          w_strict k_steps
          refine stop_out ?_
          rename Fr _ _ _ _ => lF
          rename News _ _ _ _ => lN
          refine kst_end (_, _, _) lF lN (fun p hp => List.mem_append_left _ hp) (fun p hp => List.mem_cons_of_mem _ (List.mem_cons_of_mem _ (List.mem_cons_of_mem _ hp))) rfl (strs_snoc hS) (fun _ h => nomatch h) ?_ (p1_append hP hsg)
          intro z h1 _ h3
          simp only [List.contains_cons, List.contains_nil, Bool.or_false, Bool.or_eq_false_iff, beq_eq_false_iff_ne, ne_eq] at h3
          simp [kstB, h1, h3]
      · -- lines[-1] += sign
        refine stop_out ?_
        rename Fr _ _ _ _ => lF
        rename News _ _ _ _ => lN
        refine' wpAny_getItem_list_neg (x := Value.str sl tl) ?h1 ?h2 ?h3 ?h4 ?h5 ?_
        case h1 => exact News.isList lN List.mem_cons_self
        case h2 => decide
        case h3 => simp; omega
        case h4 => decide
        case h5 => simp [show ((-1 : Int) + ((vs'.length : Int) + 1)).toNat = vs'.length by omega]
        w_strict k_steps
        refine SB.iadd (fun t9 k9 => ?_) (by rw [sizeLine_eq]; have := hsl.len; have := hsg.len; omega)
        w_strict k_steps
        refine setLast_K lF lN (Upd.head ?off) ?pos ?siz ?go
        case off =>
          have h1 := OwnOff.ne hoff List.mem_cons_self
          intro p hp
          rcases List.mem_cons.mp hp with rfl | hp
          · exact Nat.ne_of_lt lA
          · rcases List.mem_cons.mp hp with rfl | hp
            · exact Nat.ne_of_lt lB
            · exact h1 p hp
        case pos => simp
        case siz => rw [List.size_toArray, hS.length, sizeLine_eq]; have := hP.2.1; simp only [List.length_append, List.length_singleton] at this ⊢; omega
        case go =>
          clear lF lN
          intro h' F' N'
          rw [set_last] at N'
          w_strict k_steps
          refine stop_out ?_
          rename Fr _ _ _ _ => lF
          rename News _ _ _ _ => lN
          refine kst_end (_, _, _) lF lN (fun p hp => List.mem_append_left _ hp) (fun p hp => List.mem_cons_of_mem _ (List.mem_cons_of_mem _ (List.mem_cons_of_mem _ hp))) rfl (strs_snoc hS') (fun _ h => nomatch h) ?_ (p1_grow hP hsg)
          intro z h1 _ h3
          simp only [List.contains_cons, List.contains_nil, Bool.or_false, Bool.or_eq_false_iff, beq_eq_false_iff_ne, ne_eq] at h3
          simp [kstB, h1, h3]
end

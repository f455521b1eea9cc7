import PyProof.Rows.All
import Wide.All
import OpenK.AllK
import Wide.FinOn
import PySem.Challenge.RW_dm0047_01
set_option Elab.async false

section
open PySem PySem.W PyProof.Rows
set_option maxRecDepth 100000
set_option maxHeartbeats 8000000
open_top Mine.hd for PySem.Challenge.rw_dm0047_01
end

section
open PySem PySem.W PyProof.Rows PySem.Calls PySem.Spec Builtin
set_option maxRecDepth 100000
namespace Mine
section
variable {α : Type} {M : Model} {A : Around} {E : Value → Shared → Prop} {s : Shared}
/-- an error that the machine raises, with its words -/
theorem raiseWords_made {cls msg : String} {Q : α → Shared → Prop} (hp : PlainExc cls) (hh : A.handled = none)
    (h : ∀ h' tk e t, Heap.MadeExcOf s.heap h' e (.type cls) [.str msg t] → E (.ref e) { s with heap := h', toks := tk }) :
    wpAny M A (raiseErrorWords cls msg : Sem α) Q E s := by
  unfold raiseErrorWords
  refine wpAny_bind (wpAny_mkText (wpAny_bind ?_))
  unfold newExc newTuple
  refine wpAny_bind (wpAny_newObj_type ?_)
  refine wpAny_bind (m := firstArgMember _ _) (wpAny_of_eq (a := Value.none) (by simp only [firstArgMember, hp.first]; rfl) ?_)
  rw [hp.own]
  refine wpAny_newObj_type ?_
  unfold raiseNew
  refine wpAny_bind (wpAny_handled ?_)
  rw [hh]
  first
    | refine wpAny_throw ?_
    | refine wpAny_bind (wpAny_pure (wpAny_throw ?_))
  exact h _ _ _ _ ⟨fun b o hb => Heap.get?_push_of_some _ (Heap.get?_push_of_some _ hb), Heap.get?_none_of_le (by simp), s.heap.objs.size, by
    rw [Heap.get?_push_size _ rfl]; simp, Heap.get?_none_of_le (Nat.le_refl _), Heap.get?_push_of_some _ (Heap.get?_push_size _ rfl)⟩
theorem raiseMade_made {cls msg : String} {Q : α → Shared → Prop} (hp : PlainExc cls) (hh : A.handled = none) (hm : (msg : Str).length ≤ sizeLine)
    (h : ∀ h' tk e t, Heap.MadeExcOf s.heap h' e (.type cls) [.str msg t] → E (.ref e) { s with heap := h', toks := tk }) :
    wpAny M A (raiseErrorMade cls msg : Sem α) Q E s := by
  unfold raiseErrorMade
  refine wpAny_bind (wpAny_mkStr (wpAny_bind ?_) hm)
  unfold newExc newTuple
  refine wpAny_bind (wpAny_newObj_type ?_)
  refine wpAny_bind (m := firstArgMember _ _) (wpAny_of_eq (a := Value.none) (by simp only [firstArgMember, hp.first]; rfl) ?_)
  rw [hp.own]
  refine wpAny_newObj_type ?_
  unfold raiseNew
  refine wpAny_bind (wpAny_handled ?_)
  rw [hh]
  first
    | refine wpAny_throw ?_
    | refine wpAny_bind (wpAny_pure (wpAny_throw ?_))
  exact h _ _ _ _ ⟨fun b o hb => Heap.get?_push_of_some _ (Heap.get?_push_of_some _ hb), Heap.get?_none_of_le (by simp), s.heap.objs.size, by
    rw [Heap.get?_push_size _ rfl]; simp, Heap.get?_none_of_le (Nat.le_refl _), Heap.get?_push_of_some _ (Heap.get?_push_size _ rfl)⟩
end
theorem _root_.PySem.Heap.MadeExcOf.since {h₀ h h' : Heap} {e : Addr} {cls : Value} {vs : List Value} (hk : ∀ b o, h₀.get? b = some o → h.get? b = some o) (x : Heap.MadeExcOf h h' e cls vs) : Heap.MadeExcOf h₀ h' e cls vs := by
  have none_of : ∀ b, h.get? b = none → h₀.get? b = none := fun b hb => by
    cases q : h₀.get? b with
    | none => rfl
    | some o => rw [hk b o q] at hb; cases hb
  obtain ⟨t, h1, h2, h3⟩ := x.there
  exact ⟨fun b o hb => x.keeps b o (hk b o hb), none_of _ x.new, t, h1, none_of _ h2, h3⟩
section
variable {prog : Program} {w : World} {A : Around} {E : Value → Shared → Prop} {s : Shared} {Q : Value → Shared → Prop}
/-- what an asking that raises must show -/
abbrev Raises (E : Value → Shared → Prop) (s : Shared) (X : String) (msg : Str) : Prop := ∀ h' tk e t, Heap.MadeExcOf s.heap h' e (.type X) [.str msg t] → E (.ref e) { s with heap := h', toks := tk }
theorem no_text_eq_int {x : Str} {t u : Tok} {i : Int} : Builtin.«str.__contains__» ⟨[.str x t, .int i u], []⟩ = (do rule "str.__contains__.not-a-str"; raiseErrorMade "TypeError" "'in <string>' requires string as left operand, not int") := by with_unfolding_all rfl
theorem no_text_eq_none {x : Str} {t : Tok} : Builtin.«str.__contains__» ⟨[.str x t, .none], []⟩ = (do rule "str.__contains__.not-a-str"; raiseErrorMade "TypeError" "'in <string>' requires string as left operand, not NoneType") := by with_unfolding_all rfl
theorem no_text_eq_bytes {x : Str} {t u : Tok} {b : Array UInt8} : Builtin.«str.__contains__» ⟨[.str x t, .bytes b u], []⟩ = (do rule "str.__contains__.not-a-str"; raiseErrorMade "TypeError" "'in <string>' requires string as left operand, not bytes") := by with_unfolding_all rfl
theorem in_str_x {x : Str} {t : Tok} {v : Value} {msg : String} (e : Builtin.«str.__contains__» ⟨[.str x t, v], []⟩ = (do rule "str.__contains__.not-a-str"; raiseErrorMade "TypeError" msg)) (hh : A.handled = none) (hm : (msg : Str).length ≤ sizeLine)
    (h : Raises E s "TypeError" msg) : wpAny (model prog w) A (compareOp .In v (.str x t)) Q E s := by
  refine In_slot (typeIs_str s x t) slot_str_contains (wpAny_call_entry slot_str_contains (typeIs_str s x t) entry_str_contains ?_ (args_str_contains _ _))
  rw [e]
  exact wpAny_bind (wpAny_rule (raiseMade_made plainExc_TypeError hh hm h))
theorem in_str_list_x {x : Str} {t : Tok} {l : Addr} {its : Array Value} (hl : s.heap.IsList l its) (hh : A.handled = none)
    (h : Raises E s "TypeError" (Str.ofString "'in <string>' requires string as left operand, not list")) : wpAny (model prog w) A (compareOp .In (.ref l) (.str x t)) Q E s := by
  refine In_slot (typeIs_str s x t) slot_str_contains (wpAny_call_entry slot_str_contains (typeIs_str s x t) entry_str_contains ?_ (args_str_contains _ _))
  obtain ⟨o, ho, hc, n, hd⟩ := id hl
  have e : Builtin.«str.__contains__» ⟨[.str x t, .ref l], []⟩ = (asStr? (.ref l) >>= fun r => match r with
    | some sub => ret (.bool !(Str.occurrences x sub 0 x.length 1).isEmpty)
    | none => do
      rule "str.__contains__.not-a-str"
      raiseErrorMade "TypeError" s!"'in <string>' requires string as left operand, not {← typeNameOf (.ref l)}") := by with_unfolding_all rfl
  rw [e]
  refine wpAny_bind ?_
  show wpAny _ _ (load l >>= _) _ _ s
  refine wpAny_bind (wpAny_load ho ?_)
  rw [hd]
  refine wpAny_pure ?_
  refine wpAny_bind (wpAny_rule (wpAny_bind ?_))
  refine wpAny_typeNameOf' (T := "list") hl.typeIs (by decide) ?_
  rw [show shownName "list" = "list" from by decide +kernel]
  exact raiseMade_made plainExc_TypeError hh (by decide +kernel) h
theorem in_bytes_eq {b : Array UInt8} {t u : Tok} {i : Int} : Builtin.«bytes.__contains__» ⟨[.bytes b t, .int i u], []⟩ = (do
    let r ← (do
      let some b ← Bytes.buffer? "bytes.__contains__" (.bytes b t) | unsupported "internal:bytes-without-payload"
      if i < 0 || i ≥ 256 then rule s!"{"bytes.__contains__"}.byte-out-of-range"; raiseErrorWords "ValueError" "byte must be in range(0, 256)"
      return b.contains i.toNat.toUInt8 : Sem Bool)
    ret (.bool r)) := by with_unfolding_all rfl
theorem in_bytes_int {b : Array UInt8} {t u : Tok} {i : Int} (h0 : 0 ≤ i) (h1 : i < 256) (h : Q (.bool (b.contains i.toNat.toUInt8)) s) : wpAny (model prog w) A (compareOp .In (.int i u) (.bytes b t)) Q E s := by
  refine In_slot (typeIs_bytes s b t) FB.slot_bytes_contains (wpAny_call_entry FB.slot_bytes_contains (typeIs_bytes s b t) FB.entry_bytes_contains ?_ (FB.args_bytes_contains_2 _ _))
  rw [in_bytes_eq]
  refine wpAny_bind (wpAny_bind (wpAny_of_eq KBy.buffer_eq ?_))
  dsimp only
  rw [if_neg (by simp; omega)]
  exact wpAny_pure (wpAny_pure ⟨_, rfl, wpAny_truthy_bool h⟩)
theorem in_bytes_int_x {b : Array UInt8} {t u : Tok} {i : Int} (h01 : i < 0 ∨ 256 ≤ i) (hh : A.handled = none) (h : Raises E s "ValueError" (Str.ofString "byte must be in range(0, 256)")) : wpAny (model prog w) A (compareOp .In (.int i u) (.bytes b t)) Q E s := by
  refine In_slot (typeIs_bytes s b t) FB.slot_bytes_contains (wpAny_call_entry FB.slot_bytes_contains (typeIs_bytes s b t) FB.entry_bytes_contains ?_ (FB.args_bytes_contains_2 _ _))
  rw [in_bytes_eq]
  refine wpAny_bind (wpAny_bind (wpAny_of_eq KBy.buffer_eq ?_))
  dsimp only
  rw [if_pos (by simp; omega)]
  refine wpAny_bind (wpAny_rule ?_)
  refine wpAny_bind ?_
  exact raiseWords_made plainExc_ValueError hh h
theorem str_noindex : typeLookup (.type "str") "__index__" = pure none := by rw [typeLookup_type, builtinLookup_eq_fast]; kernel_rfl
theorem str_nobuffer : typeLookup (.type "str") "__buffer__" = pure none := by rw [typeLookup_type, builtinLookup_eq_fast]; kernel_rfl
theorem buffer_str {id : String} {y : Str} {u : Tok} {Q : Option (Array UInt8) → Shared → Prop} (h : Q none s) : wpAny (model prog w) A (Bytes.buffer? id (.str y u)) Q E s := by
  unfold Bytes.buffer?
  refine wpAny_bind (wpAny_specialOf (typeIs_str s y u) str_nobuffer ?_)
  refine wpAny_bind (wpAny_specialOf (typeIs_str s y u) str_nobuffer ?_)
  exact wpAny_pure h
theorem asIndex_str {y : Str} {u : Tok} {Q : Int → Shared → Prop} (hh : A.handled = none) (h : ∀ h' tk e, Heap.NewExc s.heap h' e "TypeError" → E (.ref e) { s with heap := h', toks := tk }) : wpAny (model prog w) A (asIndex (.str y u)) Q E s := by
  unfold asIndex
  have e : asInt? (.str y u) = pure none := by with_unfolding_all rfl
  refine wpAny_bind (wpAny_of_eq e ?_)
  refine wpAny_bind (wpAny_callSpecial?_none (T := "str") (typeIs_str s y u) str_noindex ?_)
  dsimp only
  refine wpAny_bind ?_
  have e2 : typeNameOfCut 200 (.str y u) = pure "str" := by with_unfolding_all rfl
  refine wpAny_of_eq e2 ?_
  exact wpAny_raiseErrorMade plainExc_TypeError hh h (by decide +kernel)
theorem in_bytes_str_x {b : Array UInt8} {t u : Tok} {y : Str} (hh : A.handled = none) (h : Raises E s "TypeError" (Str.ofString "a bytes-like object is required, not 'str'")) : wpAny (model prog w) A (compareOp .In (.str y u) (.bytes b t)) Q E s := by
  refine In_slot (typeIs_bytes s b t) FB.slot_bytes_contains (wpAny_call_entry FB.slot_bytes_contains (typeIs_bytes s b t) FB.entry_bytes_contains ?_ (FB.args_bytes_contains_2 _ _))
  have e : Builtin.«bytes.__contains__» ⟨[.bytes b t, .str y u], []⟩ = (Bytes.containsIn "bytes.__contains__" (.bytes b t) (.str y u) >>= fun r => ret (.bool r)) := by with_unfolding_all rfl
  rw [e]
  unfold Bytes.containsIn
  refine wpAny_bind (wpAny_bind (wpAny_attempt (asIndex_str (by exact hh) fun h₁ tk₁ e₁ x₁ => ?_)))
  refine wpAny_bind (wpAny_of_eq KBy.buffer_eq ?_)
  dsimp only
  refine wpAny_bind (buffer_str ?_)
  dsimp only
  refine wpAny_bind (wpAny_rule ?_)
  have e2 : PySem.typeNameOf (.str y u) = pure "str" := by with_unfolding_all rfl
  refine wpAny_bind (wpAny_of_eq e2 ?_)
  exact raiseMade_made plainExc_TypeError hh (by decide +kernel) fun h' tk e t x => h h' tk e t (x.since x₁.keeps)
theorem int_nocontains : typeLookup (.type "int") "__contains__" = pure none := by rw [typeLookup_type, builtinLookup_eq_fast]; kernel_rfl
theorem int_noiter : typeLookup (.type "int") "__iter__" = pure none := by rw [typeLookup_type, builtinLookup_eq_fast]; kernel_rfl
theorem int_nogetitem : typeLookup (.type "int") "__getitem__" = pure none := by rw [typeLookup_type, builtinLookup_eq_fast]; kernel_rfl
theorem in_int_x {i : Int} {t u : Tok} {y : Str} (hh : A.handled = none) (h : Raises E s "TypeError" (Str.ofString "argument of type 'int' is not iterable")) : wpAny (model prog w) A (compareOp .In (.str y u) (.int i t)) Q E s := by
  show wpAny _ _ (do return .bool (← contains (.int i t) (.str y u))) Q E s
  refine wpAny_bind ?_
  unfold contains
  refine wpAny_holding ?_
  dsimp only [stdlibNamesSay?]
  refine wpAny_bind (wpAny_specialOf (typeIs_int s i t) int_nocontains ?_)
  rw [if_neg (by decide)]
  unfold callSpecialUnlessNone?
  refine wpAny_bind (wpAny_bind (wpAny_specialOf (typeIs_int s i t) int_nocontains (wpAny_pure ?_)))
  dsimp only
  refine wpAny_bind (wpAny_rule (wpAny_bind ?_))
  refine wpAny_tryCatch ?_
  unfold pyIter
  refine wpAny_bind (wpAny_specialOf (typeIs_int s i t) int_noiter ?_)
  refine wpAny_bind (wpAny_specialOf (typeIs_int s i t) int_nogetitem ?_)
  dsimp only
  have e2 : PySem.typeNameOf (.int i t) = pure "int" := by with_unfolding_all rfl
  refine wpAny_bind (wpAny_rule (wpAny_bind (wpAny_of_eq e2 ?_)))
  refine wpAny_raiseErrorMade plainExc_TypeError hh (fun h₁ tk₁ e₁ x₁ => ?_) (by decide +kernel)
  obtain ⟨ob, tt, hob, hcls, _⟩ := x₁.there
  refine wpAny_bind (wpAny_isInstance (T := "TypeError") (U := "TypeError") (b := true) ⟨ob, hob, hcls⟩ (by rw [isSubtype_type]; kernel_rfl) ?_)
  rw [if_pos rfl]
  refine wpAny_bind (wpAny_of_eq e2 ?_)
  exact raiseMade_made plainExc_TypeError hh (by decide +kernel) fun h' tk e t x => h h' tk e t (x.since x₁.keeps)
theorem in_range_int {r : Addr} {a b c i : Int} {t u v k : Tok} (hr : IsRange s.heap r a b c t u v) (h : Q (.bool (Range.rangePlace? a b c i).isSome) s) : wpAny (model prog w) A (compareOp .In (.int i k) (.ref r)) Q E s := by
  refine In_slot (T := "range") ⟨_, hr, rfl⟩ F.slot_range_contains (wpAny_call_entry F.slot_range_contains (T := "range") ⟨_, hr, rfl⟩ F.entry_range_contains ?_ (F.args_range_contains_2 _ _))
  have e : Builtin.«range.__contains__» ⟨[.ref r, .int i k], []⟩ = (do rule "range.contains.reckoned"; let (a, b, c) ← Range.rangeFields (.ref r); ret (.bool (Range.rangePlace? a b c i).isSome)) := by with_unfolding_all rfl
  rw [e]
  refine wpAny_bind (wpAny_rule (wpAny_bind ?_))
  unfold Range.rangeFields
  refine wpAny_bind (wpAny_field hr rfl rfl ?_)
  refine wpAny_bind (m := asInt? _) (wpAny_pure ?_)
  refine wpAny_bind (wpAny_field hr rfl rfl ?_)
  refine wpAny_bind (m := asInt? _) (wpAny_pure ?_)
  refine wpAny_bind (wpAny_field hr rfl rfl ?_)
  refine wpAny_bind (m := asInt? _) (wpAny_pure ?_)
  exact wpAny_pure (wpAny_pure ⟨_, rfl, wpAny_truthy_bool h⟩)
end
end Mine
end

section
open PySem PySem.W PyProof.Rows
namespace Mine
def Stop (P : Prop) : Prop := P
theorem stop_in {P : Prop} (h : Stop P) : P := h
theorem stop_out {P : Prop} (h : P) : Stop P := h

def sgn (x : Int) : Str := if x.fmod 8 < 7 then Txt.item (Str.ofString " \t\n\x0d\x0b\x0c#") (x.fmod 8) else { cps := #[(33 + (x.fdiv 8).fmod 94).toNat] }
theorem sgn_len (x : Int) : (sgn x).length = 1 := by unfold sgn; split <;> rfl
theorem sgn_lo {x : Int} (h : x.fmod 8 < 7) : sgn x = Txt.item (Str.ofString " \t\n\x0d\x0b\x0c#") (x.fmod 8) := if_pos h
theorem sgn_hi {x : Int} (h : ¬ x.fmod 8 < 7) : sgn x = { cps := #[(33 + (x.fdiv 8).fmod 94).toNat] } := if_neg h

/-- a sign of the law: one of six white ones or a seen one -/
def OkSign (c : Nat) : Prop := (9 ≤ c ∧ c ≤ 13) ∨ (32 ≤ c ∧ c ≤ 126)

theorem sgn_ok (x : Int) : ∀ c ∈ (sgn x).cps.toList, OkSign c := by
  by_cases h : x.fmod 8 < 7
  · rw [sgn_lo h]
    have h0 : 0 ≤ x.fmod 8 := Int.fmod_nonneg_of_pos x (by decide)
    generalize x.fmod 8 = k at h h0
    have : k = 0 ∨ k = 1 ∨ k = 2 ∨ k = 3 ∨ k = 4 ∨ k = 5 ∨ k = 6 := by omega
    rcases this with rfl | rfl | rfl | rfl | rfl | rfl | rfl <;> (unfold OkSign; decide +kernel)
  · rw [sgn_hi h]
    intro c hc
    have h0 : 0 ≤ (x.fdiv 8).fmod 94 := Int.fmod_nonneg_of_pos _ (by decide)
    have h1 : (x.fdiv 8).fmod 94 < 94 := Int.fmod_lt_of_pos _ (by decide)
    simp only [List.mem_singleton] at hc
    subst hc
    right; omega

theorem join_cps : ∀ l : List Str, (Txt.join (Str.ofString "") l).cps.toList = (l.map fun x => x.cps.toList).flatten := by
  intro l
  show (Builtin.Str.glued (Str.ofString "") l).cps.toList = _
  rw [StrLaws.glued_eq_join]
  induction l with
  | nil => rfl
  | cons a r ih =>
    cases r with
    | nil => simp [Str.join]
    | cons b r =>
      show (a ++ Str.ofString "" ++ Str.join (Str.ofString "") (b :: r)).cps.toList = _
      rw [KT.app_list, KT.app_list, ih]
      have : (Str.ofString "").cps.toList = [] := by decide
      rw [this]; simp

structure LineOk (line : Str) : Prop where
  len : line.length ≤ 63
  ok : ∀ c ∈ line.cps.toList, OkSign c

theorem line_ok (ns : List Int) (h : ns.length ≤ 63) (hl : (Txt.join (Str.ofString "") (ns.map sgn)).length = ns.length) : LineOk (Txt.join (Str.ofString "") (ns.map sgn)) where
  len := by omega
  ok := by
    intro c hc
    rw [join_cps, List.mem_flatten] at hc
    obtain ⟨l, hl, hc⟩ := hc
    simp only [List.map_map, List.mem_map] at hl
    obtain ⟨x, _, rfl⟩ := hl
    exact sgn_ok x c hc
theorem slice_ok {line : Str} (h : LineOk line) (l u : Option Int) : LineOk (Txt.slice line l u) where
  len := Nat.le_trans (Txt.slice_le line l u) h.len
  ok := by
    unfold Txt.slice
    split
    · exact h.ok
    · intro c hc
      simp only [List.mem_filterMap] at hc
      obtain ⟨i, _, hi⟩ := hc
      refine h.ok c ?_
      rw [← Array.getElem?_toList] at hi
      exact List.mem_of_getElem? hi
end Mine
end

section
open PySem
namespace Mine
set_option maxRecDepth 4000

/-! The machine of the pattern \s*(?:#\s*)?$ run on any text. -/

def rxCode : Array Nat := #[14, 4, 0, 0, 4294967295, 24, 9, 0, 4294967295, 13, 4, 8, 12, 0, 1, 23, 15, 0, 1, 16, 35, 24, 9, 0, 4294967295, 13, 4, 8, 12, 0, 1, 18, 6, 5, 1]

open Sre in
def rxM (text : Array Nat) (pc pos handed : Nat) (loops : Array Loop) (inner : Option Nat) (frames : List Sre.Frame) (weight : Nat) (answer : Option Bool) (seen : Seen) : M :=
  { code := rxCode, text := text, lim := text.size, start := 0, pc := pc, pos := pos, handed := handed, marks := #[], loops := loops, inner := inner, frames := frames, weight := weight, answer := answer, seen := seen }

/-- how many white signs stand from p on, n at most -/
def whites (text : Array Nat) : Nat → Nat → Nat
  | 0, _ => 0
  | n + 1, p => if Unicode.isSpace (text.getD p 0) then whites text n (p + 1) + 1 else 0

theorem whites_le (text : Array Nat) : ∀ n p, whites text n p ≤ n
  | 0, _ => Nat.le_refl _
  | n + 1, p => by
    unfold whites; split
    · exact Nat.succ_le_succ (whites_le text n (p + 1))
    · exact Nat.zero_le _

theorem whites_stop (text : Array Nat) : ∀ n p, whites text n p < n → Unicode.isSpace (text.getD (p + whites text n p) 0) = false
  | 0, _, h => absurd h (Nat.not_lt_zero _)
  | n + 1, p, h => by
    unfold whites at h ⊢
    split at h
    · rename_i hs
      have := whites_stop text n (p + 1) (by omega)
      simp only [hs, if_true]
      rw [show p + (whites text n (p + 1) + 1) = p + 1 + whites text n (p + 1) by omega]
      exact this
    · rename_i hs
      simp only [hs]
      simpa using hs

theorem whites_in (text : Array Nat) : ∀ n p j, j < whites text n p → Unicode.isSpace (text.getD (p + j) 0) = true
  | 0, _, _, h => absurd h (Nat.not_lt_zero _)
  | n + 1, p, j, h => by
    unfold whites at h
    split at h
    · rename_i hs
      cases j with
      | zero => simpa using hs
      | succ j =>
        rw [show p + (j + 1) = p + 1 + j by omega]
        exact whites_in text n (p + 1) j (by omega)
    · exact absurd h (Nat.not_lt_zero _)

theorem rx_accepts9 (c : Nat) (seen : Sre.Seen) : ∃ A B, Sre.accepts rxCode 9 c seen = if (Unicode.isSpace c != false) = true then .ok (true, A) else .ok (false, B) := ⟨_, _, rfl⟩
theorem rx_accepts25 (c : Nat) (seen : Sre.Seen) : ∃ A B, Sre.accepts rxCode 25 c seen = if (Unicode.isSpace c != false) = true then .ok (true, A) else .ok (false, B) := ⟨_, _, rfl⟩
theorem rx_accepts (i : Nat) (hi : i = 9 ∨ i = 25) (c : Nat) (seen : Sre.Seen) : ∃ seen', Sre.accepts rxCode i c seen = .ok (Unicode.isSpace c, seen') := by
  have key : ∃ A B, Sre.accepts rxCode i c seen = if (Unicode.isSpace c != false) = true then .ok (true, A) else .ok (false, B) := by
    rcases hi with rfl | rfl
    · exact rx_accepts9 c seen
    · exact rx_accepts25 c seen
  obtain ⟨A, B, h⟩ := key
  rw [h]
  cases Unicode.isSpace c with
  | true => exact ⟨A, rfl⟩
  | false => exact ⟨B, rfl⟩

theorem rx_run (text : Array Nat) (i : Nat) (hi : i = 9 ∨ i = 25) : ∀ n p found seen, ∃ seen', Sre.run rxCode text i n p found seen = .ok (found + whites text n p, seen')
  | 0, _, found, seen => ⟨seen, rfl⟩
  | n + 1, p, found, seen => by
    obtain ⟨s1, h1⟩ := rx_accepts i hi (text.getD p 0) seen
    unfold Sre.run whites
    cases hs : Unicode.isSpace (text.getD p 0) with
    | true =>
      obtain ⟨s2, h2⟩ := rx_run text i hi n (p + 1) (found + 1) s1
      refine ⟨s2, ?_⟩
      rw [hs] at h1
      simp only [h1, bind, Except.bind, if_true]
      rw [h2]
      simp only [Except.ok.injEq, Prod.mk.injEq, and_true]; omega
    | false =>
      rw [hs] at h1
      refine ⟨s1, ?_⟩
      simp only [h1, bind, Except.bind]; rfl

end Mine
end

section
open PySem
namespace Mine
set_option maxRecDepth 4000

def kept0 (b : Bool) : Sre.Kept := { lastmark := -1, lastindex := -1, whole := b, marks := #[] }
def gb1 (n : Nat) : Sre.Frame := { wait := .giveBack, pc := 5, pos := n, outermost := true, count := n, kept := kept0 false }
def clo (n : Nat) : Sre.Frame := { wait := .closeLoop, pc := 15, pos := n, outermost := true, loop := 0 }
def mmo (n : Nat) : Sre.Frame := { wait := .maxMore, pc := 32, pos := n, outermost := true, count := 0, kept := kept0 true, loop := 0, began := none }
def gb2 (p k : Nat) : Sre.Frame := { wait := .giveBack, pc := 21, pos := p, outermost := true, count := k, kept := kept0 true }
def mta (p : Nat) (c : Int) : Sre.Frame := { wait := .maxTail, pc := 32, pos := p, outermost := true, count := c, kept := kept0 false, loop := 0 }

def lp (c : Int) (b : Option Nat) : Array Sre.Loop := #[{ pc := 15, count := c, began := b, outer := none }]

variable (t : Array Nat)

/-- a step of the machine where what it has seen does not matter -/
def Goes (m : Sre.Seen → Sre.M) (m' : Sre.Seen → Sre.M) : Prop := ∀ seen, ∃ seen', (m seen).step = m' seen' ∧ (m seen).outcome = none

theorem run_eq {pc p : Nat} (hpc : pc = 5 ∨ pc = 21) (seen : Sre.Seen) : ∃ seen', Sre.run rxCode t (pc + 4) (min 4294967295 (((t.size : Int) - (p : Nat)).toNat)) p 0 seen = .ok (whites t (min 4294967295 (t.size - p)) p, seen') := by
  obtain ⟨s', h⟩ := rx_run t (pc + 4) (by omega) (min 4294967295 (t.size - p)) p 0 seen
  refine ⟨s', ?_⟩
  rw [show ((t.size : Int) - (p : Nat)).toNat = t.size - p by omega, h, Nat.zero_add]

theorem rep_eq5 (p h : Nat) (loops : Array Sre.Loop) (inner : Option Nat) (fs : List Sre.Frame) (w : Nat) (seen : Sre.Seen) :
    (rxM t 5 p h loops inner fs w none seen).step = (if (((0 : Nat) : Int) > (t.size : Int) - (p : Nat)) then (rxM t 5 p h loops inner fs w none (seen.add 24)).say false else
      match Sre.run rxCode t (5 + 4) (min 4294967295 (((t.size : Int) - (p : Nat)).toNat)) p 0 ((seen.add 24).add 13) with
      | .error why => (rxM t 5 p h loops inner fs w none (seen.add 24)).stick why
      | .ok (n, s) => if n < 0 then (rxM t 5 p h loops inner fs w none s).say false else (rxM t 5 (p + n) h loops inner fs w none s).afterRun .giveBack n ((rxM t 5 (p + n) h loops inner fs w none s).keep inner.isSome)) := rfl
theorem rep_eq21 (p h : Nat) (loops : Array Sre.Loop) (inner : Option Nat) (fs : List Sre.Frame) (w : Nat) (seen : Sre.Seen) :
    (rxM t 21 p h loops inner fs w none seen).step = (if (((0 : Nat) : Int) > (t.size : Int) - (p : Nat)) then (rxM t 21 p h loops inner fs w none (seen.add 24)).say false else
      match Sre.run rxCode t (21 + 4) (min 4294967295 (((t.size : Int) - (p : Nat)).toNat)) p 0 ((seen.add 24).add 13) with
      | .error why => (rxM t 21 p h loops inner fs w none (seen.add 24)).stick why
      | .ok (n, s) => if n < 0 then (rxM t 21 p h loops inner fs w none s).say false else (rxM t 21 (p + n) h loops inner fs w none s).afterRun .giveBack n ((rxM t 21 (p + n) h loops inner fs w none s).keep inner.isSome)) := rfl

theorem st_repeat1 (h : Nat) (hl : t.size < 4294967295) : Goes (rxM t 5 0 h #[] none [] 0 none) (rxM t 15 (whites t t.size 0) (whites t t.size 0) #[] none [gb1 (whites t t.size 0)] 1 none) := by
  intro seen
  obtain ⟨s', h'⟩ := run_eq t (pc := 5) (p := 0) (Or.inl rfl) ((seen.add 24).add 13)
  refine ⟨s', ?_, rfl⟩
  rw [show min 4294967295 (t.size - 0) = t.size by omega] at h'
  rw [rep_eq5, if_neg (by omega), h']
  simp only [Nat.not_lt_zero, if_false, Nat.zero_add]
  rfl
theorem st_repeat2 (p h : Nat) (n : Nat) (hl : t.size < 4294967295) (hp : p ≤ t.size) : Goes (rxM t 21 p h (lp 0 (some n)) (some 0) [mmo n, clo n, gb1 n] 3 none)
    (rxM t 31 (p + whites t (t.size - p) p) (p + whites t (t.size - p) p) (lp 0 (some n)) (some 0) [gb2 (p + whites t (t.size - p) p) (whites t (t.size - p) p), mmo n, clo n, gb1 n] 4 none) := by
  intro seen
  obtain ⟨s', h'⟩ := run_eq t (pc := 21) (p := p) (Or.inr rfl) ((seen.add 24).add 13)
  refine ⟨s', ?_, rfl⟩
  rw [show min 4294967295 (t.size - p) = t.size - p by omega] at h'
  rw [rep_eq21, if_neg (by omega), h']
  simp only [Nat.not_lt_zero, if_false]
  rfl
theorem st_repeat (n h : Nat) : Goes (rxM t 15 n h #[] none [gb1 n] 1 none) (rxM t 31 n n (lp (-1) none) (some 0) [clo n, gb1 n] 2 none) := fun _ => ⟨_, rfl, rfl⟩
theorem st_until1 (n h : Nat) : Goes (rxM t 31 n h (lp (-1) none) (some 0) [clo n, gb1 n] 2 none) (rxM t 19 n n (lp 0 (some n)) (some 0) [mmo n, clo n, gb1 n] 3 none) := fun _ => ⟨_, rfl, rfl⟩
theorem lit_eq (p h : Nat) (loops : Array Sre.Loop) (inner : Option Nat) (fs : List Sre.Frame) (w : Nat) (seen : Sre.Seen) :
    (rxM t 19 p h loops inner fs w none seen).step = (if p ≥ t.size then (rxM t 19 p h loops inner fs w none (seen.add 16)).say false else
      match (t.getD p 0 == 35) with
      | false => (rxM t 19 p h loops inner fs w none (seen.add 16)).say false
      | true => rxM t 21 (p + 1) h loops inner fs w none (seen.add 16)) := by
  show (if p ≥ t.size then (rxM t 19 p h loops inner fs w none (seen.add 16)).say false else
      match (Except.ok (t.getD p 0 == 35, seen.add 16) : Except String (Bool × Sre.Seen)) with
      | .error why => (rxM t 19 p h loops inner fs w none (seen.add 16)).stick why
      | .ok (false, s) => (rxM t 19 p h loops inner fs w none s).say false
      | .ok (true, s) => rxM t 21 (p + 1) h loops inner fs w none s) = _
  split
  · rfl
  · cases (t.getD p 0 == 35) <;> rfl
theorem st_lit_yes (p h : Nat) (loops : Array Sre.Loop) (inner : Option Nat) (fs : List Sre.Frame) (w : Nat) (hp : p < t.size) (hc : t.getD p 0 = 35) : Goes (rxM t 19 p h loops inner fs w none) (rxM t 21 (p + 1) h loops inner fs w none) := by
  intro seen
  refine ⟨seen.add 16, ?_, rfl⟩
  rw [lit_eq, if_neg (by omega), hc]; rfl
theorem st_lit_no (p h : Nat) (loops : Array Sre.Loop) (inner : Option Nat) (fs : List Sre.Frame) (w : Nat) (hc : p < t.size → t.getD p 0 ≠ 35) : Goes (rxM t 19 p h loops inner fs w none) (rxM t 19 p h loops inner fs w (some false)) := by
  intro seen
  refine ⟨seen.add 16, ?_, rfl⟩
  rw [lit_eq]
  split
  · rfl
  · rename_i hp
    rw [show (t.getD p 0 == 35) = false from beq_false_of_ne (hc (by omega))]; rfl

/-- the second look at the loop's end: one round is over -/
theorem st_until2 (p h n k : Nat) : Goes (rxM t 31 p h (lp 0 (some n)) (some 0) [gb2 p k, mmo n, clo n, gb1 n] 4 none)
    (rxM t 32 p p (lp 0 (some n)) none [mta p 1, gb2 p k, mmo n, clo n, gb1 n] 5 none) := fun _ => ⟨_, rfl, rfl⟩
theorem at_eq (p h : Nat) (loops : Array Sre.Loop) (inner : Option Nat) (fs : List Sre.Frame) (w : Nat) (seen : Sre.Seen) :
    (rxM t 32 p h loops inner fs w none seen).step = if (p == t.size || (p + 1 == t.size && t.getD p 0 == 10)) = true then rxM t 34 p h loops inner fs w none ((seen.add 6).add 48) else rxM t 32 p h loops inner fs w (some false) ((seen.add 6).add 48) := rfl
theorem st_at_yes (p h : Nat) (loops : Array Sre.Loop) (inner : Option Nat) (fs : List Sre.Frame) (w : Nat) (hp : p = t.size) : Goes (rxM t 32 p h loops inner fs w none) (rxM t 34 p h loops inner fs w none) := by
  intro seen
  exact ⟨(seen.add 6).add 48, by rw [at_eq, if_pos (by simp [hp])], rfl⟩
theorem st_at_no (p h : Nat) (loops : Array Sre.Loop) (inner : Option Nat) (fs : List Sre.Frame) (w : Nat) (hp : p < t.size) (hc : p + 1 = t.size → t.getD p 0 ≠ 10) : Goes (rxM t 32 p h loops inner fs w none) (rxM t 32 p h loops inner fs w (some false)) := by
  intro seen
  refine ⟨(seen.add 6).add 48, ?_, rfl⟩
  rw [at_eq, if_neg]
  simp only [Bool.or_eq_true, beq_iff_eq, Bool.and_eq_true]
  rintro (e | ⟨e, f⟩)
  · omega
  · exact hc e f
theorem st_success (p h : Nat) (loops : Array Sre.Loop) (inner : Option Nat) (fs : List Sre.Frame) (w : Nat) : Goes (rxM t 34 p h loops inner fs w none) (rxM t 34 p p loops inner fs w (some true)) := fun _ => ⟨_, rfl, rfl⟩

/-- back out of the frames -/
theorem bk_mta2 (pc p h n q k : Nat) (b : Bool) : Goes (rxM t pc p h (lp 0 (some n)) none [mta q 1, gb2 q k, mmo n, clo n, gb1 n] 5 (some b)) (rxM t 32 q h (lp 0 (some n)) (some 0) [gb2 q k, mmo n, clo n, gb1 n] 4 (some b)) := fun _ => ⟨_, rfl, rfl⟩
theorem bk_gb2_yes (pc p h n q k : Nat) : Goes (rxM t pc p h (lp 0 (some n)) (some 0) [gb2 q k, mmo n, clo n, gb1 n] 4 (some true)) (rxM t 21 q h (lp 0 (some n)) (some 0) [mmo n, clo n, gb1 n] 3 (some true)) := fun _ => ⟨_, rfl, rfl⟩
theorem bk_gb2_no0 (pc p h n q : Nat) : Goes (rxM t pc p h (lp 0 (some n)) (some 0) [gb2 q 0, mmo n, clo n, gb1 n] 4 (some false)) (rxM t 21 q h (lp 0 (some n)) (some 0) [mmo n, clo n, gb1 n] 3 (some false)) := fun _ => ⟨_, rfl, rfl⟩
theorem bk_gb2_no1 (pc p h n q k : Nat) : Goes (rxM t pc p h (lp 0 (some n)) (some 0) [gb2 (q + 1) (k + 1), mmo n, clo n, gb1 n] 4 (some false)) (rxM t 31 q q (lp 0 (some n)) (some 0) [gb2 q k, mmo n, clo n, gb1 n] 4 none) := by
  intro seen
  refine ⟨seen, ?_, rfl⟩
  have e : (rxM t pc p h (lp 0 (some n)) (some 0) [gb2 (q + 1) (k + 1), mmo n, clo n, gb1 n] 4 (some false) seen).step =
      if (((k + 1 : Nat) : Int) - 1 < ((0 : Nat) : Int)) then rxM t 21 (q + 1) h (lp 0 (some n)) (some 0) [mmo n, clo n, gb1 n] 3 (some false) seen
      else rxM t 31 q q (lp 0 (some n)) (some 0) [{ wait := .giveBack, pc := 21, pos := q, outermost := true, count := ((k + 1 : Nat) : Int) - 1, kept := kept0 true }, mmo n, clo n, gb1 n] 4 none seen := rfl
  rw [e, if_neg (by omega), show ((k + 1 : Nat) : Int) - 1 = (k : Int) by omega]
  rfl
theorem bk_mmo_yes (pc p h n : Nat) : Goes (rxM t pc p h (lp 0 (some n)) (some 0) [mmo n, clo n, gb1 n] 3 (some true)) (rxM t 32 n h (lp 0 none) (some 0) [clo n, gb1 n] 2 (some true)) := fun _ => ⟨_, rfl, rfl⟩
theorem bk_mmo_no (pc p h n : Nat) : Goes (rxM t pc p h (lp 0 (some n)) (some 0) [mmo n, clo n, gb1 n] 3 (some false)) (rxM t 32 n n (lp (-1) none) none [mta n 0, clo n, gb1 n] 3 none) := fun _ => ⟨_, rfl, rfl⟩
theorem bk_mta1 (pc p h n : Nat) (b : Bool) : Goes (rxM t pc p h (lp (-1) none) none [mta n 0, clo n, gb1 n] 3 (some b)) (rxM t 32 n h (lp (-1) none) (some 0) [clo n, gb1 n] 2 (some b)) := fun _ => ⟨_, rfl, rfl⟩
theorem bk_clo (pc p h n : Nat) (c : Int) (b : Bool) : Goes (rxM t pc p h (lp c none) (some 0) [clo n, gb1 n] 2 (some b)) (rxM t 15 n h #[] none [gb1 n] 1 (some b)) := fun _ => ⟨_, rfl, rfl⟩
theorem bk_gb1_yes (pc p h n : Nat) : Goes (rxM t pc p h #[] none [gb1 n] 1 (some true)) (rxM t 5 n h #[] none [] 0 (some true)) := fun _ => ⟨_, rfl, rfl⟩
theorem bk_gb1_no0 (pc p h : Nat) : Goes (rxM t pc p h #[] none [gb1 0] 1 (some false)) (rxM t 5 0 h #[] none [] 0 (some false)) := fun _ => ⟨_, rfl, rfl⟩
theorem bk_gb1_no1 (pc p h n : Nat) : Goes (rxM t pc p h #[] none [gb1 (n + 1)] 1 (some false)) (rxM t 15 n n #[] none [gb1 n] 1 none) := by
  intro seen
  refine ⟨seen, ?_, rfl⟩
  have e : (rxM t pc p h #[] none [gb1 (n + 1)] 1 (some false) seen).step =
      if (((n + 1 : Nat) : Int) - 1 < ((0 : Nat) : Int)) then rxM t 5 (n + 1) h #[] none [] 0 (some false) seen
      else rxM t 15 n n #[] none [{ wait := .giveBack, pc := 5, pos := n, outermost := true, count := ((n + 1 : Nat) : Int) - 1, kept := kept0 false }] 1 none seen := rfl
  rw [e, if_neg (by omega), show ((n + 1 : Nat) : Int) - 1 = (n : Int) by omega]
  rfl
end Mine
end

section
open PySem
namespace Mine
set_option maxRecDepth 4000

def Gets (b : Nat) (m m' : Sre.Seen → Sre.M) : Prop := ∀ seen, ∃ n, n ≤ b ∧ ∃ seen', Sre.M.runFor n (m seen) = m' seen'

theorem runFor_add : ∀ (a b : Nat) (m : Sre.M), Sre.M.runFor (a + b) m = Sre.M.runFor b (Sre.M.runFor a m)
  | 0, b, m => by rw [Nat.zero_add]; rfl
  | a + 1, b, m => by
    rw [show a + 1 + b = (a + b) + 1 by omega]
    show (if m.outcome.isSome then m else Sre.M.runFor (a + b) m.step) = Sre.M.runFor b (if m.outcome.isSome then m else Sre.M.runFor a m.step)
    split
    · rename_i h
      cases b with
      | zero => rfl
      | succ b => show m = if m.outcome.isSome then m else _; rw [if_pos h]
    · exact runFor_add a b m.step

theorem Gets.of {m m' : Sre.Seen → Sre.M} (h : Goes m m') : Gets 1 m m' := fun seen => by
  obtain ⟨s', e, o⟩ := h seen
  refine ⟨1, Nat.le_refl _, s', ?_⟩
  show (if (m seen).outcome.isSome then m seen else Sre.M.runFor 0 (m seen).step) = _
  rw [o, e]; rfl
theorem Gets.trans {a b : Nat} {m₁ m₂ m₃ : Sre.Seen → Sre.M} (h₁ : Gets a m₁ m₂) (h₂ : Gets b m₂ m₃) : Gets (a + b) m₁ m₃ := fun seen => by
  obtain ⟨n, hn, s', e⟩ := h₁ seen
  obtain ⟨n', hn', s'', e'⟩ := h₂ s'
  exact ⟨n + n', by omega, s'', by rw [runFor_add, e, e']⟩
theorem Gets.le {a b : Nat} {m₁ m₂ : Sre.Seen → Sre.M} (h : Gets a m₁ m₂) (hab : a ≤ b) : Gets b m₁ m₂ := fun seen => by
  obtain ⟨n, hn, r⟩ := h seen
  exact ⟨n, by omega, r⟩
theorem Gets.refl {m : Sre.Seen → Sre.M} : Gets 0 m m := fun seen => ⟨0, Nat.le_refl _, seen, rfl⟩
/-- one step first -/
theorem Goes.then {b : Nat} {m₁ m₂ m₃ : Sre.Seen → Sre.M} (h₁ : Goes m₁ m₂) (h₂ : Gets b m₂ m₃) : Gets (1 + b) m₁ m₃ := (Gets.of h₁).trans h₂

variable (t : Array Nat)

def rxDone (pc pos handed : Nat) (b : Bool) (seen : Sre.Seen) : Sre.M := { rxM t pc pos handed #[] none [] 0 (some b) seen with outcome := some (if b then .matched else .failed) }
theorem st_done (pc pos handed : Nat) (b : Bool) : Goes (rxM t pc pos handed #[] none [] 0 (some b)) (rxDone t pc pos handed b) := fun seen => ⟨seen, by cases b <;> rfl, rfl⟩

/-- the inner give-back: no end is found -/
theorem inner_fails (n : Nat) : ∀ (k q h : Nat), k ≤ q → q < t.size → (q + 1 = t.size → t.getD q 0 ≠ 10) →
    ∃ q' h', Gets (4 * (k + 1)) (rxM t 31 q h (lp 0 (some n)) (some 0) [gb2 q k, mmo n, clo n, gb1 n] 4 none) (rxM t 21 q' h' (lp 0 (some n)) (some 0) [mmo n, clo n, gb1 n] 3 (some false))
  | 0, q, h, _, hq, hc => ⟨q, q, ((st_until2 t q h n 0).then ((st_at_no t q q _ _ _ _ hq hc).then ((bk_mta2 t 32 q q n q 0 false).then (Gets.of (bk_gb2_no0 t 32 q q n q))))).le (by omega)⟩
  | k + 1, 0, _, hk, _, _ => absurd hk (by omega)
  | k + 1, q + 1, h, hk, hq, hc => by
    obtain ⟨q', h', r⟩ := inner_fails n k q q (by omega) (by omega) (fun e => by omega)
    exact ⟨q', h', ((st_until2 t (q + 1) h n (k + 1)).then ((st_at_no t (q + 1) (q + 1) _ _ _ _ hq hc).then ((bk_mta2 t 32 (q + 1) (q + 1) n (q + 1) (k + 1) false).then ((bk_gb2_no1 t 32 (q + 1) (q + 1) n q k).then r)))).le (by omega)⟩

/-- the outer give-back: white signs alone lie behind -/
theorem outer_fails : ∀ (n pc p h : Nat), n < t.size → (∀ j, j < n → t.getD j 0 ≠ 35) → ∃ h', Gets (8 * n + 1) (rxM t pc p h #[] none [gb1 n] 1 (some false)) (rxM t 5 0 h' #[] none [] 0 (some false))
  | 0, pc, p, h, _, _ => ⟨h, (Gets.of (bk_gb1_no0 t pc p h)).le (by omega)⟩
  | n + 1, pc, p, h, hn, hw => by
    obtain ⟨h', r⟩ := outer_fails n 15 n n (by omega) (fun j hj => hw j (by omega))
    exact ⟨h', ((bk_gb1_no1 t pc p h n).then ((st_repeat t n n).then ((st_until1 t n n).then ((st_lit_no t n n _ _ _ _ (fun _ => hw n (by omega))).then
      ((bk_mmo_no t 19 n n n).then ((st_at_no t n n _ _ _ _ (by omega) (fun e => by omega)).then ((bk_mta1 t 32 n n n false).then ((bk_clo t 32 n n n (-1) false).then r)))))))).le (by omega)⟩

def rxJunk : Bool :=
  let n := whites t t.size 0
  n == t.size || (t.getD n 0 == 35 && n + 1 + whites t (t.size - (n + 1)) (n + 1) == t.size)

theorem space_ne35 {c : Nat} (h : Unicode.isSpace c = true) : c ≠ 35 := by rintro rfl; revert h; decide
theorem nospace_ne10 {c : Nat} (h : Unicode.isSpace c = false) : c ≠ 10 := by rintro rfl; revert h; decide

theorem rx_whole (hl : t.size < 4294967295) : ∃ pc pos handed, Gets (20 * (t.size + 2)) (rxM t 5 0 0 #[] none [] 0 none) (rxDone t pc pos handed (rxJunk t)) := by
  have hle := whites_le t t.size 0
  by_cases h1 : whites t t.size 0 = t.size
  · have hj : rxJunk t = true := by simp [rxJunk, h1]
    rw [hj]
    refine ⟨_, _, _, ((st_repeat1 t 0 hl).then ((st_repeat t _ _).then ((st_until1 t _ _).then ((st_lit_no t _ _ _ _ _ _ (fun e => by omega)).then ((bk_mmo_no t _ _ _ _).then
      ((st_at_yes t _ _ _ _ _ _ h1).then ((st_success t _ _ _ _ _ _).then ((bk_mta1 t _ _ _ _ true).then ((bk_clo t _ _ _ _ _ true).then ((bk_gb1_yes t _ _ _ _).then (Gets.of (st_done t _ _ _ true)))))))))))).le (by omega)⟩
  · have hlt : whites t t.size 0 < t.size := by omega
    have hns := whites_stop t t.size 0 hlt
    rw [Nat.zero_add] at hns
    have hwh : ∀ j, j < whites t t.size 0 → t.getD j 0 ≠ 35 := fun j hj => by
      have := whites_in t t.size 0 j hj
      rw [Nat.zero_add] at this
      exact space_ne35 this
    by_cases h2 : t.getD (whites t t.size 0) 0 = 35
    · have hle2 := whites_le t (t.size - (whites t t.size 0 + 1)) (whites t t.size 0 + 1)
      by_cases h3 : whites t t.size 0 + 1 + whites t (t.size - (whites t t.size 0 + 1)) (whites t t.size 0 + 1) = t.size
      · have hj : rxJunk t = true := by unfold rxJunk; simp only [h2, h3, beq_self_eq_true, Bool.and_true, Bool.or_true]
        rw [hj]
        refine ⟨_, _, _, ((st_repeat1 t 0 hl).then ((st_repeat t _ _).then ((st_until1 t _ _).then ((st_lit_yes t _ _ _ _ _ _ hlt h2).then ((st_repeat2 t _ _ _ hl (by omega)).then ((st_until2 t _ _ _ _).then
          ((st_at_yes t _ _ _ _ _ _ h3).then ((st_success t _ _ _ _ _ _).then ((bk_mta2 t _ _ _ _ _ _ true).then ((bk_gb2_yes t _ _ _ _ _ _).then ((bk_mmo_yes t _ _ _ _).then ((bk_clo t _ _ _ _ _ true).then ((bk_gb1_yes t _ _ _ _).then (Gets.of (st_done t _ _ _ true))))))))))))))).le (by omega)⟩
      · have hj : rxJunk t = false := by unfold rxJunk; simp only [beq_false_of_ne h1, beq_false_of_ne h3, Bool.and_false, Bool.or_false]
        rw [hj]
        have hlt2 : whites t (t.size - (whites t t.size 0 + 1)) (whites t t.size 0 + 1) < t.size - (whites t t.size 0 + 1) := by omega
        have hns2 := whites_stop t _ _ hlt2
        obtain ⟨q', h', r⟩ := inner_fails t (whites t t.size 0) (whites t (t.size - (whites t t.size 0 + 1)) (whites t t.size 0 + 1)) (whites t t.size 0 + 1 + whites t (t.size - (whites t t.size 0 + 1)) (whites t t.size 0 + 1))
          (whites t t.size 0 + 1 + whites t (t.size - (whites t t.size 0 + 1)) (whites t t.size 0 + 1)) (by omega) (by omega) (fun _ => nospace_ne10 hns2)
        obtain ⟨h'', r2⟩ := outer_fails t (whites t t.size 0) 15 (whites t t.size 0) (whites t t.size 0) hlt hwh
        refine ⟨_, _, _, ((st_repeat1 t 0 hl).then ((st_repeat t _ _).then ((st_until1 t _ _).then ((st_lit_yes t _ _ _ _ _ _ hlt h2).then ((st_repeat2 t _ _ _ hl (by omega)).then (r.trans
          ((bk_mmo_no t _ _ _ _).then ((st_at_no t _ _ _ _ _ _ hlt (fun _ => nospace_ne10 hns)).then ((bk_mta1 t _ _ _ _ false).then ((bk_clo t _ _ _ _ _ false).then (r2.trans (Gets.of (st_done t _ _ _ false))))))))))))).le (by omega)⟩
    · have hj : rxJunk t = false := by unfold rxJunk; simp only [beq_false_of_ne h1, beq_false_of_ne h2, Bool.false_and, Bool.or_false]
      rw [hj]
      obtain ⟨h'', r2⟩ := outer_fails t (whites t t.size 0) 15 (whites t t.size 0) (whites t t.size 0) hlt hwh
      refine ⟨_, _, _, ((st_repeat1 t 0 hl).then ((st_repeat t _ _).then ((st_until1 t _ _).then ((st_lit_no t _ _ _ _ _ _ (fun _ => h2)).then
          ((bk_mmo_no t _ _ _ _).then ((st_at_no t _ _ _ _ _ _ hlt (fun _ => nospace_ne10 hns)).then ((bk_mta1 t _ _ _ _ false).then ((bk_clo t _ _ _ _ _ false).then (r2.trans (Gets.of (st_done t _ _ _ false))))))))))).le (by omega)⟩
end Mine
end

section
set_option maxRecDepth 100000
open PySem PySem.W PySem.Calls PyProof.Rows Builtin Builtin.ObjectAttr
namespace Mine

theorem runFor_stay : ∀ (b : Nat) {m : Sre.M}, m.outcome.isSome = true → Sre.M.runFor b m = m
  | 0, _, _ => rfl
  | b + 1, m, h => by show (if m.outcome.isSome then m else _) = m; rw [if_pos h]

theorem runFor_same {a b : Nat} {m : Sre.M} (ha : (Sre.M.runFor a m).outcome.isSome = true) (hb : (Sre.M.runFor b m).outcome.isSome = true) : Sre.M.runFor a m = Sre.M.runFor b m := by
  have h1 : Sre.M.runFor (a + b) m = Sre.M.runFor a m := by rw [runFor_add, runFor_stay b ha]
  have h2 : Sre.M.runFor (b + a) m = Sre.M.runFor b m := by rw [runFor_add, runFor_stay a hb]
  rw [← h1, ← h2, Nat.add_comm]

section
variable {M : Model} {A : Around} {E : Value → Shared → Prop} {s : Shared}

theorem drive_ {Q : Sre.M → Shared → Prop} : ∀ (T n : Nat) (m : Sre.M), n ≤ 4 * T → (Sre.M.runFor n m).outcome.isSome = true → 0 < T → Q (Sre.M.runFor n m) s → wpAny M A (Re.reDrive T m) Q E s
  | 0, _, _, _, _, h0, _ => absurd h0 (Nat.lt_irrefl _)
  | T + 1, n, m, hn, ho, _, hq => by
    show wpAny M A (if (Sre.M.runFor 4 m).outcome.isSome then pure (Sre.M.runFor 4 m) else do rule "sre.turn"; Re.reDrive T (Sre.M.runFor 4 m)) Q E s
    by_cases h4 : (Sre.M.runFor 4 m).outcome.isSome = true
    · rw [if_pos h4, runFor_same h4 ho]
      exact wpAny_pure hq
    · rw [if_neg h4]
      have hn4 : 4 < n := by
        apply Nat.lt_of_not_le
        intro hle
        apply h4
        have e : Sre.M.runFor (n + (4 - n)) m = Sre.M.runFor n m := by rw [runFor_add, runFor_stay _ ho]
        rw [show 4 = n + (4 - n) by omega, e]; exact ho
      have e : Sre.M.runFor n m = Sre.M.runFor (n - 4) (Sre.M.runFor 4 m) := by rw [← runFor_add]; congr 1; omega
      refine wpAny_bind (wpAny_rule (drive_ T (n - 4) _ (by omega) (e ▸ ho) (by omega) (e ▸ hq)))

theorem tell_ {has : Nat → Bool} {nm : Nat → String} {Q : PUnit → Shared → Prop} : ∀ l : List Nat, Q ⟨⟩ s → wpAny M A (forIn l PUnit.unit (fun i _ => if has i = true then (do rule (nm i); pure (ForInStep.yield PUnit.unit)) else pure (ForInStep.yield PUnit.unit)) : Sem PUnit) Q E s
  | [], h => by rw [List.forIn_nil]; exact wpAny_pure h
  | i :: r, h => by
    rw [List.forIn_cons]
    refine wpAny_bind ?_
    cases has i with
    | true => exact wpAny_bind (wpAny_rule (wpAny_pure (tell_ r h)))
    | false => exact wpAny_pure (tell_ r h)

theorem runToEnd_ {m : Sre.M} {n : Nat} {b : Bool} {Q : Option Sre.M → Shared → Prop} (hn : n ≤ 2 ^ 60) (ho : (Sre.M.runFor n m).outcome = some (if b then .matched else .failed))
    (h : Q (if b then some (Sre.M.runFor n m) else none) s) : wpAny M A (Re.reRunToEnd m) Q E s := by
  unfold Re.reRunToEnd
  refine wpAny_bind (drive_ (2 ^ 64) n m (by omega) (by rw [ho]; rfl) (by omega) ?_)
  refine wpAny_bind (wpAny_mono (tell_ (has := fun i => (Sre.M.runFor n m).seen.has i) (nm := fun i => Sre.names.getD i "") _ (Q := fun _ s' => s' = s) rfl) (fun _ s' e => ?_) fun _ _ e => e)
  subst e
  rw [ho]
  cases b with
  | true => exact wpAny_pure h
  | false => exact wpAny_pure h
end

def rxMethObj : Obj := { cls := .type "builtin_function_or_method", data := .fields #[.builtin "re.Pattern.match", .ref 36] }
def rxPatObj (v0 : Value) (t1 : Tok) : Obj := { cls := .type "re.Pattern", data := .fields #[v0, .int 32 t1, .int 0 0, .none, .none, .ref 35, .int 0 0] }
def rxTupObj : Obj := { cls := .type "tuple", data := .seq #[.int 14 0, .int 4 0, .int 0 0, .int 0 0, .int 4294967295 0, .int 24 0, .int 9 0, .int 0 0, .int 4294967295 0, .int 13 0, .int 4 0, .int 8 0, .int 12 0, .int 0 0, .int 1 0, .int 23 0, .int 15 0, .int 0 0, .int 1 0, .int 16 0, .int 35 0, .int 24 0, .int 9 0, .int 0 0, .int 4294967295 0, .int 13 0, .int 4 0, .int 8 0, .int 12 0, .int 0 0, .int 1 0, .int 18 0, .int 6 0, .int 5 0, .int 1 0] }

section
variable {prog : Program} {w : World} {A : Around} {E : Value → Shared → Prop} {s : Shared} {Q : Value → Shared → Prop}

theorem entry_match : entryFor table "re.Pattern.match" = some Builtin.«re.Pattern.match» := entryFor_of_fast (by kernel_rfl)

theorem bound_ok {v0 : Value} {t1 : Tok} {x : Str} {t : Tok} {Q : Unit → Shared → Prop} (h36 : s.heap.get? 36 = some (rxPatObj v0 t1)) (h : Q () s) :
    wpAny (model prog w) A (checkBoundCall "re.Pattern.match" ⟨[.ref 36, .str x t], []⟩) Q E s := by
  obtain ⟨hh, g, dr, tk, os⟩ := s
  dsimp only at h36
  unfold rxPatObj at h36
  unfold checkBoundCall
  repeat lk
  exact h

theorem code_eq : ((#[.int 14 0, .int 4 0, .int 0 0, .int 0 0, .int 4294967295 0, .int 24 0, .int 9 0, .int 0 0, .int 4294967295 0, .int 13 0, .int 4 0, .int 8 0, .int 12 0, .int 0 0, .int 1 0, .int 23 0, .int 15 0, .int 0 0, .int 1 0, .int 16 0, .int 35 0, .int 24 0, .int 9 0, .int 0 0, .int 4294967295 0, .int 13 0, .int 4 0, .int 8 0, .int 12 0, .int 0 0, .int 1 0, .int 18 0, .int 6 0, .int 5 0, .int 1 0] : Array Value).map Re.reRawOf).map (fun x => x.toNat) = rxCode := by decide +kernel
theorem target_ok {v0 : Value} {t1 : Tok} {x : Str} {t : Tok} {Q : Re.ReTarget → Shared → Prop} (h36 : s.heap.get? 36 = some (rxPatObj v0 t1)) (h35 : s.heap.get? 35 = some rxTupObj) (hx : x.cps.size < 4294967295)
    (h : Q { pattern := .ref 36, string := .str x t, code := rxCode, text := x.cps, kind := 0, groups := 0, pos := 0, lim := x.cps.size } s) :
    wpAny (model prog w) A (Re.reTarget "re.Pattern.match" "match" ⟨[.ref 36, .str x t], []⟩) Q E s := by
  obtain ⟨hh, g, dr, tk, os⟩ := s
  dsimp only at h36 h35
  unfold rxPatObj at h36
  unfold rxTupObj at h35
  have hl : Min.min ((2 : Int) ^ 63 - 1).toNat x.cps.size = x.cps.size := by omega
  unfold Re.reTarget
  repeat lk
  rw [hl]
  simp only [Option.getD_some]
  rw [code_eq]
  exact h

theorem match_call {v0 : Value} {t1 : Tok} {x : Str} {t : Tok}
    (h37 : s.heap.get? 37 = some rxMethObj) (h36 : s.heap.get? 36 = some (rxPatObj v0 t1)) (h35 : s.heap.get? 35 = some rxTupObj)
    (hx : x.cps.size < 4294967295) (hno : rxJunk x.cps = false → Q .none s)
    (hyes : rxJunk x.cps = true → ∀ oT oM, oT.isFreed = false → oM.isFreed = false → Q (.ref (s.heap.objs.size + 1)) { s with heap := (s.heap.push oT).push oM }) :
    wpAny (model prog w) A (call (.ref 37) [.str x t]) Q E s := by
  obtain ⟨hh, g, dr, tk, os⟩ := s
  dsimp only at h37 h36 h35
  refine wpAny_call ?_
  refine codeAny_of_tree ?_
  show wpAny _ _ (callAny (.ref 37) _) _ _ _
  refine nd_load h37 ?_
  show wpAny _ _ (do checkBoundCall "re.Pattern.match" ⟨[.ref 36, .str x t], []⟩; again (.builtin "re.Pattern.match" ⟨[.ref 36, .str x t], []⟩)) _ _ _
  refine wpAny_bind (bound_ok h36 ?_)
  refine wpAny_pure ⟨Code.quiet_builtin _ (by decide +kernel), codeAny_builtin entry_match ?_⟩
  unfold Builtin.«re.Pattern.match»
  refine wpAny_bind (target_ok h36 h35 hx ?_)
  obtain ⟨pc, pos, handed, hg⟩ := rx_whole x.cps hx
  obtain ⟨n, hn, seen', hr⟩ := hg (({} : Sre.Seen).add 14)
  have hm : Sre.forMatch rxCode x.cps 0 0 x.cps.size false false = rxM x.cps 5 0 0 #[] none [] 0 none (({} : Sre.Seen).add 14) := rfl
  unfold Re.reAnswer
  dsimp only
  rw [hm]
  refine wpAny_bind (runToEnd_ (n := n) (b := rxJunk x.cps) (by omega) (by rw [hr]; rfl) ?_)
  cases hj : rxJunk x.cps with
  | false => exact wpAny_pure (hno hj)
  | true =>
    simp only [if_true]
    unfold Re.reNewMatch
    repeat lk
    rw [Heap.size_push]
    exact hyes hj _ _ rfl rfl
end
end Mine
end

section
open PySem PySem.W PyProof.Rows
namespace Mine

/-- a sign's text -/
abbrev chS (c : Nat) : Str := ⟨#[c]⟩
/-- a test on values that are one sign each -/
def onSign (p : Nat → Bool) : Value → Bool
  | .str ⟨#[c]⟩ _ => p c
  | _ => false
theorem onSign_ch (p : Nat → Bool) (c : Nat) (t : Tok) : onSign p (.str (chS c) t) = p c := rfl

/-- values that are the signs of a list of codes -/
theorem signs_filter (p : Nat → Bool) : ∀ (cs : List Nat) (vs : List Value) (ys : List Value), vs.length = cs.length → (∀ (j : Nat) (v : Value), vs[j]? = some v → ∃ c u, cs[j]? = some c ∧ v = Value.str (chS c) u) → Paired (fun a b => b = a) (vs.filter (onSign p)) ys →
    StrsAre ys ((cs.filter p).map chS)
  | [], [], ys, _, _, hp => by cases hp; exact .nil
  | [], _ :: _, _, hl, _, _ => by simp at hl
  | _ :: _, [], _, hl, _, _ => by simp at hl
  | c :: cs, v :: vs, ys, hl, hv, hp => by
    obtain ⟨c', u, hc, rfl⟩ := hv 0 v rfl
    simp only [List.getElem?_cons_zero, Option.some.injEq] at hc
    subst hc
    have ih := signs_filter p cs vs
    have hv' : ∀ (j : Nat) (v : Value), vs[j]? = some v → ∃ c u, cs[j]? = some c ∧ v = Value.str (chS c) u := fun j v hj => by
      have := hv (j + 1) v (by simpa using hj)
      simpa using this
    rw [List.filter_cons, onSign_ch] at hp
    rw [List.filter_cons]
    cases hpc : p c with
    | true =>
      simp only [hpc, if_true] at hp ⊢
      cases hp with
      | cons hb hr => subst hb; exact .cons _ _ (ih _ (by simpa using hl) hv' hr)
    | false =>
      simp only [hpc] at hp ⊢
      exact ih _ (by simpa using hl) hv' hp

section
variable {prog : Program} {w : World} {A : Around} {E : Value → Shared → Prop} {s : Shared} {h₀ : Heap} {L : Addr} {m : Str → Option Value} {news : List (Addr × Obj)}

/-- [x for x in a text if test], stored under a name -/
theorem strComp_assign {name : Str} {sc : Scope} {fa : Addr} {cd : Value} {ct : Expr} {x y z : Str} {px pe pz py : Pos} {scope : Scope} {cl : List (Str × Addr)} {pos spos : Pos} {Q : Flow → Shared → Prop} {text : Str} {tt : Tok} (p : Nat → Bool)
    (hh : A.handled = none) (F : Fr h₀ L s.heap m) (N : News h₀ L s.heap news) (hz : m z = some (.str text tt))
    (htest : ∀ C c u s₃ m₃ (E' : Value → Shared → Prop), c ∈ text.cps.toList → s₃.heap.Ns C m₃ → m₃ x = some (.str (chS c) u) → (∀ b o, s.heap.get? b = some o → s₃.heap.get? b = some o) → s.heap.objs.size ≤ C →
      wpAny (model prog w) A (isTrue ct (compEnvC scope cl C (envOf name sc L fa cd)) (eval ct (compEnvC scope cl C (envOf name sc L fa cd)))) (fun ok s₄ => ok = p c ∧ Keeps s₃ s₄) E' s₃)
    (hQ : ∀ D n ys h' tk, Fr h₀ L h' (fun q => if q = y then some (.ref D) else m q) → News h₀ L h' ((D, { cls := .type "list", data := .seq ys.toArray n }) :: news) → (∀ q ∈ news, q.1 ≠ D) → StrsAre ys ((text.cps.toList.filter p).map chS) → Q .next { s with heap := h', toks := tk })
    (hsw : swapsWith (.ListComp (.Name x pe) [⟨.Name x px, .Name z pz, [ct], 0⟩] scope pos) (some (.Name y py)) spos.line (envOf name sc L fa cd) = pure true)
    (hclos : closureFor scope (envOf name sc L fa cd) = pure cl) (hcell : ∀ z ∈ scope.names, z.2 ≠ .cell) (hkind : scope.kind = .function)
    (hnames : ∀ z ∈ scope.names, z.2 = .local → scope.names.lookup z.1 = some .local) (hx : scope.names.lookup x = some .local)
    (hy : (envOf name sc L fa cd).kindOf y = some .local) (hk : sc.kind = .function) (hzl : (envOf name sc L fa cd).kindOf z = some .local)
    (hdz : (z == ("__debug__" : Str)) = false) (hdx : (x == ("__debug__" : Str)) = false)
    (hs : ∀ v, foldedSetIterable (.Name z pz) (envOf name sc L fa cd) v = pure v)
    (hsz : text.cps.size ≤ sizeLine) :
    wpAny (model prog w) A (exec (.Assign [.Name y py] (.ListComp (.Name x pe) [⟨.Name x px, .Name z pz, [ct], 0⟩] scope pos) spos) (envOf name sc L fa cd)) Q E s := by
  refine wpAny_Assign_ListComp_free (onSign p) (fun a b => b = a) hsw hclos hcell hkind hnames hx hy (by show (sc.kind == .class || (sc.kind == .module && L != mainGlobals)) = false; rw [hk]; rfl) ?_ hs
  refine ld F hz ?_ hk hzl hdz
  refine wpAny_pyIter_str fun o St hW hst => ?_
  have up : ∀ b o', s.heap.get? b = some o' → (s.heap.push o).get? b = some o' := fun b o' e => Heap.get?_push_of_some _ e
  have hIL : L < s.heap.objs.size := F.ns.lt
  refine ⟨s.heap.objs.size, [s.heap.objs.size], [s.heap.objs.size], text.cps.size, SignAt text, St, m, rfl, hW A hh, hsz, hst, ?_, ?_, F.ns.at' (fun o' e => up _ _ e), ?_, ?_⟩
  · intro b hb
    rw [List.mem_singleton.mp hb]
    show s.heap.objs.size < (s.heap.push o).objs.size
    rw [Heap.size_push]; exact Nat.lt_succ_self _
  · intro hm
    exact absurd hIL ((List.mem_singleton.mp hm) ▸ Nat.lt_irrefl _)
  · have keepOld : ∀ (s₃ : Shared), (∀ b o', b ∉ [s.heap.objs.size] → (s.heap.push o).get? b = some o' → s₃.heap.get? b = some o') → ∀ b o', s.heap.get? b = some o' → s₃.heap.get? b = some o' :=
      fun s₃ hk3 b o' e => hk3 b o' (by simpa using Nat.ne_of_lt (Heap.lt_size e)) (up b o' e)
    refine ⟨?_, ?_⟩
    · rintro C i v s₃ m₃ E' hC ⟨c, u, hc, rfl⟩ hn hm hk3 _
      refine wpAny_tests_one ?_
      have hmem : c ∈ text.cps.toList := by
        rw [← Array.getElem?_toList] at hc
        exact List.mem_of_getElem? hc
      have hC' : s.heap.objs.size ≤ C := by
        have : (s.heap.push o).objs.size ≤ C := hC
        rw [Heap.size_push] at this; exact Nat.le_of_succ_le this
      refine wpAny_mono (htest C c u s₃ m₃ E' hmem hn hm (keepOld s₃ hk3) hC') (fun ok s₄ h4 => ?_) fun _ _ e => e
      exact ⟨h4.1, h4.2⟩
    · rintro C i v s₃ m₃ E' hC _ _ hn hm _ _
      refine wpAny_Name (wpAny_loadName_local (by show (relabel scope _).kind = .function; simpa [relabel] using hkind) (lookup_relabel_local hx) hn hm ?_) hdx
      exact ⟨rfl, s₃.heap, s₃.toks, rfl, fun _ _ e => e⟩
  · intro D h' tk ys vs hD hl hpl hlen hP hF hns hkeep
    obtain ⟨n, hpl⟩ := hpl
    have keepOld : ∀ b o', s.heap.get? b = some o' → b ≠ L → h'.get? b = some o' := fun b o' e hb => hkeep b o' hb (by simpa using Nat.ne_of_lt (Heap.lt_size e)) (up b o' e)
    have hDs : s.heap.get? D = none := by
      cases e : s.heap.get? D with
      | none => rfl
      | some o' => have := up D o' e; rw [hD] at this; cases this
    have hL₀ : h₀.get? L = none := Heap.get?_none_of_le F.above
    have hD₀ : h₀.get? D = none := by
      cases e : h₀.get? D with
      | none => rfl
      | some o' => have := F.keep D o' e; rw [hDs] at this; cases this
    have hDL : D ≠ L := by
      rintro rfl
      obtain ⟨oL, _, _, e, _⟩ := F.ns
      rw [hDs] at e; cases e
    refine hQ D n ys.toList h' tk ⟨hns, fun b o' e => keepOld b o' (F.keep b o' e) (fun q => by rw [q, hL₀] at e; cases e), F.above⟩ (fun q hq => ?_) (fun q hq e => by have := (N q hq).1; rw [e, hDs] at this; cases this) ?_
    · rcases List.mem_cons.mp hq with rfl | hq
      · refine ⟨?_, hDL, hD₀⟩
        rw [hpl]
      · exact ⟨keepOld _ _ (N q hq).1 (N q hq).2.1, (N q hq).2⟩
    · refine signs_filter p text.cps.toList vs ys.toList (by simpa using hlen) (fun j v hj => ?_) hF
      obtain ⟨c, u, hc, e⟩ := hP j v hj
      exact ⟨c, u, by rw [Array.getElem?_toList]; exact hc, e⟩

/-- the test of a comprehension: the sign is not in a written text -/
theorem test_notin {env : Env} {C : Addr} {x W : Str} {p1 p2 p3 : Pos} {k : Nat} {whole : Sem Value} {c : Nat} {u : Tok} {s₃ : Shared} {m₃ : Str → Option Value} {E' : Value → Shared → Prop} (hn : s₃.heap.Ns C m₃) (hm : m₃ x = some (.str (chS c) u))
    (hL : env.locals = C) (hk : env.scope.kind = .function) (hl : env.kindOf x = some .local) (hd : (x == ("__debug__" : Str)) = false) :
    wpAny (model prog w) A (isTrue (.Compare (.Name x p1) [.NotIn] [.Constant (.str W) k p2] p3) env whole) (fun ok s₄ => ok = (!Txt.contains W (chS c)) ∧ Keeps s₃ s₄) E' s₃ := by
  subst hL
  refine wpAny_isTrue_Compare1 ?_
  refine wpAny_Name (wpAny_loadName_local hk hl hn hm ?_) hd
  refine wpAny_Constant_str ?_
  refine SB.notContains ?_
  refine wpAny_pure ⟨rfl, _, _, rfl, fun _ _ e => e⟩
end
end Mine
end

section
open PySem
namespace Mine

theorem whites_list (t : Array Nat) : ∀ (n p : Nat), n = t.size - p → whites t n p = ((t.toList.drop p).takeWhile Unicode.isSpace).length
  | 0, p, h => by
    have : t.toList.drop p = [] := List.drop_eq_nil_of_le (by simp; omega)
    rw [this]; rfl
  | n + 1, p, h => by
    have hp : p < t.toList.length := by simp; omega
    have e : t.getD p 0 = t.toList[p] := by simp [Array.getD, show p < t.size by omega]
    rw [List.drop_eq_getElem_cons hp]
    unfold whites
    rw [e]
    by_cases hs : Unicode.isSpace t.toList[p] = true
    · rw [if_pos hs, whites_list t n (p + 1) (by omega), List.takeWhile_cons_of_pos hs, List.length_cons]
    · rw [if_neg hs, List.takeWhile_cons_of_neg hs]; rfl

/-- junk, said on the signs: beside white ones nothing or one # -/
def junkL (l : List Nat) : Bool := decide (l.filter (fun c => !Unicode.isSpace c) = []) || decide (l.filter (fun c => !Unicode.isSpace c) = [35])

theorem takeWhile_full {p : Nat → Bool} : ∀ l : List Nat, (l.takeWhile p).length = l.length ↔ l.filter (fun c => !p c) = []
  | [] => by simp
  | c :: r => by
    by_cases h : p c = true
    · rw [List.takeWhile_cons_of_pos h, List.filter_cons_of_neg (by simp [h])]
      simp [takeWhile_full r]
    · rw [List.takeWhile_cons_of_neg h, List.filter_cons_of_pos (by simpa using h)]
      simp

theorem take_split {p : Nat → Bool} : ∀ l : List Nat, (l.takeWhile p).length < l.length → ∃ c r, l = l.takeWhile p ++ c :: r ∧ p c = false
  | [], h => by simp at h
  | c :: r, h => by
    by_cases hc : p c = true
    · rw [List.takeWhile_cons_of_pos hc] at h ⊢
      obtain ⟨c', r', e, hc'⟩ := take_split r (by simpa using h)
      exact ⟨c', r', by rw [List.cons_append, ← e], hc'⟩
    · exact ⟨c, r, by rw [List.takeWhile_cons_of_neg hc]; rfl, by simpa using hc⟩

theorem rxJunk_eq (t : Array Nat) : rxJunk t = junkL t.toList := by
  have hw : whites t t.size 0 = (t.toList.takeWhile Unicode.isSpace).length := by rw [whites_list t t.size 0 (by omega), List.drop_zero]
  unfold rxJunk junkL
  dsimp only
  rw [hw]
  have hlen : t.size = t.toList.length := by simp
  by_cases h1 : (t.toList.takeWhile Unicode.isSpace).length = t.toList.length
  · rw [hlen, h1, (takeWhile_full t.toList).mp h1]; simp
  · have hle : (t.toList.takeWhile Unicode.isSpace).length ≤ t.toList.length := (List.takeWhile_sublist _).length_le
    obtain ⟨c, r, e, hc⟩ := take_split (p := Unicode.isSpace) t.toList (by omega)
    have hfw : (t.toList.takeWhile Unicode.isSpace).filter (fun c => !Unicode.isSpace c) = [] := by
      rw [List.filter_eq_nil_iff]
      intro a ha
      have := List.all_takeWhile (p := Unicode.isSpace) (l := t.toList)
      simp only [List.all_eq_true] at this
      simp [this a ha]
    have hf : t.toList.filter (fun c => !Unicode.isSpace c) = c :: r.filter (fun c => !Unicode.isSpace c) := by
      rw [show t.toList.filter (fun c => !Unicode.isSpace c) = (t.toList.takeWhile Unicode.isSpace ++ c :: r).filter (fun c => !Unicode.isSpace c) from by rw [← e], List.filter_append, hfw, List.nil_append, List.filter_cons_of_pos (by simp [hc])]
    have hg : t.getD (t.toList.takeWhile Unicode.isSpace).length 0 = c := by
      have h2 : t.getD (t.toList.takeWhile Unicode.isSpace).length 0 = t.toList.getD (t.toList.takeWhile Unicode.isSpace).length 0 := by simp [Array.getD_eq_getD_getElem?, List.getD_eq_getElem?_getD]
      rw [h2]
      generalize ha : t.toList.takeWhile Unicode.isSpace = a at e
      rw [e]
      simp
    have hd : t.toList.drop ((t.toList.takeWhile Unicode.isSpace).length + 1) = r := by
      generalize ha : t.toList.takeWhile Unicode.isSpace = a at e
      rw [e]
      simp [List.drop_append]
    have hl : t.toList.length = (t.toList.takeWhile Unicode.isSpace).length + 1 + r.length := by
      have := congrArg List.length e
      simp only [List.length_append, List.length_cons] at this
      omega
    rw [hg, whites_list t _ _ rfl, hd, hf]
    rw [show ((t.toList.takeWhile Unicode.isSpace).length == t.size) = false from beq_false_of_ne (by omega)]
    simp only [reduceCtorEq, decide_false, Bool.false_or, List.cons.injEq]
    have h3 : ((t.toList.takeWhile Unicode.isSpace).length + 1 + (r.takeWhile Unicode.isSpace).length == t.size) = decide (r.filter (fun c => !Unicode.isSpace c) = []) := by
      rw [Bool.eq_iff_iff]
      simp only [beq_iff_eq, decide_eq_true_eq]
      rw [← takeWhile_full r]
      omega
    rw [h3]
    by_cases hc5 : c = 35 <;> simp [hc5]

/-- the six white signs of law 02 -/
def ws6 : Str := Str.ofString " \t\n\x0d\x0b\x0c"
theorem ws6_space (c : Nat) (h : (9 ≤ c ∧ c ≤ 13) ∨ (32 ≤ c ∧ c ≤ 126)) : Txt.contains ws6 (chS c) = Unicode.isSpace c := by
  have : ∀ c < 127, ((9 ≤ c ∧ c ≤ 13) ∨ (32 ≤ c ∧ c ≤ 126)) → Txt.contains ws6 (chS c) = Unicode.isSpace c := by decide +kernel
  exact this c (by omega) h
end Mine
end

section
set_option maxRecDepth 100000
open PySem PySem.W PySem.Calls PyProof.Rows
namespace Mine
section
variable {prog : Program} {w : World} {A : Around} {E : Value → Shared → Prop} {s : Shared} {Q : Value → Shared → Prop} {h₀ : Heap} {L : Addr} {m : Str → Option Value} {news : List (Addr × Obj)}

theorem keeper_rx {M : Model} (h : Heap) (e : h.get? 37 = some rxMethObj) : ∃ k, (k = Keeper.frame ∨ k = Keeper.machine ∨ k = Keeper.boundFrame) ∧ Looks M h (keeperOf (.ref 37)) k := by
  refine ⟨.machine, .inr (.inl rfl), (Looks.ld (part := none) e).andThen ?_⟩
  exact Looks.of_pure rfl

/-- what stands of the compiled pattern at the top -/
structure RxAt (h : Heap) : Prop where
  meth : h.get? 37 = some rxMethObj
  pat : ∃ v0 t1, h.get? 36 = some (rxPatObj v0 t1)
  tup : h.get? 35 = some rxTupObj
theorem RxAt.keeps {h h' : Heap} (R : RxAt h) (k : ∀ b o, h.get? b = some o → h'.get? b = some o) : RxAt h' :=
  ⟨k _ _ R.meth, let ⟨v, t, e⟩ := R.pat; ⟨v, t, k _ _ e⟩, k _ _ R.tup⟩

/-- pat(line), pat the pattern's own match -/
theorem callWith_rx {name : Str} {sc : Scope} {fa : Addr} {cd : Value} {pos p : Pos} {y x : Str} {t : Tok} (R : RxAt h₀) (F : Fr h₀ L s.heap m) (N : News h₀ L s.heap news) (hy : m y = some (.str x t)) (hx : x.length < 4294967295)
    (hno : junkL x.cps.toList = false → Q .none s)
    (hyes : junkL x.cps.toList = true → ∀ a h', Fr h₀ L h' m → News h₀ L h' news → Q (.ref a) { s with heap := h' })
    (hk : sc.kind = .function) (hl : (envOf name sc L fa cd).kindOf y = some .local) (hd : (y == ("__debug__" : Str)) = false) :
    wpAny (model prog w) A (callWith pos (.ref 37) [] (backTo pos (starEach [.Name y p] (envOf name sc L fa cd))) []) Q E s := by
  have he : starEach [.Name y p] (envOf name sc L fa cd) = (false, eval (.Name y p) (envOf name sc L fa cd)) :: starEach [] (envOf name sc L fa cd) := rfl
  have R' := R.keeps F.keep
  rw [he]
  refine callWith_of (P := fun h => h.get? 37 = some rxMethObj) rfl keeper_rx (evalArgs_plain ?_)
  refine spliced_cons (ld F hy (spliced_nil ⟨R'.meth, ?_⟩) hk hl hd)
  obtain ⟨v0, t1, h36⟩ := R'.pat
  refine match_call R'.meth h36 R'.tup hx ?_ ?_
  · intro hj
    exact hno (by rw [← rxJunk_eq]; exact hj)
  · intro hj oT oM fT fM
    refine hyes (by rw [← rxJunk_eq]; exact hj) _ _ ((F.push _).push _) fun q hq => ?_
    exact ⟨Heap.get?_push_of_some _ (Heap.get?_push_of_some _ (N q hq).1), (N q hq).2⟩
end
end Mine
end

section
open PySem PySem.W PyProof.Rows PySem.Spec
namespace Mine
theorem ks_canLayAll0 : ∀ ns : List Str, (∀ x ∈ ns, PyData.strOk x = true) → PyData.canLayAll0 (ns.map PyData.str) = true
  | [], _ => rfl
  | a :: r, h => by simp [PyData.canLayAll0, PyData.canLay0, ks_canLayAll0 r (fun x hx => h x (List.mem_cons_of_mem _ hx)), h a List.mem_cons_self]
theorem ks_depthAll : ∀ ns : List Str, PyData.depthAll (ns.map PyData.str) = 0
  | [] => rfl
  | _ :: r => by simp [PyData.depthAll, PyData.depth, ks_depthAll r]
theorem ks_shaped (ns : List Str) (h : ∀ x ∈ ns, PyData.strOk x = true) : SeqAt.shaped (.list (ns.map PyData.str)) = true := by
  simp [SeqAt.shaped, PyData.canLay0, PyData.depth, ks_canLayAll0 ns h, ks_depthAll]
theorem ks_sameAll : ∀ ns ms : List Str, PySem.Spec.sameAll (ns.map PyData.str) (ms.map PyData.str) = decide (ns = ms)
  | [], [] => by simp [PySem.Spec.sameAll]
  | [], _ :: _ => by simp [PySem.Spec.sameAll]
  | _ :: _, [] => by simp [PySem.Spec.sameAll]
  | a :: r, b :: t => by
    simp only [List.map_cons, PySem.Spec.sameAll, PySem.Spec.same, ks_sameAll r t]
    by_cases h : a = b <;> by_cases h' : r = t <;> simp [h, h']
theorem ks_same (ns ms : List Str) : PySem.Spec.same (.list (ns.map PyData.str)) (.list (ms.map PyData.str)) = decide (ns = ms) := by
  simp only [PySem.Spec.same]; exact ks_sameAll ns ms
section
variable {prog : Program} {w : World} {A : Around} {E : Value → Shared → Prop} {s : Shared} {a b : Addr} {xs ys : List Value} {ns ms : List Str} {Q : Value → Shared → Prop}
theorem eq_strs (ha : s.heap.IsList a xs.toArray) (hb : s.heap.IsList b ys.toArray) (hi : StrsAre xs ns) (hj : StrsAre ys ms) (h1 : ∀ x ∈ ns, PyData.strOk x = true) (h2 : ∀ x ∈ ms, PyData.strOk x = true) (hu : A.units + 64 < cLine) (h : Q (.bool (decide (ns = ms))) s) :
    wpAny (model prog w) A (compareOp .Eq (.ref a) (.ref b)) Q E s :=
  eq_dataH_same (reads_newData ha hi.carried) (reads_newData hb hj.carried) (ks_shaped _ h1) (ks_shaped _ h2) hu (SeqAt.noMix_of_shape (.list .str) rfl _ _ (list_map_has fun _ => rfl) (list_map_has fun _ => rfl)) (by rw [ks_same]; exact h)
theorem ne_strs (ha : s.heap.IsList a xs.toArray) (hb : s.heap.IsList b ys.toArray) (hi : StrsAre xs ns) (hj : StrsAre ys ms) (h1 : ∀ x ∈ ns, PyData.strOk x = true) (h2 : ∀ x ∈ ms, PyData.strOk x = true) (hu : A.units + 64 < cLine) (h : Q (.bool (!decide (ns = ms))) s) :
    wpAny (model prog w) A (compareOp .NotEq (.ref a) (.ref b)) Q E s :=
  ne_dataH_same (reads_newData ha hi.carried) (reads_newData hb hj.carried) (ks_shaped _ h1) (ks_shaped _ h2) hu (SeqAt.noMix_of_shape (.list .str) rfl _ _ (list_map_has fun _ => rfl) (list_map_has fun _ => rfl)) (by rw [ks_same]; exact h)
end
end Mine
end

section
open PySem PySem.W PyProof.Rows
namespace Mine
abbrev restOf (x : Str) : List Str := (x.cps.toList.filter (fun c => !Txt.contains ws6 (chS c))).map chS

theorem rest_filter {x : Str} (h : LineOk x) : x.cps.toList.filter (fun c => !Txt.contains ws6 (chS c)) = x.cps.toList.filter (fun c => !Unicode.isSpace c) :=
  List.filter_congr fun c hc => by rw [ws6_space c (h.ok c hc)]

theorem chS_inj {l : List Nat} {l' : List Nat} (h : l.map chS = l'.map chS) : l = l' := by
  induction l generalizing l' with
  | nil => cases l' with | nil => rfl | cons _ _ => simp at h
  | cons a r ih => cases l' with
    | nil => simp at h
    | cons b t =>
      simp only [List.map_cons, List.cons.injEq, Str.mk.injEq, Array.mk.injEq, and_true] at h
      rw [show a = b by simpa using h.1, ih h.2]

theorem hash_eq : [Str.ofString "#"] = [35].map chS := by decide

theorem rest_yes {x : Str} (h : LineOk x) (hj : junkL x.cps.toList = true) : restOf x = [] ∨ (restOf x ≠ [] ∧ restOf x = [Str.ofString "#"]) := by
  unfold junkL at hj
  simp only [Bool.or_eq_true, decide_eq_true_eq] at hj
  unfold restOf
  rw [rest_filter h]
  rcases hj with e | e
  · left; rw [e]; rfl
  · right; rw [e]; exact ⟨by simp, hash_eq.symm⟩
theorem rest_no {x : Str} (h : LineOk x) (hj : junkL x.cps.toList = false) : restOf x ≠ [] ∧ restOf x ≠ [Str.ofString "#"] := by
  unfold junkL at hj
  simp only [Bool.or_eq_false_iff, decide_eq_false_iff_not] at hj
  unfold restOf
  rw [rest_filter h]
  refine ⟨fun e => hj.1 (by simpa using e), fun e => hj.2 ?_⟩
  rw [hash_eq] at e
  exact chS_inj e
theorem rest_ok {x : Str} (h : LineOk x) : ∀ y ∈ restOf x, PyData.strOk y = true := by
  intro y hy
  obtain ⟨c, hc, rfl⟩ := List.mem_map.mp hy
  have := h.ok c (List.mem_filter.mp hc).1
  show (#[c] : Array Nat).all (· < 0x110000) = true
  have hlt : c < 0x110000 := by unfold OkSign at this; omega
  simp [hlt]
theorem codes_ok {line : Str} (h : LineOk line) {pre post : List Int} {n : Nat} (e : KStt.codes line = pre ++ (n : Int) :: post) : OkSign n := by
  have hm : (n : Int) ∈ KStt.codes line := by rw [e]; simp
  unfold KStt.codes at hm
  obtain ⟨c, hc, hcn⟩ := List.mem_map.mp hm
  have : c = n := by omega
  subst this
  exact h.ok c (by simpa using hc)
theorem bt_of {n : Nat} (h : OkSign n) : Txt.contains (Str.ofString " \t") (chS n) = (n == 32 || n == 9) := by
  have : ∀ c < 127, Txt.contains (Str.ofString " \t") (chS c) = (c == 32 || c == 9) := by decide +kernel
  unfold OkSign at h
  exact this n (by omega)
section
variable {prog : Program} {w : World} {A : Around} {E : Value → Shared → Prop} {s : Shared} {a b : Addr} {xs ys : List Value} {ns ms : List Str} {Q : Value → Shared → Prop}
theorem eq_strs_t (e : ns = ms) (ha : s.heap.IsList a xs.toArray) (hb : s.heap.IsList b ys.toArray) (hi : StrsAre xs ns) (hj : StrsAre ys ms) (h1 : ∀ x ∈ ns, PyData.strOk x = true) (h2 : ∀ x ∈ ms, PyData.strOk x = true) (hu : A.units + 64 < cLine) (h : Q (.bool true) s) :
    wpAny (model prog w) A (compareOp .Eq (.ref a) (.ref b)) Q E s := eq_strs ha hb hi hj h1 h2 hu (by rw [decide_eq_true e]; exact h)
theorem eq_strs_f (e : ns ≠ ms) (ha : s.heap.IsList a xs.toArray) (hb : s.heap.IsList b ys.toArray) (hi : StrsAre xs ns) (hj : StrsAre ys ms) (h1 : ∀ x ∈ ns, PyData.strOk x = true) (h2 : ∀ x ∈ ms, PyData.strOk x = true) (hu : A.units + 64 < cLine) (h : Q (.bool false) s) :
    wpAny (model prog w) A (compareOp .Eq (.ref a) (.ref b)) Q E s := eq_strs ha hb hi hj h1 h2 hu (by rw [decide_eq_false e]; exact h)
end
end Mine
end

section
open PySem PySem.W PyProof.Rows Mine PySem.Calls PySem.Spec
set_option maxRecDepth 100000
set_option maxHeartbeats 8000000
namespace Mine
section
variable {prog : Program} {w : World} {A₀ A : Around} {s : Shared} {base h₀ : Heap} {L a : Addr} {m : Str → Option Value} {cn : Str} {cs : Scope} {ccd : Value} {cl : List (Str × Addr)} {news : List (Addr × Obj)} {K : Frag} {p : Program} {loose : List Str} {mean : ExcName → Option Value} {mg mb : Str → Option Value}
    {R : Result → Shared → Prop} {name qual : Str} {params : Arguments} {body : List Stmt} {scope : Scope} {dV kV doc pm cdv ct oc : Value} {an od : Option Addr} {osl : Array (Option Value)} {f : Addr} {args : Args} {binds : List (Str × Value)}
/-- a def that catches, called from the outermost frame, which has cells -/
theorem code_defX0 (B : Below A₀ base [] h₀) (F : Fr h₀ L s.heap m) (X₀ : K.In h₀) (N : News h₀ L s.heap news) (T : Top p loose mean mg mb h₀) (hA : A.frames = some [envX cn cs L a ccd cl])
    (ho : K.lookup f = some ⟨oc, od, .func (fnOf name qual params body scope dV kV doc pm an cdv ct), osl⟩) (hcd : codeIn K cdv qual = true) (hroom : A.depth < recursionLimit)
    (hbind : BindsTo s (fnOf name qual params body scope dV kV doc pm an cdv ct) args binds) (hloc : ∀ y ∈ binds, scope.names.lookup y.1 = some .local)
    (h : ∀ g L' h₁, Fr h₀ L g m → Fr g L' h₁ (fun y => binds.reverse.lookup y) → News g L' h₁ news → Below A base [envX cn cs L a ccd cl] g → K.In g → Top p loose mean mg mb g → KtsDicts ([envX cn cs L a ccd cl].filterMap (·.frame)) g →
      wpAny (model prog w) (A.deeper (envOf qual scope L' f cdv)) (execs body (envOf qual scope L' f cdv))
        (fun fl s' => LeaveS0 ([envX cn cs L a ccd cl].filterMap (·.frame)) h₀ L m g R (match fl with | .ret v => v | _ => .none) s')
        (fun e s' => wpAny (model prog w) (A.deeper (envOf qual scope L' f cdv)) (leaving (envOf qual scope L' f cdv) e) (fun _ s'' => R (.error e) s'') (fun e' s'' => R (.error e') s'') s')
        { s with heap := h₁, toks := s.toks + binds.length })
    (hck : cs.kind = .function) (hco : scope.isCoroutine = false) (hgen : scope.isGenerator = false) (hk : scope.kind = .function)
    (hcell : ∀ x ∈ scope.names, x.2 ≠ .cell) : codeAny (model prog w) A (.call (.ref f) args) R s := by
  have X := X₀.keeps F.keep
  refine codeAny_call_def (fd := fnOf name qual params body scope dV kV doc pm an cdv ct) (body := body) (binds := binds) hroom (X _ _ ho) rfl (T.nolimit.keeps F.keep) (codeRec_of X hcd) rfl hbind hcell hloc (fun h₁ hns hk₁ => ?_) hco hgen hk
  obtain ⟨FG, BG, st, _⟩ := groundX (R := R) B F N hA rfl hck
  obtain ⟨oL, es, ep, hLg, hLd, hLr⟩ := FG.ns
  have only : ∀ b ∈ ([envX cn cs L a ccd cl].filterMap (·.frame)), b = L := fun b hb => by simpa using hb
  refine wpAny_mono (h _ s.heap.objs.size h₁ FG ⟨hns, fun b o e => hk₁ b o (of_hideAll _ e), Nat.le_of_eq (hideAll_size _ _)⟩
    (fun p hp => ⟨hk₁ _ _ (N p hp).1, Nat.ne_of_lt (Heap.lt_size (N p hp).1), hideAll_none _ (List.mem_map_of_mem hp)⟩) BG (X₀.keeps st) (T.keeps st) (fun b hb => ⟨oL, es, ep, by rw [only b hb]; exact hLg, hLd⟩)) (fun fl s' hl => ?_) fun _ _ y => y
  obtain ⟨g', L', m', news', T', F', N', k⟩ := hl
  have nL₀ : h₀.get? L = none := kts_self F
  obtain ⟨sl, hs⟩ := T'.up hLg
  refine k ⟨⟨_, es, ep, F'.keep _ _ hs, hLd, hLr⟩, fun b o e => F'.keep b o (T'.other b o (st b o e) fun q => ?_), F.above⟩ fun p hp => ⟨(N' p hp).1, fun q => ?_, ?_⟩
  · rw [only b q, nL₀] at e; cases e
  · have := (N' p hp).2.2; rw [q, hs] at this; cases this
  · cases q : h₀.get? p.1 with
    | none => rfl
    | some o =>
      obtain ⟨sl', hs'⟩ := T'.up (st _ _ q)
      have := (N' p hp).2.2
      rw [hs'] at this
      cases this
end
/-- asked and answered -/
abbrev CtrQ (w : World) (mean : ExcName → Option Value) (mg mb : Str → Option Value) (ch ws : Value) (news news' : List (Addr × Obj)) (r : Str) : Prop :=
  ∀ (p : Program) (loose : List Str) (dp un : Nat) (gd : Option (List Code)) (cn : Str) (cs : Scope) (a : Addr) (ccd : Value) (cl : List (Str × Addr)) (A₀ : Around) (h₀ : Heap) (L : Addr) (m : Str → Option Value) (s : Shared) (Q E : Value → Shared → Prop),
    Below A₀ h₀ [] h₀ → Fr h₀ L s.heap m → (hd.heap_39 w.params).In h₀ → News h₀ L s.heap news → Top p loose mean mg mb h₀ → cs.kind = .function →
    dp + 40 < recursionLimit → un + 400 < cLine →
    (∀ t h' tk, Fr h₀ L h' m → News h₀ L h' news' → Q (.str r t) { s with heap := h', toks := tk }) →
      wpAny (model PySem.Challenge.rw_dm0047_01.row.prog w) (ktrTop dp un gd cn cs L a ccd cl []) (call (.ref 29) [ch, ws]) Q E s
/-- «in» says yes or no -/
abbrev InOk (w : World) (ch ws : Value) (news news' : List (Addr × Obj)) (b : Bool) : Prop :=
  ∀ (A : Around) (g : Heap) (L : Addr) (m : Str → Option Value) (s : Shared) (Q E : Value → Shared → Prop), A.handled = none → A.units + 100 < cLine → Fr g L s.heap m → News g L s.heap news →
    (∀ h' tk, Fr g L h' m → News g L h' news' → Q (.bool b) { s with heap := h', toks := tk }) → wpAny (model PySem.Challenge.rw_dm0047_01.row.prog w) A (compareOp .In ch ws) Q E s
/-- «in» raises -/
abbrev InX (w : World) (ch ws : Value) (news : List (Addr × Obj)) (X : String) (msg : Str) : Prop :=
  ∀ (A : Around) (g : Heap) (L : Addr) (m : Str → Option Value) (s : Shared) (Q E : Value → Shared → Prop), A.handled = none → A.units + 100 < cLine → Fr g L s.heap m → News g L s.heap news →
    Raises E s X msg → wpAny (model PySem.Challenge.rw_dm0047_01.row.prog w) A (compareOp .In ch ws) Q E s
end Mine
local macro_rules | `(tactic| k_room) => `(tactic| first | ((try simp only [depth_mark, depth_under_make, depth_under_kw, depth_in1, depth_deeper, depth_caller]); decide) | ((try simp only [depth_mark, depth_under_make, depth_under_kw, depth_in1, depth_deeper, depth_caller]); (try dsimp only); omega))
local macro_rules | `(tactic| k_units) => `(tactic| first | exact Nat.le_of_ble_eq_true rfl | ((try simp only [units_in1, units_deeper, Around.mark_units, units_caller]); (try dsimp only); omega))
local macro_rules | `(tactic| walk_at "compareOp In") => `(tactic| (k_here; refine stop_in ?_))
local macro_rules | `(tactic| walk_at "exec Try") => `(tactic| (k_here; refine stop_in ?_))
theorem Mine.asked_yes {w : World} {mean : ExcName → Option Value} {mg mb : Str → Option Value} {ch ws : Value} {news news' : List (Addr × Obj)} (hIn : InOk w ch ws news news' true) : CtrQ w mean mg mb ch ws news news' (Str.ofString "yes") := by
  dsimp only [CtrQ]
  k_fill
  intros
  rename_i hret
  refine wpAny_call ?_
  k_dflt (refine' code_defX0 ?k1 ?k2 ?k3 ?k4 ?k5 ?kA ?k6 ?k7 ?k8 ?k9 ?kB ?_ ?cK ?c2 ?c3 ?c4 ?c5; (case kA => exact rfl); (case k2 => k_asm); (case k1 => k_asm); (case k3 => k_asm); (case k4 => k_asm); (case k5 => k_asm); (case k6 => k_is); (case k7 => k_is); (case k8 => k_room); (case k9 => exact BindsTo.of_eq rfl); (case kB => exact locs rfl); (case cK => assumption); (case c2 => exact rfl); (case c3 => exact rfl); (case c4 => exact rfl); (case c5 => decide); k_whole; intro g' L' h' FG' F' N' B' X' T' D'; (try dsimp only); (try k_lift B'); (try k_fold))
  k_steps
  refine stop_out ?_
  refine wpAny_Try_except ?_
  k_steps
  refine stop_out ?_
  refine' hIn _ _ _ _ _ _ _ rfl (by k_units) (by k_asm) (by k_asm) ?_
  intro h9 tk9 F9 N9
  k_steps
  exact hret _ _ _ (by assumption) (by assumption)
theorem Mine.asked_no {w : World} {mean : ExcName → Option Value} {mg mb : Str → Option Value} {ch ws : Value} {news news' : List (Addr × Obj)} (hIn : InOk w ch ws news news' false) : CtrQ w mean mg mb ch ws news news' (Str.ofString "no") := by
  dsimp only [CtrQ]
  k_fill
  intros
  rename_i hret
  refine wpAny_call ?_
  k_dflt (refine' code_defX0 ?k1 ?k2 ?k3 ?k4 ?k5 ?kA ?k6 ?k7 ?k8 ?k9 ?kB ?_ ?cK ?c2 ?c3 ?c4 ?c5; (case kA => exact rfl); (case k2 => k_asm); (case k1 => k_asm); (case k3 => k_asm); (case k4 => k_asm); (case k5 => k_asm); (case k6 => k_is); (case k7 => k_is); (case k8 => k_room); (case k9 => exact BindsTo.of_eq rfl); (case kB => exact locs rfl); (case cK => assumption); (case c2 => exact rfl); (case c3 => exact rfl); (case c4 => exact rfl); (case c5 => decide); k_whole; intro g' L' h' FG' F' N' B' X' T' D'; (try dsimp only); (try k_lift B'); (try k_fold))
  k_steps
  refine stop_out ?_
  refine wpAny_Try_except ?_
  k_steps
  refine stop_out ?_
  refine' hIn _ _ _ _ _ _ _ rfl (by k_units) (by k_asm) (by k_asm) ?_
  intro h9 tk9 F9 N9
  k_steps
  exact hret _ _ _ (by assumption) (by assumption)
theorem Mine.asked_type {w : World} {mean : ExcName → Option Value} {mg mb : Str → Option Value} {ch ws : Value} {news : List (Addr × Obj)} {msg : Str} (hIn : InX w ch ws news "TypeError" msg) (hlen : msg.length ≤ 1000) : CtrQ w mean mg mb ch ws news news (Str.ofString "TypeError: " ++ msg) := by
  dsimp only [CtrQ]
  k_fill
  intros
  rename_i hret
  refine wpAny_call ?_
  k_dflt (refine' code_defX0 ?k1 ?k2 ?k3 ?k4 ?k5 ?kA ?k6 ?k7 ?k8 ?k9 ?kB ?_ ?cK ?c2 ?c3 ?c4 ?c5; (case kA => exact rfl); (case k2 => k_asm); (case k1 => k_asm); (case k3 => k_asm); (case k4 => k_asm); (case k5 => k_asm); (case k6 => k_is); (case k7 => k_is); (case k8 => k_room); (case k9 => exact BindsTo.of_eq rfl); (case kB => exact locs rfl); (case cK => assumption); (case c2 => exact rfl); (case c3 => exact rfl); (case c4 => exact rfl); (case c5 => decide); k_whole; intro g' L' h' FG' F' N' B' X' T' D'; (try dsimp only); (try k_lift B'); (try k_fold))
  k_steps
  refine stop_out ?_
  refine wpAny_Try_except ?_
  k_steps
  refine stop_out ?_
  refine' hIn _ _ _ _ _ _ _ rfl (by k_units) (by k_asm) (by k_asm) ?_
  intro h9 tk9 e9 t9 hx9
  refine' leave_raiseS ?hB8 hx9 ?hF8 ?hN8 fun h10 t10 hS hK hu => ?_
  case hB8 => assumption
  case hF8 => assumption
  case hN8 => k_asm
  dsimp only at hS hK hu ⊢
  k_steps
  exact hret _ _ _ (by assumption) (by assumption)
end

section
open PySem PySem.W PyProof.Rows Mine PySem.Calls PySem.Spec
set_option maxRecDepth 100000
set_option maxHeartbeats 8000000
local macro_rules | `(tactic| k_room) => `(tactic| first | ((try simp only [depth_mark, depth_under_make, depth_under_kw, depth_in1, depth_deeper, depth_caller]); decide) | ((try simp only [depth_mark, depth_under_make, depth_under_kw, depth_in1, depth_deeper, depth_caller]); (try dsimp only); omega))
local macro_rules | `(tactic| k_units) => `(tactic| first | exact Nat.le_of_ble_eq_true rfl | ((try simp only [units_in1, units_deeper, Around.mark_units, units_caller]); (try dsimp only); omega))
local macro_rules | `(tactic| walk_at "compareOp In") => `(tactic| (k_here; refine stop_in ?_))
local macro_rules | `(tactic| walk_at "exec Try") => `(tactic| (k_here; refine stop_in ?_))
theorem Mine.asked_value {w : World} {mean : ExcName → Option Value} {mg mb : Str → Option Value} {ch ws : Value} {news : List (Addr × Obj)} {msg : Str} (hIn : InX w ch ws news "ValueError" msg) (hlen : msg.length ≤ 1000) : CtrQ w mean mg mb ch ws news news (Str.ofString "ValueError: " ++ msg) := by
  dsimp only [CtrQ]
  k_fill
  intros
  rename_i hret
  refine wpAny_call ?_
  k_dflt (refine' code_defX0 ?k1 ?k2 ?k3 ?k4 ?k5 ?kA ?k6 ?k7 ?k8 ?k9 ?kB ?_ ?cK ?c2 ?c3 ?c4 ?c5; (case kA => exact rfl); (case k2 => k_asm); (case k1 => k_asm); (case k3 => k_asm); (case k4 => k_asm); (case k5 => k_asm); (case k6 => k_is); (case k7 => k_is); (case k8 => k_room); (case k9 => exact BindsTo.of_eq rfl); (case kB => exact locs rfl); (case cK => assumption); (case c2 => exact rfl); (case c3 => exact rfl); (case c4 => exact rfl); (case c5 => decide); k_whole; intro g' L' h' FG' F' N' B' X' T' D'; (try dsimp only); (try k_lift B'); (try k_fold))
  k_steps
  refine stop_out ?_
  refine wpAny_Try_except ?_
  k_steps
  refine stop_out ?_
  refine' hIn _ _ _ _ _ _ _ rfl (by k_units) (by k_asm) (by k_asm) ?_
  intro h9 tk9 e9 t9 hx9
  refine' leave_raiseS ?hB8 hx9 ?hF8 ?hN8 fun h10 t10 hS hK hu => ?_
  case hB8 => assumption
  case hF8 => assumption
  case hN8 => k_asm
  dsimp only at hS hK hu ⊢
  k_steps
  exact hret _ _ _ (by assumption) (by assumption)
end

section
open PySem PySem.W PyProof.Rows
namespace Mine

section
variable {prog : Program} {w : World} {A : Around} {E : Value → Shared → Prop} {s : Shared} {env : Env} {h₀ : Heap} {x : Str} {body : List Stmt} {Q : Flow → Shared → Prop}

/-- a loop over anything that walks, by a state of one's own -/
theorem loop_s {σ : Type} {I : Addr} {fp wr : List Addr} {n : Nat} {Pv : Nat → Value → Prop} {St : Nat → Heap → Prop} {m₀ : Str → Option Value}
    (Led : σ → List (Addr × Obj)) (ps : σ → List (Str × Value)) (Facts : σ → Prop) (stored : List Str) (P : Nat → σ → Prop) (c₀ : σ)
    (W : Walks prog w A I fp wr n Pv St) (hLf : env.locals ∉ fp) (hwr : ∀ b ∈ wr, h₀.get? b = none) (hfp : ∀ q ∈ Led c₀, q.1 ∉ fp) (hst : St 0 s.heap)
    (F : Fr h₀ env.locals s.heap m₀) (N : News h₀ env.locals s.heap (Led c₀)) (hf : Facts c₀) (hk : ∀ p ∈ ps c₀, m₀ p.1 = some p.2) (hp : P 0 c₀)
    (turn : ∀ (c : σ) (i : Nat) (v : Value) (u : Str → Option Value) h tk own, i < n → Pv i v → OwnOff own ((Led c₀).map (·.1)) → Facts c → P i c →
      Fr h₀ env.locals h (fun y => if y = x then some v else kstB (fun z => if stored.contains z then u z else m₀ z) (ps c) y) → News h₀ env.locals h (Led c ++ own) →
      wpAny (model prog w) A (execs body env) (InvPostN h₀ env.locals (KstS Led ps Facts x stored m₀ (fun pre c => P pre.length c) (rangeKs 0 (i + 1))) own ((Led c₀).map (·.1)) { s with heap := h, toks := tk } Q) E { s with heap := h, toks := tk })
    (done : ∀ (c : σ) (u : Str → Option Value) h tk, Facts c → P n c → Fr h₀ env.locals h (fun y => if y = x then u y else kstB (fun z => if stored.contains z then u z else m₀ z) (ps c) y) → News h₀ env.locals h (Led c) → Q .next { s with heap := h, toks := tk }) :
    LoopAtV prog w A h₀ env x body Q E (.ref I) s := by
  refine loop_invN (fun i m nx => KstS Led ps Facts x stored m₀ (fun pre c => P pre.length c) (rangeKs 0 i) m nx) W hLf hwr (fun p hp hI => hfp p hp (W.sub _ hI)) hfp hst F N ⟨c₀, rfl, hf, hk, fun _ _ _ _ => rfl, by simpa [rangeKs] using hp⟩ ?_ ?_
  · rintro i v m₁ nx h tk own hi hv _ hoff ⟨c, rfl, hf', h1, h2, hp'⟩ F₁ N₁
    exact turn c i v m₁ h tk own hi hv hoff hf' (by simpa [rangeKs_length] using hp') (kst_fr h1 h2 F₁) N₁
  · rintro m₁ nx h tk ⟨c, rfl, hf', h1, h2, hp'⟩ F₁ N₁
    exact done c m₁ h tk hf' (by simpa [rangeKs_length] using hp') (kst_frOut h1 h2 F₁) N₁

theorem tup_loop {σ : Type} {l : Addr} {its : Array Value} {m₀ : Str → Option Value}
    (Led : σ → List (Addr × Obj)) (ps : σ → List (Str × Value)) (Facts : σ → Prop) (stored : List Str) (P : Nat → σ → Prop) (c₀ : σ)
    (hh : A.handled = none) (hl : s.heap.IsTuple l its) (hlL : l ≠ env.locals) (hfp : ∀ q ∈ Led c₀, q.1 ≠ l)
    (F : Fr h₀ env.locals s.heap m₀) (N : News h₀ env.locals s.heap (Led c₀)) (hf : Facts c₀) (hk : ∀ p ∈ ps c₀, m₀ p.1 = some p.2) (hp : P 0 c₀)
    (turn : ∀ (c : σ) (i : Nat) (v : Value) (u : Str → Option Value) h tk own, i < its.size → its[i]? = some v → OwnOff own ((Led c₀).map (·.1)) → Facts c → P i c →
      Fr h₀ env.locals h (fun y => if y = x then some v else kstB (fun z => if stored.contains z then u z else m₀ z) (ps c) y) → News h₀ env.locals h (Led c ++ own) →
      wpAny (model prog w) A (execs body env) (InvPostN h₀ env.locals (KstS Led ps Facts x stored m₀ (fun pre c => P pre.length c) (rangeKs 0 (i + 1))) own ((Led c₀).map (·.1)) { s with heap := h, toks := tk } Q) E { s with heap := h, toks := tk })
    (done : ∀ (c : σ) (u : Str → Option Value) h tk, Facts c → P its.size c → Fr h₀ env.locals h (fun y => if y = x then u y else kstB (fun z => if stored.contains z then u z else m₀ z) (ps c) y) → News h₀ env.locals h (Led c) → Q .next { s with heap := h, toks := tk }) :
    wpAny (model prog w) A (pyIter (.ref l)) (fun it s₂ => LoopAtV prog w A h₀ env x body Q E it s₂) E s := by
  have hlt : l < s.heap.objs.size := by obtain ⟨o, ho, _⟩ := hl; exact Heap.lt_size ho
  have hne : l ≠ s.heap.objs.size := Nat.ne_of_lt hlt
  refine wpAny_pyIter_tuple hl ?_
  refine loop_s Led ps Facts stored P c₀ (Walks.tuple hh s.heap.objs.size l hne its) ?_ ?_ ?_ ?_ (F.push _) (fun p hp => ⟨Heap.get?_push_of_some _ (N p hp).1, (N p hp).2⟩) hf hk hp turn done
  · intro hm
    rcases List.mem_cons.mp hm with e | hm
    · exact absurd F.ns.lt (e ▸ Nat.lt_irrefl _)
    · exact hlL (List.mem_singleton.mp hm).symm
  · intro b hb
    rw [List.mem_singleton.mp hb]
    exact next_is_new F
  · intro p hp hI
    rcases List.mem_cons.mp hI with e | hI
    · exact absurd (Heap.lt_size (N p hp).1) (e ▸ Nat.lt_irrefl _)
    · exact hfp p hp (List.mem_singleton.mp hI)
  · refine ⟨⟨_, Heap.get?_push_size _ rfl, rfl, rfl⟩, ?_⟩
    obtain ⟨o, ho, r⟩ := hl
    exact ⟨o, Heap.get?_push_of_some _ ho, r⟩

/-- the same where the thing that is walked may stand in the ledger itself (a turn that changes nothing of the ledger's addresses) -/
theorem loop_sK {σ : Type} {I : Addr} {fp wr : List Addr} {n : Nat} {Pv : Nat → Value → Prop} {St : Nat → Heap → Prop} {m₀ : Str → Option Value}
    (Led : σ → List (Addr × Obj)) (ps : σ → List (Str × Value)) (Facts : σ → Prop) (stored : List Str) (P : Nat → σ → Prop) (c₀ : σ)
    (W : Walks prog w A I fp wr n Pv St) (hLf : env.locals ∉ fp) (hwr : ∀ b ∈ wr, h₀.get? b = none) (hfp : ∀ q ∈ Led c₀, q.1 ∉ wr) (hst : St 0 s.heap)
    (F : Fr h₀ env.locals s.heap m₀) (N : News h₀ env.locals s.heap (Led c₀)) (hf : Facts c₀) (hk : ∀ p ∈ ps c₀, m₀ p.1 = some p.2) (hp : P 0 c₀)
    (turn : ∀ (c : σ) (i : Nat) (v : Value) (u : Str → Option Value) h tk own, i < n → Pv i v → Facts c → P i c →
      Fr h₀ env.locals h (fun y => if y = x then some v else kstB (fun z => if stored.contains z then u z else m₀ z) (ps c) y) → News h₀ env.locals h (Led c ++ own) →
      wpAny (model prog w) A (execs body env) (InvPostN h₀ env.locals (KstS Led ps Facts x stored m₀ (fun pre c => P pre.length c) (rangeKs 0 (i + 1))) own ((Led c₀).map (·.1)) { s with heap := h, toks := tk } Q) E { s with heap := h, toks := tk })
    (done : ∀ (c : σ) (u : Str → Option Value) h tk, Facts c → P n c → Fr h₀ env.locals h (fun y => if y = x then u y else kstB (fun z => if stored.contains z then u z else m₀ z) (ps c) y) → News h₀ env.locals h (Led c) → Q .next { s with heap := h, toks := tk }) :
    LoopAtV prog w A h₀ env x body Q E (.ref I) s := by
  let J : Nat → (Str → Option Value) → List (Addr × Obj) → Prop := fun i m nx => nx.map (·.1) = (Led c₀).map (·.1) ∧ KstS Led ps Facts x stored m₀ (fun pre c => P pre.length c) (rangeKs 0 i) m nx
  refine ⟨I, fp, wr, n, Pv, St, m₀, Led c₀, J, rfl, W, hLf, hwr, hfp, hst, F, N, ⟨rfl, c₀, rfl, hf, hk, fun _ _ _ _ => rfl, by simpa [rangeKs] using hp⟩, ?_, ?_⟩
  · rintro i v m₁ news₁ s₁ own ⟨hh', tk', rfl⟩ hin hP ⟨hadr, c, rfl, hf', h1, h2, hp'⟩ hoff _ _ _ _ F₁ N₁
    have N₂ : News h₀ env.locals hh' (Led c ++ own) := fun p hp => N₁ p ((List.mem_append.mp hp).elim (fun h => List.mem_append.mpr (.inr h)) fun h => List.mem_append.mpr (.inl h))
    refine wpAny_mono (turn c i v m₁ hh' tk' own hin hP hf' (by simpa [rangeKs_length] using hp') (kst_fr h1 h2 F₁) N₂) (fun f s₂ p => ?_) fun _ _ e => e
    have fin : InvEndN h₀ env.locals (KstS Led ps Facts x stored m₀ (fun pre c => P pre.length c) (rangeKs 0 (i + 1))) own ((Led c₀).map (·.1)) { s with heap := hh', toks := tk' } s₂ → LoopStepU h₀ env.locals wr own (J (i + 1)) { s with heap := hh', toks := tk' } .next s₂ := by
      rintro ⟨h', tk, m', news', nx, e, F', N', hn, ho, ha, hm⟩
      refine ⟨rfl, h', tk, m', nx, e, F', fun p hp => N' p ((List.mem_append.mp hp).elim (ho p) (hn p)), fun p hp hq => ?_, ha, hm⟩
      have h1 : p.1 ∈ nx.map (·.1) := List.mem_map.mpr ⟨p, hp, rfl⟩
      rw [ha, ← hadr] at h1
      obtain ⟨q, hq1, hq2⟩ := List.mem_map.mp h1
      exact hoff q hq1 (by rw [hq2]; exact hq)
    cases f with
    | ret v => exact .ret p
    | brk => exact .brk p
    | next => exact .next (fin p)
    | cont => exact .cont (fin p)
  · rintro h' tk m' news' F' N' _ ⟨_, c, rfl, hf', h1, h2, hp'⟩
    exact done c m' h' tk hf' (by simpa [rangeKs_length] using hp') (kst_frOut h1 h2 F') N'

theorem tup_loopK {σ : Type} {l : Addr} {its : Array Value} {m₀ : Str → Option Value}
    (Led : σ → List (Addr × Obj)) (ps : σ → List (Str × Value)) (Facts : σ → Prop) (stored : List Str) (P : Nat → σ → Prop) (c₀ : σ)
    (hh : A.handled = none) (hl : s.heap.IsTuple l its) (hlL : l ≠ env.locals)
    (F : Fr h₀ env.locals s.heap m₀) (N : News h₀ env.locals s.heap (Led c₀)) (hf : Facts c₀) (hk : ∀ p ∈ ps c₀, m₀ p.1 = some p.2) (hp : P 0 c₀)
    (turn : ∀ (c : σ) (i : Nat) (v : Value) (u : Str → Option Value) h tk own, i < its.size → its[i]? = some v → Facts c → P i c →
      Fr h₀ env.locals h (fun y => if y = x then some v else kstB (fun z => if stored.contains z then u z else m₀ z) (ps c) y) → News h₀ env.locals h (Led c ++ own) →
      wpAny (model prog w) A (execs body env) (InvPostN h₀ env.locals (KstS Led ps Facts x stored m₀ (fun pre c => P pre.length c) (rangeKs 0 (i + 1))) own ((Led c₀).map (·.1)) { s with heap := h, toks := tk } Q) E { s with heap := h, toks := tk })
    (done : ∀ (c : σ) (u : Str → Option Value) h tk, Facts c → P its.size c → Fr h₀ env.locals h (fun y => if y = x then u y else kstB (fun z => if stored.contains z then u z else m₀ z) (ps c) y) → News h₀ env.locals h (Led c) → Q .next { s with heap := h, toks := tk }) :
    wpAny (model prog w) A (pyIter (.ref l)) (fun it s₂ => LoopAtV prog w A h₀ env x body Q E it s₂) E s := by
  have hlt : l < s.heap.objs.size := by obtain ⟨o, ho, _⟩ := hl; exact Heap.lt_size ho
  have hne : l ≠ s.heap.objs.size := Nat.ne_of_lt hlt
  refine wpAny_pyIter_tuple hl ?_
  refine loop_sK Led ps Facts stored P c₀ (Walks.tuple hh s.heap.objs.size l hne its) ?_ ?_ ?_ ?_ (F.push _) (fun p hp => ⟨Heap.get?_push_of_some _ (N p hp).1, (N p hp).2⟩) hf hk hp turn done
  · intro hm
    rcases List.mem_cons.mp hm with e | hm
    · exact absurd F.ns.lt (e ▸ Nat.lt_irrefl _)
    · exact hlL (List.mem_singleton.mp hm).symm
  · intro b hb
    rw [List.mem_singleton.mp hb]
    exact next_is_new F
  · intro p hp hI
    exact absurd (Heap.lt_size (N p hp).1) (List.mem_singleton.mp hI ▸ Nat.lt_irrefl _)
  · refine ⟨⟨_, Heap.get?_push_size _ rfl, rfl, rfl⟩, ?_⟩
    obtain ⟨o, ho, r⟩ := hl
    exact ⟨o, Heap.get?_push_of_some _ ho, r⟩
end
end Mine
end

section
open PySem PySem.W PyProof.Rows
namespace Mine
open LCg LCt

theorem strs_snoc {y : Str} {t : Tok} : ∀ {vs : List Value} {ys : List Str}, StrsAre vs ys → StrsAre (vs ++ [.str y t]) (ys ++ [y])
  | _, _, .nil => .cons y t .nil
  | _, _, .cons z u r => .cons z u (strs_snoc r)

/-- how the iterator over a text stands -/
def StrIt (I : Addr) (x : Str) (t : Tok) (i : Nat) (h : Heap) : Prop := ∃ ty, h.IsStrIter I ty x t i

section
variable {prog : Program} {w : World} {A : Around} {E : Value → Shared → Prop} {s : Shared} {h₀ : Heap} {L : Addr} {m : Str → Option Value} {news : List (Addr × Obj)}

theorem pyIter_strI {x : Str} {t : Tok} {Q : Value → Shared → Prop} (hh : A.handled = none)
    (hQ : ∀ (o : Obj) (ty : String), Walks prog w A s.heap.objs.size [s.heap.objs.size] [s.heap.objs.size] x.cps.size (SignAt x) (fun i h => h.IsStrIter s.heap.objs.size ty x t i) → (s.heap.push o).IsStrIter s.heap.objs.size ty x t 0 →
      Q (.ref s.heap.objs.size) { s with heap := s.heap.push o }) : wpAny (model prog w) A (pyIter (.str x t)) Q E s := by
  cases ha : x.cps.all (· < 128)
  · exact wpAny_pyIter_wide ha (hQ _ _ (Walks.strWide hh _ x t) ⟨_, Heap.get?_push_size _ rfl, rfl, rfl⟩)
  · exact wpAny_pyIter_ascii ha (hQ _ _ (Walks.strAscii hh _ x t) ⟨_, Heap.get?_push_size _ rfl, rfl, rfl⟩)

/-- the turns of [x for x in a text if test], the test walked in full -/
theorem strRest {env : Env} {ct : Expr} {x : Str} {pe : Pos} {scope : Scope} {cl : List (Str × Addr)} {s₂ : Shared} {text : Str} {Fin : List Value → List (Addr × Obj) → Prop} (p : Nat → Bool)
    (hx : scope.names.lookup x = some .local) (hkind : scope.kind = .function) (hdx : (x == ("__debug__" : Str)) = false)
    (turn : ∀ c u I oI C oC D m₂ ys h tk (E' : Value → Shared → Prop), c ∈ text.cps.toList → NsObj oC m₂ → m₂ x = some (.str (chS c) u) → Fr h₀ L h m → News h₀ L h ((I, oI) :: (C, oC) :: (D, lst ys) :: news) → Off3 I C D news → ((@Ne Nat I C) ∧ (@Ne Nat I D) ∧ (@Ne Nat C D)) →
      wpAny (model prog w) A (isTrue ct (compEnvC scope cl C env) (eval ct (compEnvC scope cl C env))) (fun ok s' => ∃ h' tk', s' = { s₂ with heap := h', toks := tk' } ∧ ok = p c ∧ Fr h₀ L h' m ∧ News h₀ L h' ((I, oI) :: (C, oC) :: (D, lst ys) :: news)) E' { s₂ with heap := h, toks := tk })
    (fin : ∀ ys, StrsAre ys ((text.cps.toList.filter p).map chS) → Fin ys news) :
    CompRestT prog w A h₀ L m env ct (.Name x pe) x scope cl s₂ (fun nw => nw = news) (SignAt text) Fin text.cps.size 0 [] news := by
  have key : ∀ (j i : Nat) (ys : List Value), i + j = text.cps.size → StrsAre ys (((text.cps.toList.take i).filter p).map chS) → CompRestT prog w A h₀ L m env ct (.Name x pe) x scope cl s₂ (fun nw => nw = news) (SignAt text) Fin j i ys news := by
    intro j
    induction j with
    | zero =>
      intro i ys hi hy
      refine CompRestT.zero (fin ys ?_)
      have e : i = text.cps.toList.length := by simp; omega
      rw [e, List.take_length] at hy
      exact hy
    | succ j ih =>
      intro i ys hi hy
      refine CompRestT.succ ?_
      rintro v I oI C oC D m₂ h tk E' ⟨c, u, hc, rfl⟩ hC hm F N off ne
      have hc' : text.cps.toList[i]? = some c := by rw [Array.getElem?_toList]; exact hc
      refine wpAny_mono (turn c u I oI C oC D m₂ ys h tk E' (List.mem_of_getElem? hc') hC hm F N off ne) (fun ok s' hq => ?_) fun _ _ e => e
      obtain ⟨h', tk', rfl, rfl, F', N'⟩ := hq
      cases hp : p c with
      | true =>
        simp only [if_true]
        have hn : h'.Ns C m₂ := hC.ns (N' _ (List.mem_cons_of_mem _ List.mem_cons_self)).1
        refine wpAny_Name (wpAny_loadName_local (by show (relabel scope _).kind = .function; simpa [relabel] using hkind) (lookup_relabel_local hx) hn hm ?_) hdx
        refine ⟨h', tk', news, rfl, F', N', off, rfl, ih (i + 1) _ (by omega) ?_⟩
        rw [List.take_add_one, hc', List.filter_append, List.map_append]
        simpa [hp] using strs_snoc (y := chS c) (t := u) hy
      | false =>
        simp only [Bool.false_eq_true, if_false]
        refine ⟨h', tk', news, rfl, F', N', off, rfl, ih (i + 1) _ (by omega) ?_⟩
        rw [List.take_add_one, hc', List.filter_append, List.map_append]
        simpa [hp] using hy
  exact key text.cps.size 0 [] (by omega) (by simp only [List.take_zero, List.filter_nil, List.map_nil]; exact .nil)

/-- [x for x in a text if test], stored under a name; the test may call -/
theorem strComp_assignT {name : Str} {sc : Scope} {fa : Addr} {cd : Value} {ct : Expr} {x y z : Str} {px pe pz py : Pos} {scope : Scope} {cl : List (Str × Addr)} {pos spos : Pos} {Q : Flow → Shared → Prop} {text : Str} {tt : Tok} (p : Nat → Bool)
    (hh : A.handled = none) (F : Fr h₀ L s.heap m) (N : News h₀ L s.heap news) (hz : m z = some (.str text tt))
    (turn : ∀ s₂ c u I oI C oC D m₂ ys h tk (E' : Value → Shared → Prop), (∃ g, s₂ = { s with heap := g }) → c ∈ text.cps.toList → NsObj oC m₂ → m₂ x = some (.str (chS c) u) → Fr h₀ L h m → News h₀ L h ((I, oI) :: (C, oC) :: (D, lst ys) :: news) → Off3 I C D news → ((@Ne Nat I C) ∧ (@Ne Nat I D) ∧ (@Ne Nat C D)) →
      wpAny (model prog w) A (isTrue ct (compEnvC scope cl C (envOf name sc L fa cd)) (eval ct (compEnvC scope cl C (envOf name sc L fa cd)))) (fun ok s' => ∃ h' tk', s' = { s₂ with heap := h', toks := tk' } ∧ ok = p c ∧ Fr h₀ L h' m ∧ News h₀ L h' ((I, oI) :: (C, oC) :: (D, lst ys) :: news)) E' { s₂ with heap := h, toks := tk })
    (hQ : ∀ D ys h' tk, Fr h₀ L h' (fun q => if q = y then some (.ref D) else m q) → News h₀ L h' ((D, lst ys) :: news) → Off1 D news → StrsAre ys ((text.cps.toList.filter p).map chS) → Q .next { s with heap := h', toks := tk })
    (hsw : swapsWith (.ListComp (.Name x pe) [⟨.Name x px, .Name z pz, [ct], 0⟩] scope pos) (some (.Name y py)) spos.line (envOf name sc L fa cd) = pure true)
    (hclos : closureFor scope (envOf name sc L fa cd) = pure cl) (hcell : ∀ z ∈ scope.names, z.2 ≠ .cell) (hkind : scope.kind = .function)
    (hnames : ∀ z ∈ scope.names, z.2 = .local → scope.names.lookup z.1 = some .local) (hx : scope.names.lookup x = some .local)
    (hy : (envOf name sc L fa cd).kindOf y = some .local) (hk : sc.kind = .function) (hzl : (envOf name sc L fa cd).kindOf z = some .local)
    (hdz : (z == ("__debug__" : Str)) = false) (hdx : (x == ("__debug__" : Str)) = false)
    (hs : ∀ v, foldedSetIterable (.Name z pz) (envOf name sc L fa cd) v = pure v)
    (hsz : text.cps.size ≤ sizeLine) :
    wpAny (model prog w) A (exec (.Assign [.Name y py] (.ListComp (.Name x pe) [⟨.Name x px, .Name z pz, [ct], 0⟩] scope pos) spos) (envOf name sc L fa cd)) Q E s := by
  have hp : ((envOf name sc L fa cd).scope.kind == .class || ((envOf name sc L fa cd).scope.kind == .module && (envOf name sc L fa cd).locals != (envOf name sc L fa cd).globals)) = false := by show (sc.kind == .class || (sc.kind == .module && L != mainGlobals)) = false; rw [hk]; rfl
  rw [exec_Assign_Name_used _ _ _ _ hsw]
  refine wpAny_bind (wpAny_standAt (wpAny_bind ?_))
  show wpAny _ A (do let _ ← comprehension (.ListComp (.Name x pe) [⟨.Name x px, .Name z pz, [ct], 0⟩] scope pos) scope (envOf name sc L fa cd) _ (newList []) false (eval (.Name z pz) (envOf name sc L fa cd)) (some (assign (.Name y py) (envOf name sc L fa cd)))) _ _ s
  refine wpAny_bind (wpAny_mono (wpAny_comprehension_free (use := some (assign (.Name y py) (envOf name sc L fa cd))) (Q := fun _ s' => Q .next s') rfl hs hclos hkind hnames
    (ld F hz ?_ hk hzl hdz)) (fun _ s' hq => wpAny_pure (wpAny_pure hq)) fun _ _ e => e)
  refine pyIter_strI hh fun o ty W hst => ?_
  have up : ∀ b o', s.heap.get? b = some o' → (s.heap.push o).get? b = some o' := fun b o' e => Heap.get?_push_of_some _ e
  refine block_T (S := fun nw => nw = news) (Fin := fun ys nw => nw = news ∧ StrsAre ys ((text.cps.toList.filter p).map chS)) W hsz (fun i h st => by obtain ⟨o, e, _⟩ := st; exact ⟨o, e⟩)
    (fun i h h' o nw st e e' _ _ _ => W.frame i h h' st (fun b hb o' eb => by rw [List.mem_singleton.mp hb] at eb ⊢; rw [e] at eb; cases eb; exact e'))
    hcell hkind hx hst (fun b hb => ?_) (F.keeps up) (N.grown up) (Nat.ne_of_lt F.ns.lt) (next_is_new F) (fun q hq => Nat.ne_of_lt (Heap.lt_size (N q hq).1)) rfl
    (strRest p hx hkind hdx (fun c u I oI C oC D m₂ ys h tk E' hc hC hm F' N' off ne => turn _ c u I oI C oC D m₂ ys h tk E' ⟨_, rfl⟩ hc hC hm F' N' off ne) fun ys hys => ⟨rfl, hys⟩) ?_
  · rw [List.mem_singleton.mp hb]
    show s.heap.objs.size < (s.heap.push o).objs.size
    rw [Heap.size_push]; exact Nat.lt_succ_self _
  · intro D C h' tk m' ys news' F' N' o1 hn hC₀ hD₀ hCL hDL hCD offC fin
    obtain ⟨rfl, hys⟩ := fin
    show wpAny _ A (assign (.Name y py) (envOf name sc L fa cd) (.ref D)) _ _ _
    refine wpAny_assign_Name (wpAny_storeName_local hy F'.ns (fun h₂ hn₂ hs₂ => ?_) hp)
    have hL₀ : h₀.get? L = none := Heap.get?_none_of_le F'.above
    have F₂ : Fr h₀ L h₂ (fun q => if q = y then some (.ref D) else m q) := ⟨hn₂, fun b o e => hs₂.extBut b o (fun q => by have q' : b = L := q; rw [q', hL₀] at e; cases e) (F'.keep b o e), F'.above⟩
    refine ⟨m', hn.sameBut hs₂ hCL, fun h'' hs'' => hQ D ys h'' _ (F₂.change hs'' hCL hC₀) (fun q hq => ?_) o1 hys⟩
    have zz : h₂.get? q.1 = some q.2 := hs₂.extBut _ _ (N' q hq).2.1 (N' q hq).1
    refine ⟨hs''.extBut _ _ ?_ zz, (N' q hq).2⟩
    rcases List.mem_cons.mp hq with rfl | hq
    · exact Ne.symm hCD
    · exact offC q hq
end
end Mine
end

section
open PySem PySem.W PyProof.Rows
namespace Mine
def w8 (c : Nat) : Bool := [32, 9, 10, 13, 11, 12, 28, 31].contains c
def jk (cs : List Nat) : Bool := cs.all (fun c => c == 35 || w8 c) && decide (cs.count 35 < 2)

def JkP (cs : List Nat) (i : Nat) (c : Int × Tok) : Prop := c.1 = ((cs.take i).count 35 : Nat) ∧ ∀ n ∈ cs.take i, n = 35 ∨ w8 n = true

theorem jkP_zero (cs : List Nat) (t : Tok) : JkP cs 0 (0, t) := ⟨by simp, by simp⟩
theorem jkP_hash {cs : List Nat} {i : Nat} {mk : Int} {t t' : Tok} (h : JkP cs i (mk, t)) (hc : cs[i]? = some 35) : JkP cs (i + 1) (mk + 1, t') := by
  obtain ⟨h1, h2⟩ := h
  simp only at h1
  refine ⟨?_, ?_⟩
  · rw [List.take_add_one, hc, List.count_append, h1]; simp
  · intro n hn
    rw [List.take_add_one, hc] at hn
    rcases List.mem_append.mp hn with hn | hn
    · exact h2 n hn
    · simp at hn; exact .inl hn
theorem jkP_white {cs : List Nat} {i c : Nat} {mk : Int} {t t' : Tok} (h : JkP cs i (mk, t)) (hc : cs[i]? = some c) (h35 : c ≠ 35) (hw : w8 c = true) : JkP cs (i + 1) (mk, t') := by
  obtain ⟨h1, h2⟩ := h
  simp only at h1
  refine ⟨?_, ?_⟩
  · rw [List.take_add_one, hc, List.count_append, h1]
    have : ([c].count 35 : Nat) = 0 := by simp [List.count_cons, h35]
    simp [h35]
  · intro n hn
    rw [List.take_add_one, hc] at hn
    rcases List.mem_append.mp hn with hn | hn
    · exact h2 n hn
    · simp at hn; subst hn; exact .inr hw
theorem jk_done {cs : List Nat} {mk : Int} {t : Tok} (h : JkP cs cs.length (mk, t)) : decide (mk < 2) = jk cs := by
  obtain ⟨h1, h2⟩ := h
  rw [List.take_length] at h1 h2
  simp only at h1
  have ha : cs.all (fun c => c == 35 || w8 c) = true := by
    rw [List.all_eq_true]
    intro c hc
    rcases h2 c hc with e | e <;> simp [e]
  unfold jk
  rw [ha, Bool.true_and]
  congr 1
  rw [h1]
  exact propext ⟨fun h => by omega, fun h => by omega⟩
theorem jk_out {cs : List Nat} {i c : Nat} (hc : cs[i]? = some c) (h35 : c ≠ 35) (hw : w8 c = false) : jk cs = false := by
  unfold jk
  have : cs.all (fun c => c == 35 || w8 c) = false := by
    rw [Bool.eq_false_iff]
    intro h
    rw [List.all_eq_true] at h
    have := h c (List.mem_of_getElem? hc)
    simp [h35, hw] at this
  rw [this]; rfl

abbrev l8 : List Str := [Str.ofString " ", Str.ofString "\t", Str.ofString "\n", Str.ofString "\x0d", Str.ofString "\x0b", Str.ofString "\x0c", Str.ofString "\x1c", Str.ofString "\x1f"]
theorem l8_any (c : Nat) : (l8.any fun x => x == chS c) = w8 c := by
  have e : l8 = [chS 32, chS 9, chS 10, chS 13, chS 11, chS 12, chS 28, chS 31] := by decide +kernel
  rw [e]
  have key : ∀ a : Nat, (chS a == chS c) = (a == c) := fun a => by
    rw [Bool.eq_iff_iff]
    simp
  simp only [List.any_cons, List.any_nil, key, w8, List.contains_cons, List.contains_nil]
  simp only [Bool.or_false]
  have sw : ∀ a : Nat, (a == c) = (c == a) := fun a => by rw [Bool.eq_iff_iff]; simp; exact eq_comm
  simp only [sw]

theorem ch_hash (c : Nat) : (chS c == Str.ofString "#") = (c == 35) := by
  rw [show Str.ofString "#" = chS 35 from by decide +kernel, Bool.eq_iff_iff]; simp

theorem strs_at : ∀ {vs : List Value} {cs : List Nat}, StrsAre vs (cs.map chS) → ∀ (i : Nat) (v : Value), vs[i]? = some v → ∃ c t, cs[i]? = some c ∧ v = Value.str (chS c) t
  | [], _, _, i, v, h => by simp at h
  | _ :: _, [], h, _, _, _ => by cases h
  | a :: vs, c :: cs, h, i, v, hv => by
    cases h with
    | cons y t r =>
      cases i with
      | zero => simp only [List.getElem?_cons_zero, Option.some.injEq] at hv ⊢; exact ⟨c, t, rfl, hv.symm⟩
      | succ i => simp only [List.getElem?_cons_succ] at hv ⊢; exact strs_at r i v hv

section
variable {prog : Program} {w : World} {A : Around} {E : Value → Shared → Prop} {s : Shared} {env : Env} {h₀ : Heap} {x : Str} {body : List Stmt} {Q : Flow → Shared → Prop}
theorem str_loopK {σ : Type} {xt : Str} {tx : Tok} {m₀ : Str → Option Value}
    (Led : σ → List (Addr × Obj)) (ps : σ → List (Str × Value)) (Facts : σ → Prop) (stored : List Str) (P : Nat → σ → Prop) (c₀ : σ)
    (hh : A.handled = none)
    (F : Fr h₀ env.locals s.heap m₀) (N : News h₀ env.locals s.heap (Led c₀)) (hf : Facts c₀) (hk : ∀ p ∈ ps c₀, m₀ p.1 = some p.2) (hp : P 0 c₀)
    (turn : ∀ (c : σ) (i : Nat) (v : Value) (u : Str → Option Value) h tk own, i < xt.cps.size → SignAt xt i v → Facts c → P i c →
      Fr h₀ env.locals h (fun y => if y = x then some v else kstB (fun z => if stored.contains z then u z else m₀ z) (ps c) y) → News h₀ env.locals h (Led c ++ own) →
      wpAny (model prog w) A (execs body env) (InvPostN h₀ env.locals (KstS Led ps Facts x stored m₀ (fun pre c => P pre.length c) (rangeKs 0 (i + 1))) own ((Led c₀).map (·.1)) { s with heap := h, toks := tk } Q) E { s with heap := h, toks := tk })
    (done : ∀ (c : σ) (u : Str → Option Value) h tk, Facts c → P xt.cps.size c → Fr h₀ env.locals h (fun y => if y = x then u y else kstB (fun z => if stored.contains z then u z else m₀ z) (ps c) y) → News h₀ env.locals h (Led c) → Q .next { s with heap := h, toks := tk }) :
    wpAny (model prog w) A (pyIter (.str xt tx)) (fun it s₂ => LoopAtV prog w A h₀ env x body Q E it s₂) E s := by
  refine wpAny_pyIter_str fun o St hW hst => ?_
  refine loop_sK Led ps Facts stored P c₀ (hW A hh) ?_ ?_ ?_ hst (F.push _) (fun p hp => ⟨Heap.get?_push_of_some _ (N p hp).1, (N p hp).2⟩) hf hk hp turn done
  · intro hm
    exact absurd F.ns.lt (List.mem_singleton.mp hm ▸ Nat.lt_irrefl _)
  · intro b hb
    rw [List.mem_singleton.mp hb]
    exact next_is_new F
  · intro p hp hI
    exact absurd (Heap.lt_size (N p hp).1) (List.mem_singleton.mp hI ▸ Nat.lt_irrefl _)
end

/-- the eight white signs of law 03, as a text -/
def ws8 : Str := Str.ofString " \t\n\x0d\x0b\x0c\x1c\x1f"
abbrev left8 (x : Str) : List Nat := x.cps.toList.filter (fun c => !Txt.contains ws8 (chS c))
def j8 (x : Str) : Bool := decide (left8 x = []) || decide (left8 x = [35])
structure Text3 (x : Str) : Prop where
  len : x.length ≤ 1000
  ok : ∀ c ∈ x.cps.toList, c < 127
theorem left8_ok {x : Str} (h : Text3 x) : ∀ y ∈ (left8 x).map chS, PyData.strOk y = true := by
  intro y hy
  obtain ⟨c, hc, rfl⟩ := List.mem_map.mp hy
  have := h.ok c (List.mem_filter.mp hc).1
  show (#[c] : Array Nat).all (· < 0x110000) = true
  have hlt : c < 0x110000 := by omega
  simp [hlt]
theorem left8_cases (x : Str) : ((left8 x).map chS = [] ∧ j8 x = true) ∨ ((left8 x).map chS ≠ [] ∧ (left8 x).map chS = [Str.ofString "#"] ∧ j8 x = true) ∨ ((left8 x).map chS ≠ [] ∧ (left8 x).map chS ≠ [Str.ofString "#"] ∧ j8 x = false) := by
  unfold j8
  by_cases h1 : left8 x = []
  · left; rw [h1]; exact ⟨rfl, rfl⟩
  · right
    have h1' : (left8 x).map chS ≠ [] := fun e => h1 (by simpa using e)
    by_cases h2 : left8 x = [35]
    · left; exact ⟨h1', by rw [h2]; exact hash_eq.symm, by rw [decide_eq_false h1, decide_eq_true h2]; rfl⟩
    · right; exact ⟨h1', fun e => h2 (by rw [hash_eq] at e; exact chS_inj e), by rw [decide_eq_false h1, decide_eq_false h2]; rfl⟩
section
variable {prog : Program} {w : World} {A : Around} {E : Value → Shared → Prop} {s : Shared} {a b : Addr} {xs ys : List Value} {ns ms : List Str} {Q : Value → Shared → Prop}
theorem ne_strs_f (e : ns = ms) (ha : s.heap.IsList a xs.toArray) (hb : s.heap.IsList b ys.toArray) (hi : StrsAre xs ns) (hj : StrsAre ys ms) (h1 : ∀ x ∈ ns, PyData.strOk x = true) (h2 : ∀ x ∈ ms, PyData.strOk x = true) (hu : A.units + 64 < cLine) (h : Q (.bool false) s) :
    wpAny (model prog w) A (compareOp .NotEq (.ref a) (.ref b)) Q E s := ne_strs ha hb hi hj h1 h2 hu (by rw [decide_eq_true e]; exact h)
theorem ne_strs_t (e : ns ≠ ms) (ha : s.heap.IsList a xs.toArray) (hb : s.heap.IsList b ys.toArray) (hi : StrsAre xs ns) (hj : StrsAre ys ms) (h1 : ∀ x ∈ ns, PyData.strOk x = true) (h2 : ∀ x ∈ ms, PyData.strOk x = true) (hu : A.units + 64 < cLine) (h : Q (.bool true) s) :
    wpAny (model prog w) A (compareOp .NotEq (.ref a) (.ref b)) Q E s := ne_strs ha hb hi hj h1 h2 hu (by rw [decide_eq_false e]; exact h)
end
end Mine
end

section
open PySem PySem.W PyProof.Rows PySem.Calls PySem.Spec Builtin
set_option maxRecDepth 100000
namespace Mine
/-- a list's iterator that has come to its end -/
def IterEnd (h : Heap) (a : Addr) : Prop := ∃ o i, h.get? a = some o ∧ o.cls = .type "list_iterator" ∧ o.data = .fields #[.none, .int i 0]
theorem IterEnd.typeIs {s : Shared} {a : Addr} (x : IterEnd s.heap a) : s.TypeIs (.ref a) "list_iterator" := let ⟨o, _, ho, hc, _⟩ := x; ⟨o, ho, hc⟩
theorem IterEnd.keeps {h h' : Heap} {a : Addr} (x : IterEnd h a) (e : ∀ o, h.get? a = some o → h'.get? a = some o) : IterEnd h' a := let ⟨o, i, ho, r⟩ := x; ⟨o, i, e o ho, r⟩
section
variable {prog : Program} {w : World} {A : Around} {E : Value → Shared → Prop} {s : Shared}
theorem next_end {it l : Addr} {i : Nat} {items : Array Value} {Q : Option Value → Shared → Prop} (hh : A.handled = none)
    (hit : s.heap.IsListIter it l i) (hl : s.heap.IsList l items) (hx : items[i]? = none)
    (hQ : ∀ h', Heap.ExtBut it s.heap h' → IterEnd h' it → Q none { s with heap := h' }) : wpAny (model prog w) A (pyNext (.ref it)) Q E s := by
  obtain ⟨o, ho, hc, hd⟩ := id hit
  obtain ⟨ol, hol, _, nl, hdl⟩ := hl
  unfold pyNext
  refine wpAny_bind (wpAny_attempt (wpAny_callSpecial?_slot (name := Str.ofString "__next__") hit.typeIs slot_listiter_next
    (wpAny_call_entry slot_listiter_next hit.typeIs entry_listiter_next ?_ (args_listiter_next _))))
  show wpAny _ _ (field (.ref it) 0 >>= _) _ _ s
  refine wpAny_bind (wpAny_field ho hd (x := .ref l) rfl ?_)
  show wpAny _ _ (if (Value.ref l == Value.none) = true then _ else _) _ _ s
  rw [if_neg (show ¬ ((Value.ref l == Value.none) = true) from Bool.false_ne_true)]
  show wpAny _ _ (field (.ref it) 1 >>= _) _ _ s
  refine wpAny_bind (wpAny_field ho hd (x := .int i 0) rfl ?_)
  show wpAny _ _ (seqItems? (.ref l) >>= _) _ _ s
  refine wpAny_bind (wpAny_seqItems hol hdl ?_)
  simp only [Int.toNat_natCast, hx]
  refine wpAny_bind (wpAny_rule (wpAny_bind (wpAny_setField ho hd (by simp) ?_)))
  show wpAny _ _ (newExc (.type "StopIteration") [] >>= _) _ _ _
  refine wpAny_bind ?_
  simp only [newExc, newTuple]
  refine wpAny_bind (wpAny_newObj_type ?_ (by size_fits))
  refine wpAny_bind (m := firstArgMember _ _) (wpAny_of_eq (a := Value.none) (by first | rfl | (simp only [firstArgMember]; rfl)) ?_)
  refine wpAny_newObj_type ?_ (by size_fits)
  simp only [raiseNew]
  refine wpAny_bind (wpAny_handled ?_)
  rw [show A.in1.handled = none from hh]
  refine wpAny_bind (wpAny_pure (wpAny_throw ?_))
  refine wpAny_bind (wpAny_isInstance (T := "StopIteration") (b := true) ⟨_, Heap.get?_push_size _ rfl, rfl⟩ isSubtype_stop ?_)
  refine wpAny_pure (hQ _ (((Heap.SameBut.update ..).extBut.push _).push _) ⟨_, i, Heap.get?_push_of_some _ (Heap.get?_push_of_some _ (Heap.get?_update_self _ ho (Obj.isFreed_of_fields (Obj.data_mapFields hd _)))), (Obj.cls_mapFields ..).trans hc, ?_⟩)
  rw [Obj.data_mapFields hd]; simp
theorem next_ended {it : Addr} {Q : Option Value → Shared → Prop} (hh : A.handled = none) (hit : IterEnd s.heap it)
    (hQ : ∀ h', (∀ b o, s.heap.get? b = some o → h'.get? b = some o) → Q none { s with heap := h' }) : wpAny (model prog w) A (pyNext (.ref it)) Q E s := by
  obtain ⟨o, i, ho, hc, hd⟩ := id hit
  unfold pyNext
  refine wpAny_bind (wpAny_attempt (wpAny_callSpecial?_slot (name := Str.ofString "__next__") hit.typeIs slot_listiter_next
    (wpAny_call_entry slot_listiter_next hit.typeIs entry_listiter_next ?_ (args_listiter_next _))))
  show wpAny _ _ (field (.ref it) 0 >>= _) _ _ s
  refine wpAny_bind (wpAny_field ho hd (x := .none) rfl ?_)
  show wpAny _ _ (if (Value.none == Value.none) = true then _ else _) _ _ s
  rw [if_pos (by decide)]
  refine wpAny_bind (wpAny_rule ?_)
  refine wpAny_bind ?_
  show wpAny _ _ (newExc (.type "StopIteration") [] >>= _) _ _ _
  refine wpAny_bind ?_
  simp only [newExc, newTuple]
  refine wpAny_bind (wpAny_newObj_type ?_ (by size_fits))
  refine wpAny_bind (m := firstArgMember _ _) (wpAny_of_eq (a := Value.none) (by first | rfl | (simp only [firstArgMember]; rfl)) ?_)
  refine wpAny_newObj_type ?_ (by size_fits)
  simp only [raiseNew]
  refine wpAny_bind (wpAny_handled ?_)
  rw [show A.in1.handled = none from hh]
  refine wpAny_bind (wpAny_pure (wpAny_throw ?_))
  refine wpAny_bind (wpAny_isInstance (T := "StopIteration") (b := true) ⟨_, Heap.get?_push_size _ rfl, rfl⟩ isSubtype_stop ?_)
  exact wpAny_pure (hQ _ fun b o e => Heap.get?_push_of_some _ (Heap.get?_push_of_some _ e))
theorem iterEnd_self {it : Addr} {Q : Value → Shared → Prop} (hit : IterEnd s.heap it) (h : Q (.ref it) s) : wpAny (model prog w) A (pyIter (.ref it)) Q E s := by
  refine wpAny_pyIter_slot hit.typeIs slot_listiter_iter (wpAny_call_entry slot_listiter_iter hit.typeIs entry_listiter_iter ?_ (args_listiter_iter _))
  show wpAny _ _ (ret (.ref it)) _ _ s
  exact wpAny_pure ⟨_, rfl, "list_iterator", _, hit.typeIs, slot_listiter_next.lookup, h⟩

/-- where a text stands first in a row, from place i on -/
def placeFrom (y : Str) (ss : List Str) (i : Nat) : Nat := i + (ss.drop i).findIdx (· == y)

theorem entry_contains_iter : entryFor table "proto.contains_iter" = some Builtin.«proto.contains_iter» := entryFor_of_fast (by kernel_rfl)
theorem plain_contains_iter : plainId "proto.contains_iter" = true := by decide +kernel
theorem listiter_nocontains : typeLookup (.type "list_iterator") "__contains__" = pure none := by rw [typeLookup_type, builtinLookup_eq_fast]; kernel_rfl

theorem search_iter {it l : Addr} {vs : List Value} {ss : List Str} {y : Str} {u : Tok} {R : Result → Shared → Prop} (hh : A.handled = none) (hne : l ≠ it) (hi : StrsAre vs ss) :
    ∀ (k i : Nat) (s : Shared), ss.length - i = k → i ≤ ss.length → s.heap.IsListIter it l i → s.heap.IsList l vs.toArray →
    (∀ h', Heap.ExtBut it s.heap h' → (placeFrom y ss i < ss.length → h'.IsListIter it l (placeFrom y ss i + 1)) → (placeFrom y ss i = ss.length → IterEnd h' it) → R (.ok (.ret (.bool (decide (placeFrom y ss i < ss.length))))) { s with heap := h' }) →
    codeAny (model prog w) A (.builtin "proto.contains_iter" ⟨[.ref it, .str y u], []⟩) R s := by
  intro k
  induction k with
  | zero =>
    intro i s hk hle hit hl h
    have hin : i = ss.length := by omega
    subst hin
    have hp : placeFrom y ss ss.length = ss.length := by simp [placeFrom]
    rw [hp] at h
    refine codeAny_builtin entry_contains_iter ?_
    rw [Around.under_plainId plain_contains_iter]
    show wpAny _ _ (pyNext (.ref it) >>= _) _ _ s
    refine wpAny_bind (next_end (by exact hh) hit hl (by simp [← hi.length]) fun h' hx he => ?_)
    refine wpAny_bind (wpAny_rule (wpAny_pure ?_))
    have := h h' hx (fun q => absurd q (Nat.lt_irrefl _)) (fun _ => he)
    simpa using this
  | succ k ih =>
    intro i s hk hle hit hl h
    have hlt : i < ss.length := by omega
    obtain ⟨v, hv⟩ : ∃ v, vs[i]? = some v := ⟨vs[i]'(by rw [hi.length]; exact hlt), List.getElem?_eq_getElem _⟩
    obtain ⟨x, t, hx, rfl⟩ : ∃ x t, ss[i]? = some x ∧ v = Value.str x t := by
      clear h hit hl ih
      induction hi generalizing i with
      | nil => simp at hv
      | cons z t r ih2 =>
        cases i with
        | zero => simp only [List.getElem?_cons_zero, Option.some.injEq] at hv ⊢; exact ⟨z, t, rfl, hv.symm⟩
        | succ i => simp only [List.getElem?_cons_succ] at hv ⊢; exact ih2 i (by simp at hk; omega) (by simp at hle; omega) (by simp at hlt; omega) hv
    have hdrop : ss.drop i = x :: ss.drop (i + 1) := by
      obtain ⟨hi2, e⟩ := List.getElem?_eq_some_iff.mp hx
      rw [List.drop_eq_getElem_cons hi2, e]
    refine codeAny_builtin entry_contains_iter ?_
    rw [Around.under_plainId plain_contains_iter]
    show wpAny _ _ (pyNext (.ref it) >>= _) _ _ s
    refine wpAny_bind (wpAny_pyNext_list_item hit hl (by simpa using hv) fun h' hit' hsb => ?_)
    refine wpAny_bind (eqBool_str ?_)
    by_cases hxy : x = y
    · subst hxy
      have hp : placeFrom x ss i = i := by simp [placeFrom, hdrop, List.findIdx_cons]
      rw [hp] at h
      rw [if_pos (by simp)]
      refine wpAny_bind (wpAny_rule (wpAny_pure ?_))
      have := h h' hsb.extBut (fun _ => hit') (fun q => absurd q (Nat.ne_of_lt hlt))
      simpa [hlt] using this
    · have hp : placeFrom y ss i = placeFrom y ss (i + 1) := by
        unfold placeFrom
        have hb : (x == y) = false := by rw [beq_eq_false_iff_ne]; exact hxy
        rw [hdrop, List.findIdx_cons, hb]
        simp only [cond_false]
        omega
      rw [hp] at h
      rw [if_neg (by simp [hxy])]
      refine wpAny_pure ⟨plainId_quiet plain_contains_iter _, ih (i + 1) _ (by omega) (by omega) hit' (hl.extBut hsb.extBut hne) fun h'' hx'' a b => ?_⟩
      exact h h'' (fun b o hb e => hx'' b o hb (hsb.extBut b o hb e)) a b

theorem in_iter {it l : Addr} {vs : List Value} {ss : List Str} {y : Str} {u : Tok} {Q : Value → Shared → Prop} (hh : A.handled = none) (hne : l ≠ it) (hi : StrsAre vs ss) (hit : s.heap.IsListIter it l 0) (hl : s.heap.IsList l vs.toArray)
    (h : ∀ h', Heap.ExtBut it s.heap h' → (ss.findIdx (· == y) < ss.length → h'.IsListIter it l (ss.findIdx (· == y) + 1)) → (ss.findIdx (· == y) = ss.length → IterEnd h' it) → Q (.bool (decide (ss.findIdx (· == y) < ss.length))) { s with heap := h' }) :
    wpAny (model prog w) A (compareOp .In (.str y u) (.ref it)) Q E s := by
  have hp : placeFrom y ss 0 = ss.findIdx (· == y) := by simp [placeFrom]
  show wpAny _ _ (do return .bool (← contains (.ref it) (.str y u))) Q E s
  refine wpAny_bind ?_
  unfold contains
  refine wpAny_holding ?_
  dsimp only [stdlibNamesSay?]
  refine wpAny_bind (wpAny_specialOf hit.typeIs listiter_nocontains ?_)
  rw [if_neg (by decide)]
  unfold callSpecialUnlessNone?
  refine wpAny_bind (wpAny_bind (wpAny_specialOf hit.typeIs listiter_nocontains (wpAny_pure ?_)))
  dsimp only
  refine wpAny_bind (wpAny_rule (wpAny_bind ?_))
  refine wpAny_tryCatch ?_
  refine wpAny_pyIter_listiter hit ?_
  refine wpAny_bind (wpAny_runValue (search_iter hh hne hi ss.length 0 _ (by omega) (Nat.zero_le _) hit hl fun h' hx a b => ?_))
  rw [hp] at a b
  dsimp only
  rw [hp]
  exact wpAny_pure (wpAny_pure (h h' hx a b))
end
end Mine
end

section
open PySem PySem.W PyProof.Rows PySem.Calls PySem.Spec Builtin
set_option maxRecDepth 100000
set_option linter.unusedVariables false
namespace Mine
section
variable {prog : Program} {w : World} {A : Around} {E : Value → Shared → Prop} {s : Shared} {I : Addr} {fp wr : List Addr} {n : Nat} {P : Nat → Value → Prop} {St : Nat → Heap → Prop}
theorem extend_iter {R : Result → Shared → Prop} (W : Walks prog w A.in1 I fp wr n P St) (hT : ∀ i h, St i h → ∃ o, h.get? I = some o ∧ o.cls = .type "list_iterator") (hst : St 0 s.heap) (hI : I ∈ fp) (S : Addr) (hSf : S ∉ fp) (res : Value) (c₀ : Nat) (hS : s.heap.get? S = some { cls := .type "list", data := .seq #[] c₀ })
    (hR : ∀ h' tk acc' c', (∀ b o, b ≠ S → b ∉ wr → s.heap.get? b = some o → h'.get? b = some o) → h'.get? S = some { cls := .type "list", dict := none, data := .seq acc' c', slots := #[] } →
      ItemsOf P acc' n → R (.ok (.ret res)) { s with heap := h', toks := tk }) (hn : n ≤ sizeLine) :
    wpAny (model prog w) A.in1 (Builtin.List.listExtendWith (.ref S) (.ref I) res)
      (fun fin s' => match fin with | .done f => R (.ok f) s' | .again c' => c'.quiet = true ∧ codeAny (model prog w) A c' R s') (fun e s' => R (.error e) s') s := by
  have hSI : S ≠ I := fun e => hSf (e ▸ hI)
  have h1 : Builtin.List.listSameRef (.ref S) (.ref I) = false := by simp [Builtin.List.listSameRef, hSI]
  unfold Builtin.List.listExtendWith
  refine wpAny_bind (wpAny_typeOf (T := "list_iterator") (hT 0 _ hst) ?_)
  rw [if_neg (by rw [h1]; decide)]
  refine wpAny_bind (W.self 0 _ _ _ hst ?_)
  refine wpAny_bind (wpAny_holding ?_)
  unfold Builtin.List.listLengthHint
  refine wpAny_bind (wpAny_specialOf (T := "list_iterator") (hT 0 _ hst) PySem.F.nolen_li ?_)
  show wpAny _ A.in1 (specialOf (Value.ref I) (Str.ofString "__length_hint__") >>= _) _ _ _
  refine wpAny_bind (wpAny_specialOf (T := "list_iterator") (hT 0 _ hst) PySem.F.hint_li ?_)
  generalize hid : ("list_iterator.__length_hint__" : String) = id0
  wp_delta
  rw [show splitId id0 = some ("list_iterator", "__length_hint__") from by subst hid; decide +kernel]
  subst hid
  refine wpAny_bind (wpAny_isInstance (T := "list_iterator") (b := true) (hT 0 _ hst) (by rw [isSubtype_type]; kernel_rfl) ?_)
  refine wpAny_pure ?_
  rw [if_neg (by decide)]
  refine wpAny_pure ⟨plainId_quiet PySem.F.plain_extend_loop _, codeAny_extend_loopS W.toS hn _ hSf _ n 0 _ _ _ rfl (Nat.zero_le _) hst hS (ItemsOf.nil P) fun s' acc' c' hm hS' hacc => ?_⟩
  rw [Moved.eq_with hm]
  exact hR s'.heap s'.toks acc' c' (fun b o hb hw e => hm.heap b o (fun hmem => (List.mem_cons.mp hmem).elim hb hw) e) hS' hacc
theorem list_init_iter {R : Result → Shared → Prop} (W : Walks prog w A.in1 I fp wr n P St) (hT : ∀ i h, St i h → ∃ o, h.get? I = some o ∧ o.cls = .type "list_iterator") (hst : St 0 s.heap) (hI : I ∈ fp) (S : Addr) (hSf : S ∉ fp) (hS : s.heap.get? S = some { cls := .type "list", data := .seq #[] })
    (hR : ∀ h' tk acc' c', (∀ b o, b ≠ S → b ∉ wr → s.heap.get? b = some o → h'.get? b = some o) → h'.get? S = some { cls := .type "list", dict := none, data := .seq acc' c', slots := #[] } →
      ItemsOf P acc' n → R (.ok (.ret .none)) { s with heap := h', toks := tk }) (hn : n ≤ sizeLine) :
    wpAny (model prog w) A.in1 (Builtin.«list.__init__» ⟨[.ref S, .ref I], []⟩)
      (fun fin s' => match fin with | .done f => R (.ok f) s' | .again c' => c'.quiet = true ∧ codeAny (model prog w) A c' R s') (fun e s' => R (.error e) s') s := by
  show wpAny _ _ (do let old ← Builtin.List.listItems (.ref S); Builtin.List.listUpdate (.ref S) (fun _ => #[]); letGo old.toList.reverse; Builtin.List.listExtendWith (.ref S) (.ref I) .none) _ _ s
  refine wpAny_bind ?_
  unfold Builtin.List.listItems
  refine wpAny_bind (wpAny_seqItems hS rfl (wpAny_pure ?_))
  show wpAny _ _ (updateSeq S (fun _ => #[]) >>= fun _ => letGo (#[] : Array Value).toList.reverse >>= fun _ => Builtin.List.listExtendWith (.ref S) (.ref I) .none) _ _ s
  refine wpAny_bind (wpAny_updateSeq hS rfl ?_)
  have hS₂ := Heap.get?_update_self (Obj.mapSeq (fun _ => (#[] : Array Value))) hS rfl
  have oth : ∀ b o, b ≠ S → s.heap.get? b = some o → (s.heap.update S (Obj.mapSeq (fun _ => (#[] : Array Value)))).get? b = some o :=
    fun b o hb e => (Heap.get?_update_other _ _ (Ne.symm hb)).trans e
  refine wpAny_bind (wpAny_letGo ?_)
  refine extend_iter W hT (W.frame 0 _ _ hst fun b hb o e => oth b o (fun q => hSf (q ▸ hb)) e) hI S hSf .none _ hS₂ (fun h' tk acc' c' hk hS' hacc => ?_) hn
  exact hR h' tk acc' c' (fun b o hb hw e => hk b o hb hw (oth b o hb e)) hS' hacc
theorem list_iter {Q : Value → Shared → Prop} (W : Walks prog w A.in1.in1 I fp wr n P St) (hT : ∀ i h, St i h → ∃ o, h.get? I = some o ∧ o.cls = .type "list_iterator") (hst : St 0 s.heap) (hI : I ∈ fp) (hfp : ∀ b ∈ fp, b < s.heap.objs.size) (hn : n ≤ sizeLine)
    (hQ : ∀ h' tk acc' c', (∀ b o, b ∉ wr → s.heap.get? b = some o → h'.get? b = some o) →
      h'.get? s.heap.objs.size = some { cls := .type "list", dict := none, data := .seq acc' c', slots := #[] } → ItemsOf P acc' n → Q (.ref s.heap.objs.size) { s with heap := h', toks := tk }) :
    wpAny (model prog w) A (call (.type "list") [.ref I]) Q E s := by
  have hSf : s.heap.objs.size ∉ fp := fun hm => Nat.lt_irrefl _ (hfp _ hm)
  refine callType_codes (Q₁ := fun obj s₁ => obj = .ref s.heap.objs.size ∧ s₁ = { s with heap := s.heap.push { cls := .type "list", data := .seq #[] } }) PySem.F.called_list (PySem.F.typeCall_list_1 _) PySem.F.entry_list_init
    (code_list_new _ ⟨rfl, rfl⟩) fun obj s₁ h₁ => ?_
  obtain ⟨rfl, rfl⟩ := h₁
  have hS : (s.heap.push { cls := .type "list", data := .seq #[] }).get? s.heap.objs.size = some { cls := .type "list", data := .seq #[] } := Heap.get?_push_size _ rfl
  refine ⟨⟨_, hS, rfl⟩, PySem.F.args_list_init_2 _ _, list_init_iter (A := A.in1) W hT (W.frame 0 _ _ hst fun b hb o e => Heap.get?_push_of_some _ e) hI _ hSf hS (fun h' tk acc' c' hk hS' hacc => ?_) hn⟩
  exact ⟨rfl, hQ h' tk acc' c' (fun b o hw e => hk b o (Nat.ne_of_lt (Heap.lt_size e)) hw (Heap.get?_push_of_some _ e)) hS' hacc⟩

/-- a list's iterator from a place on -/
theorem walks_from (hh : A.handled = none) (I l : Addr) (hne : l ≠ I) (its : Array Value) (k : Nat) (hk : k ≤ its.size) : Walks prog w A I [I, l] [I] (its.size - k) (fun j v => its[k + j]? = some v) (fun j h => h.IsListIter I l (k + j) ∧ h.IsList l its) where
  sub := fun b hb => by rw [List.mem_singleton.mp hb]; exact List.mem_cons_self
  frame := by
    rintro i h h' ⟨⟨o, ho, r⟩, ⟨ol, hol, rl⟩⟩ hk
    exact ⟨⟨o, hk _ List.mem_cons_self _ ho, r⟩, ⟨ol, hk _ (List.mem_cons_of_mem _ List.mem_cons_self) _ hol, rl⟩⟩
  item := by
    rintro i s Q E hi ⟨hit, hl⟩ hQ
    have hv : its[k + i]? = some (its[k + i]'(by omega)) := Array.getElem?_eq_getElem _
    refine wpAny_pyNext_list_item hit hl hv fun h' hit' hsb => ?_
    exact hQ _ h' s.toks hv ⟨hit', hl.extBut hsb.extBut hne⟩ fun b o hb e => hsb.extBut b o (fun q => hb (List.mem_singleton.mpr q)) e
  done := by
    rintro s Q E ⟨hit, hl⟩ hQ
    refine wpAny_pyNext_list_end hh hit hl (by rw [show k + (its.size - k) = its.size by omega]; simp) fun h' he => ?_
    exact hQ h' s.toks fun b o hb e => he b o (fun q => hb (List.mem_singleton.mpr q)) e
  self := fun i s Q E st hQ => wpAny_pyIter_listiter st.1 hQ
theorem walks_end (hh : A.handled = none) (I : Addr) : Walks prog w A I [I] [I] 0 (fun _ _ => True) (fun _ h => IterEnd h I) where
  sub := fun b hb => hb
  frame := fun i h h' st hk => st.keeps fun o e => hk I List.mem_cons_self o e
  item := fun i s Q E hi => absurd hi (Nat.not_lt_zero _)
  done := fun s Q E st hQ => next_ended hh st fun h' hk => hQ h' s.toks fun b o _ e => hk b o e
  self := fun i s Q E st hQ => iterEnd_self st hQ
end
section
variable {prog : Program} {w : World} {A : Around} {E : Value → Shared → Prop} {s : Shared} {h₀ : Heap} {L : Addr} {m : Str → Option Value} {news : List (Addr × Obj)} {Q : Value → Shared → Prop}
theorem items_drop {its : Array Value} {k : Nat} {acc : Array Value} (hk : k ≤ its.size) (h : ItemsOf (fun j v => its[k + j]? = some v) acc (its.size - k)) : acc = (its.toList.drop k).toArray := by
  apply Array.ext'
  apply List.ext_getElem?
  intro i
  simp only [List.getElem?_drop, Array.getElem?_toList]
  by_cases hi : i < its.size - k
  · have hlt : i < acc.size := by rw [h.1]; exact hi
    have := h.2 i (acc[i]) (Array.getElem?_eq_getElem hlt)
    rw [this, Array.getElem?_eq_getElem hlt]
  · have h1 : acc.size ≤ i := by rw [h.1]; omega
    rw [Array.getElem?_eq_none h1, Array.getElem?_eq_none (by omega)]
/-- what a list's iterator still has, made a list -/
theorem listIter_K {I l : Addr} {oI : Obj} {vs : List Value} {k : Nat} (hh : A.handled = none) (F : Fr h₀ L s.heap m) (N : News h₀ L s.heap ((I, oI) :: news)) (hnI : ∀ q ∈ news, q.1 ≠ I) (hl : s.heap.IsList l vs.toArray) (hne : l ≠ I) (hsz : vs.length ≤ sizeLine)
    (hst : (k < vs.length → s.heap.IsListIter I l (k + 1)) ∧ (k = vs.length → IterEnd s.heap I)) (hk : k ≤ vs.length)
    (h : ∀ T c h' tk, Fr h₀ L h' m → News h₀ L h' ((T, W.listOf (vs.drop (k + 1)).toArray c) :: news) → (∀ q ∈ news, q.1 < T) → Q (.ref T) { s with heap := h', toks := tk }) :
    wpAny (model prog w) A (call (.type "list") [.ref I]) Q E s := by
  have hI := N (I, oI) List.mem_cons_self
  have fin : ∀ h' tk (acc' : Array Value) c', (∀ b o, b ∉ [I] → s.heap.get? b = some o → h'.get? b = some o) → h'.get? s.heap.objs.size = some { cls := .type "list", dict := none, data := .seq acc' c', slots := #[] } → acc' = (vs.drop (k + 1)).toArray → Q (.ref s.heap.objs.size) { s with heap := h', toks := tk } := by
    rintro h' tk acc' c' hkp hT rfl
    have hkp' : ∀ b o, b ≠ I → s.heap.get? b = some o → h'.get? b = some o := fun b o hb e => hkp b o (fun q => hb (List.mem_singleton.mp q)) e
    have F' : Fr h₀ L h' m := ⟨F.ns.at' fun o e => hkp' L o (Ne.symm hI.2.1) e, fun b o e => hkp' b o (fun q => by rw [q, hI.2.2] at e; cases e) (F.keep b o e), F.above⟩
    refine h _ c' h' tk F' (fun q hq => ?_) (fun q hq => Heap.lt_size (N q (List.mem_cons_of_mem _ hq)).1)
    rcases List.mem_cons.mp hq with rfl | hq
    · exact ⟨hT, Nat.ne_of_gt F.ns.lt, next_is_new F⟩
    · have n := N q (List.mem_cons_of_mem _ hq)
      exact ⟨hkp' _ _ (hnI q hq) n.1, n.2⟩
  rcases Nat.lt_or_eq_of_le hk with hlt | heq
  · have hit := hst.1 hlt
    refine list_iter (walks_from (prog := prog) (w := w) (A := A.in1.in1) hh I l hne vs.toArray (k + 1) (by simp; omega)) (fun i h st => by obtain ⟨⟨o, ho, hc, _⟩, _⟩ := st; exact ⟨o, ho, hc⟩) ⟨hit, hl⟩ List.mem_cons_self ?_ (by simp; omega) fun h' tk acc' c' hkp hT hacc => fin h' tk acc' c' hkp hT ?_
    · intro b hb
      rcases List.mem_cons.mp hb with rfl | hb
      · exact Heap.lt_size hI.1
      · rw [List.mem_singleton.mp hb]; obtain ⟨o, ho, _⟩ := hl; exact Heap.lt_size ho
    · have := items_drop (its := vs.toArray) (by simp; omega) hacc
      simpa using this
  · have hit := hst.2 heq
    refine list_iter (walks_end (prog := prog) (w := w) (A := A.in1.in1) hh I) (fun i h st => by obtain ⟨o, _, ho, hc, _⟩ := st; exact ⟨o, ho, hc⟩) hit List.mem_cons_self ?_ (Nat.zero_le _) fun h' tk acc' c' hkp hT hacc => fin h' tk acc' c' hkp hT ?_
    · intro b hb; rw [List.mem_singleton.mp hb]; exact Heap.lt_size hI.1
    · have : acc'.size = 0 := hacc.1
      rw [Array.eq_empty_of_size_eq_zero this, heq]
      simp
end
end Mine
end

section
open PySem PySem.W PyProof.Rows Mine PySem.Calls PySem.Spec
set_option maxRecDepth 100000
set_option maxHeartbeats 8000000
namespace Mine
/-- a contract that changes nothing -/
abbrev Ctr1 (w : World) (mean : ExcName → Option Value) (mg mb : Str → Option Value) (f : Addr) (news : List (Addr × Obj)) (vs : List Value) (R : Tok → Value) : Prop :=
  ∀ (p : Program) (loose : List Str) (dp un : Nat) (gd : Option (List Code)) (cn : Str) (cs : Scope) (a : Addr) (ccd : Value) (cl : List (Str × Addr)) (outer : List Env) (A₀ : Around) (base h₀ : Heap) (L : Addr) (m : Str → Option Value) (s : Shared) (Q E : Value → Shared → Prop),
    Below A₀ base outer h₀ → Fr h₀ L s.heap m → (hd.heap_39 w.params).In h₀ → News h₀ L s.heap news → Top p loose mean mg mb h₀ → cs.kind = .function →
    dp + 9 < recursionLimit → un + 99 < cLine → CbRet h₀ L m news s Q R →
      wpAny (model PySem.Challenge.rw_dm0047_01.row.prog w) (ktrTop dp un gd cn cs L a ccd cl outer) (call (.ref f) vs) Q E s
def PlP {α : Type} (q : α → Bool) (ss : List α) (c : Nat × Tok) : Prop := c.1 ≤ ss.length ∧ ∀ x ∈ ss.take c.1, q x = false
theorem plP_zero {α : Type} (q : α → Bool) (ss : List α) (t : Tok) : PlP q ss (0, t) := ⟨Nat.zero_le _, by simp⟩
theorem plP_succ {α : Type} {q : α → Bool} {ss : List α} {i : Nat} {t t' : Tok} {x : α} (h : PlP q ss (i, t)) (hx : ss[i]? = some x) (hq : q x = false) : PlP q ss (i + 1, t') := by
  obtain ⟨h1, h2⟩ := h
  obtain ⟨hi, e⟩ := List.getElem?_eq_some_iff.mp hx
  refine ⟨hi, fun z hz => ?_⟩
  rw [List.take_add_one, hx] at hz
  rcases List.mem_append.mp hz with hz | hz
  · exact h2 z hz
  · simp at hz; rw [hz]; exact hq
theorem findIdx_take {α : Type} (q : α → Bool) : ∀ (ss : List α) (i : Nat), (∀ x ∈ ss.take i, q x = false) → i ≤ ss.length → ss.findIdx q = i + (ss.drop i).findIdx q
  | ss, 0, _, _ => by simp
  | [], i + 1, _, h => by simp at h
  | a :: r, i + 1, h, hl => by
    have ha : q a = false := h a (by simp)
    rw [List.findIdx_cons, ha, cond_false, List.drop_succ_cons, findIdx_take q r i (fun x hx => h x (by simp [hx])) (by simpa using hl)]
    omega
theorem plP_here {α : Type} {q : α → Bool} {ss : List α} {i : Nat} {t : Tok} {x : α} (h : PlP q ss (i, t)) (hx : ss[i]? = some x) (hq : q x = true) : i = ss.findIdx q := by
  obtain ⟨h1, h2⟩ := h
  obtain ⟨hi, e⟩ := List.getElem?_eq_some_iff.mp hx
  rw [findIdx_take q ss i h2 h1, List.drop_eq_getElem_cons hi, e, List.findIdx_cons, hq, cond_true]; rfl
theorem plP_end {α : Type} {q : α → Bool} {ss : List α} {i : Nat} {t : Tok} (h : PlP q ss (i, t)) (hx : ss.length ≤ i) : i = ss.findIdx q := by
  obtain ⟨h1, h2⟩ := h
  rw [findIdx_take q ss i h2 h1, List.drop_eq_nil_of_le hx]; simp
theorem strs_atS : ∀ {vs : List Value} {ss : List Str}, StrsAre vs ss → ∀ (i : Nat), i < ss.length → ∃ x t, ss[i]? = some x ∧ vs[i]? = some (Value.str x t)
  | _, _, .nil, i, h => by simp at h
  | _, _, .cons y t r, 0, _ => ⟨y, t, rfl, rfl⟩
  | _, _, .cons y t r, i + 1, h => by simpa using strs_atS r i (by simpa using h)
theorem ints_atI : ∀ {vs : List Value} {ns : List Int}, IntsAre vs ns → ∀ (i : Nat), i < ns.length → ∃ x t, ns[i]? = some x ∧ vs[i]? = some (Value.int x t)
  | _, _, .nil, i, h => by simp at h
  | _, _, .cons y t r, 0, _ => ⟨y, t, rfl, rfl⟩
  | _, _, .cons y t r, i + 1, h => by simpa using ints_atI r i (by simpa using h)
end Mine
local macro_rules | `(tactic| k_room) => `(tactic| first | ((try simp only [depth_mark, depth_under_make, depth_under_kw, depth_in1, depth_deeper, depth_caller]); decide) | ((try simp only [depth_mark, depth_under_make, depth_under_kw, depth_in1, depth_deeper, depth_caller]); (try dsimp only); omega))
local macro_rules | `(tactic| k_units) => `(tactic| first | exact Nat.le_of_ble_eq_true rfl | ((try simp only [units_in1, units_deeper, Around.mark_units, units_caller]); (try dsimp only); omega))
local macro_rules | `(tactic| walk_at "exec While") => `(tactic| (k_here; refine stop_in ?_))
local macro_rules | `(tactic| walk_at "KswPost") => `(tactic| (refine stop_in ?_))
local macro_rules | `(tactic| walk_at "call builtin:len") => `(tactic| (k_here; (with_reducible show wpAny _ _ (call (Value.builtin "len") [Value.ref _]) _ _ _); refine stop_in ?_))
local macro_rules | `(tactic| walk_at "getItem ref int") => `(tactic| (k_here; refine stop_in ?_))
local macro_rules | `(tactic| walk_at "compareOp NotEq str str") => `(tactic| (k_here; refine stop_in ?_))
theorem Mine.place_str {w : World} {mean : ExcName → Option Value} {mg mb : Str → Option Value} (y : Str) (u : Tok) (l : Addr) (vs : List Value) (ss : List Str) (n : Nat) (news : List (Addr × Obj)) (hl : (l, W.listOf vs.toArray n) ∈ news) (hS : StrsAre vs ss) (hsz : ss.length ≤ 1000) :
    Ctr1 w mean mg mb 43 news [.str y u, .ref l] (fun t => .int ((ss.findIdx (· == y) : Nat) : Int) t) := by
  dsimp only [Ctr1, CbRet]
  k_fill
  intros
  rename_i hret
  refine wpAny_call ?_
  k_dflt (refine' code_def ?k1 ?k2 ?k3 ?k4 ?k5 ?kA ?kF ?kK ?k6 ?k7 ?k8 ?k9 ?kB ?_ ?c2 ?c3 ?c4 ?c5; (case kA => exact rfl); (case kF => exact rfl); (case kK => assumption); (case k1 => k_asm); (case k2 => k_asm); (case k3 => k_asm); (case k4 => k_asm); (case k5 => k_asm); (case k6 => k_is); (case k7 => k_is); (case k8 => k_room); (case k9 => exact BindsTo.of_eq rfl); (case c5 => decide); (case kB => exact locs rfl); (case c2 => exact rfl); (case c3 => exact rfl); (case c4 => exact rfl); k_whole; intro g' L' h' FG' F' N' B' X' T'; (try dsimp only); (try k_lift B'); (try k_fold))
  k_steps
  refine stop_out ?_
  rename Fr g' _ _ _ => lF
  rename News g' _ _ _ => lN
  (with_unfolding_all refine' ksw_while (σ := Nat × Tok) (fun _ => news) (fun c => [(Str.ofString "at", .int (c.1 : Int) c.2)]) (fun _ => True) [] (PlP (· == y) ss) (fun c => ss.length - c.1) ((0, _) : Nat × Tok) lF lN trivial ?hk (plP_zero _ _ _) ?turn)
  case hk => exact fun p hp => by rw [List.mem_singleton.mp hp]; rfl
  case turn =>
    clear lF lN
    rintro ⟨i, ti⟩ uu h tk _ hP F' N'
    (try k_fold)
    have e : vs.toArray.size = ss.length := by rw [List.size_toArray, hS.length]
    k_steps
    refine stop_out ?_
    rename News g' _ _ _ => lN
    refine len_list (News.isList lN hl) (by rw [e]; omega) ?_
    rw [e]
    have hPi := hP.1
    dsimp only at hPi
    rcases Nat.lt_or_ge i ss.length with hlt | hge
    · obtain ⟨x, tx, hx, hv⟩ := strs_atS hS i hlt
      k_steps
      refine stop_out ?_
      refine item_list (News.isList lN hl) (by omega) (by omega) (by simpa using hv) ?_
      dsimp only
      k_steps
      refine stop_out ?_
      refine ne_str ?_
      cases hxy : (x == y) with
      | true =>
        rw [show (x != y) = false from by simp [bne, hxy]]
        have hfin := plP_here hP hx hxy
        rw [← hfin] at hret
        k_steps
        exact hret _ _ _ (by assumption) (by assumption)
      | false =>
        rw [show (x != y) = true from by simp [bne, hxy]]
        k_steps
        refine stop_out ?_
        rename Fr _ _ _ _ => lF
        rename News _ _ _ _ => lN
        refine ksw_end ((i + 1, _) : Nat × Tok) lF lN (fun p hp => hp) trivial (fun p hp => by rw [List.mem_singleton.mp hp]; rfl) ?_ (plP_succ hP hx hxy) (by dsimp only; omega)
        intro z h2 _
        have h2' := h2 _ (List.mem_singleton.mpr rfl)
        simp [kstB, h2']
    · have hfin := plP_end hP hge
      rw [← hfin] at hret
      k_steps
      exact hret _ _ _ (by assumption) (by assumption)
local macro_rules | `(tactic| walk_at "subscriptTail Name Name ref int") => `(tactic| (k_here; refine stop_in ?_))
local macro_rules | `(tactic| walk_at "compareOp NotEq int int") => `(tactic| (k_here; refine stop_in ?_))
theorem Mine.place_int {w : World} {mean : ExcName → Option Value} {mg mb : Str → Option Value} (y : Int) (u : Tok) (l : Addr) (vs : List Value) (ss : List Int) (n : Nat) (news : List (Addr × Obj)) (hl : (l, W.listOf vs.toArray n) ∈ news) (hS : IntsAre vs ss) (hsz : ss.length ≤ 1000) :
    Ctr1 w mean mg mb 43 news [.int y u, .ref l] (fun t => .int ((ss.findIdx (· == y) : Nat) : Int) t) := by
  dsimp only [Ctr1, CbRet]
  k_fill
  intros
  rename_i hret
  refine wpAny_call ?_
  k_dflt (refine' code_def ?k1 ?k2 ?k3 ?k4 ?k5 ?kA ?kF ?kK ?k6 ?k7 ?k8 ?k9 ?kB ?_ ?c2 ?c3 ?c4 ?c5; (case kA => exact rfl); (case kF => exact rfl); (case kK => assumption); (case k1 => k_asm); (case k2 => k_asm); (case k3 => k_asm); (case k4 => k_asm); (case k5 => k_asm); (case k6 => k_is); (case k7 => k_is); (case k8 => k_room); (case k9 => exact BindsTo.of_eq rfl); (case c5 => decide); (case kB => exact locs rfl); (case c2 => exact rfl); (case c3 => exact rfl); (case c4 => exact rfl); k_whole; intro g' L' h' FG' F' N' B' X' T'; (try dsimp only); (try k_lift B'); (try k_fold))
  k_steps
  refine stop_out ?_
  rename Fr g' _ _ _ => lF
  rename News g' _ _ _ => lN
  (with_unfolding_all refine' ksw_while (σ := Nat × Tok) (fun _ => news) (fun c => [(Str.ofString "at", .int (c.1 : Int) c.2)]) (fun _ => True) [] (PlP (· == y) ss) (fun c => ss.length - c.1) ((0, _) : Nat × Tok) lF lN trivial ?hk (plP_zero _ _ _) ?turn)
  case hk => exact fun p hp => by rw [List.mem_singleton.mp hp]; rfl
  case turn =>
    clear lF lN
    rintro ⟨i, ti⟩ uu h tk _ hP F' N'
    (try k_fold)
    have e : vs.toArray.size = ss.length := by rw [List.size_toArray, hS.length]
    k_steps
    refine stop_out ?_
    rename News g' _ _ _ => lN
    refine len_list (News.isList lN hl) (by rw [e]; omega) ?_
    rw [e]
    have hPi := hP.1
    dsimp only at hPi
    rcases Nat.lt_or_ge i ss.length with hlt | hge
    · obtain ⟨x, tx, hx, hv⟩ := ints_atI hS i hlt
      k_steps
      refine stop_out ?_
      refine item_list (News.isList lN hl) (by omega) (by omega) (by simpa using hv) ?_
      dsimp only
      k_steps
      refine stop_out ?_
      refine ne_int ?_
      cases hxy : (x == y) with
      | true =>
        rw [show (x != y) = false from by simp [bne, hxy]]
        have hfin := plP_here hP hx hxy
        rw [← hfin] at hret
        k_steps
        exact hret _ _ _ (by assumption) (by assumption)
      | false =>
        rw [show (x != y) = true from by simp [bne, hxy]]
        k_steps
        refine stop_out ?_
        rename Fr _ _ _ _ => lF
        rename News _ _ _ _ => lN
        refine ksw_end ((i + 1, _) : Nat × Tok) lF lN (fun p hp => hp) trivial (fun p hp => by rw [List.mem_singleton.mp hp]; rfl) ?_ (plP_succ hP hx hxy) (by dsimp only; omega)
        intro z h2 _
        have h2' := h2 _ (List.mem_singleton.mpr rfl)
        simp [kstB, h2']
    · have hfin := plP_end hP hge
      rw [← hfin] at hret
      k_steps
      exact hret _ _ _ (by assumption) (by assumption)
end

section
open PySem PySem.W PyProof.Rows Mine PySem.Calls PySem.Spec
set_option maxRecDepth 100000
set_option maxHeartbeats 8000000
namespace Mine
/-- y stands in x at place i -/
def HereAt (xs ys : List Nat) (i : Nat) : Prop := ∀ j, j < ys.length → xs[i + j]? = ys[j]?
theorem take_drop_iff (xs ys : List Nat) (i : Nat) : ((xs.drop i).take ys.length = ys) ↔ HereAt xs ys i := by
  constructor
  · intro h j hj
    have := congrArg (·[j]?) h
    simp only [List.getElem?_take, hj, if_true, List.getElem?_drop] at this
    exact this
  · intro h
    apply List.ext_getElem?
    intro j
    rw [List.getElem?_take]
    by_cases hj : j < ys.length
    · rw [if_pos hj, List.getElem?_drop]; exact h j hj
    · rw [if_neg hj]; exact (List.getElem?_eq_none (by omega)).symm
theorem stands_iff (x y : Str) : (!(Builtin.Str.occurrences x y 0 x.length 1).isEmpty) = true ↔ ∃ i, i + y.length ≤ x.length ∧ HereAt x.cps.toList y.cps.toList i := by
  rw [StrLaws.found_iff]
  constructor
  · rintro ⟨i, h1, h2⟩
    refine ⟨i, h1, ?_⟩
    rw [StrLaws.subAt_eq, beq_iff_eq] at h2
    exact (take_drop_iff _ _ _).mp (by rw [Array.length_toList]; exact h2)
  · rintro ⟨i, h1, h2⟩
    refine ⟨i, h1, ?_⟩
    rw [StrLaws.subAt_eq, beq_iff_eq]
    have := (take_drop_iff _ _ _).mpr h2
    rw [Array.length_toList] at this; exact this
abbrev stands (x y : Str) : Bool := !(Builtin.Str.occurrences x y 0 x.length 1).isEmpty
def StP (x y : Str) (i : Nat) : Prop := ∀ j, j < i → ¬ HereAt x.cps.toList y.cps.toList j
theorem stands_no {x y : Str} (h : StP x y (x.length + 1 - y.length)) : stands x y = false := by
  rw [Bool.eq_false_iff]
  intro hs
  obtain ⟨i, h1, h2⟩ := (stands_iff x y).mp hs
  exact h i (by omega) h2
theorem stands_yes {x y : Str} {i : Nat} (h1 : i + y.length ≤ x.length) (h2 : HereAt x.cps.toList y.cps.toList i) : stands x y = true := (stands_iff x y).mpr ⟨i, h1, h2⟩
def SzP (x y : Str) (i : Nat) (c : Nat × Tok) : Prop := c.1 ≤ y.length ∧ ∀ j, j < c.1 → x.cps.toList[i + j]? = y.cps.toList[j]?
theorem szP_zero (x y : Str) (i : Nat) (t : Tok) : SzP x y i (0, t) := ⟨Nat.zero_le _, fun _ h => absurd h (Nat.not_lt_zero _)⟩
theorem szP_succ {x y : Str} {i k : Nat} {t t' : Tok} (h : SzP x y i (k, t)) (hk : k < y.length) (he : x.cps.toList[i + k]? = y.cps.toList[k]?) : SzP x y i (k + 1, t') := by
  refine ⟨hk, fun j hj => ?_⟩
  rcases Nat.lt_or_eq_of_le (Nat.le_of_lt_succ hj) with h' | h'
  · exact h.2 j h'
  · rw [h']; exact he
theorem item_beq {x y : Str} {k : Int} {a b : Nat} (hk : k = (a : Int)) (ha : a < x.length) (hb : b < y.length) : (Txt.item x k == Txt.item y (b : Int)) = decide (x.cps.toList[a]? = y.cps.toList[b]?) := by
  subst hk
  rw [item_meets ⟨by omega, by omega⟩, item_meets ⟨by omega, by omega⟩, Bool.eq_iff_iff, decide_eq_true_eq, beq_iff_eq]
  have ha' : a < x.cps.size := ha
  have hb' : b < y.cps.size := hb
  simp [Array.getElem?_toList, Array.getElem?_eq_getElem ha', Array.getElem?_eq_getElem hb', Array.getD, ha', hb']
end Mine
local macro_rules | `(tactic| k_room) => `(tactic| first | ((try simp only [depth_mark, depth_under_make, depth_under_kw, depth_in1, depth_deeper, depth_caller]); decide) | ((try simp only [depth_mark, depth_under_make, depth_under_kw, depth_in1, depth_deeper, depth_caller]); (try dsimp only); omega))
local macro_rules | `(tactic| k_units) => `(tactic| first | exact Nat.le_of_ble_eq_true rfl | ((try simp only [units_in1, units_deeper, Around.mark_units, units_caller]); (try dsimp only); omega))
local macro_rules | `(tactic| walk_at "exec While") => `(tactic| (k_here; refine stop_in ?_))
local macro_rules | `(tactic| walk_at "KswPost") => `(tactic| (refine stop_in ?_))
local macro_rules | `(tactic| walk_at "InvEndN") => `(tactic| (refine stop_in ?_))
local macro_rules | `(tactic| walk_at "exec For Name Call cons nil") => `(tactic| (k_here; refine stop_in ?_))
local macro_rules | `(tactic| walk_at "pyIter ref") => `(tactic| (k_here; refine stop_in ?_))
theorem Mine.stands_str {w : World} {mean : ExcName → Option Value} {mg mb : Str → Option Value} (y : Str) (u : Tok) (x : Str) (t : Tok) (news : List (Addr × Obj)) (hx : x.length ≤ 1000) (hy : y.length ≤ 1000) :
    Ctr1 w mean mg mb 36 news [.str y u, .str x t] (fun t => .str (if stands x y then Str.ofString "yes" else Str.ofString "no") t) := by
  dsimp only [Ctr1, CbRet]
  k_fill
  intros
  rename_i hret
  refine wpAny_call ?_
  k_dflt (refine' code_def ?k1 ?k2 ?k3 ?k4 ?k5 ?kA ?kF ?kK ?k6 ?k7 ?k8 ?k9 ?kB ?_ ?c2 ?c3 ?c4 ?c5; (case kA => exact rfl); (case kF => exact rfl); (case kK => assumption); (case k1 => k_asm); (case k2 => k_asm); (case k3 => k_asm); (case k4 => k_asm); (case k5 => k_asm); (case k6 => k_is); (case k7 => k_is); (case k8 => k_room); (case k9 => exact BindsTo.of_eq rfl); (case c5 => decide); (case kB => exact locs rfl); (case c2 => exact rfl); (case c3 => exact rfl); (case c4 => exact rfl); k_whole; intro g' L' h' FG' F' N' B' X' T'; (try dsimp only); (try k_lift B'); (try k_fold))
  k_steps
  refine stop_out ?_
  rename Fr g' _ _ _ => lF
  (with_unfolding_all refine' For_invVF lF ?k1 ?k2 ?_)
  case k1 => exact rfl
  case k2 => exact rfl
  k_steps
  refine stop_out ?_
  rename Fr _ _ _ _ => lF
  rename News _ _ _ _ => lN
  rename IsRange _ _ _ _ _ _ _ _ => rgX
  have hxl : (x.length : Int) ≤ 1000 := by omega
  have hyl : (y.length : Int) ≤ 1000 := by omega
  (with_unfolding_all refine' kst_range (σ := Unit) (fun _ => news) (fun _ => []) (fun _ => True) [Str.ofString "size"] (fun pre _ => StP x y pre.length) () (by rfl) rgX (small_one (by omega) (by omega) (by omega) (by omega)) (rangeSize_nat _ _) lF lN trivial (fun _ h => nomatch h) (fun j hj => absurd hj (Nat.not_lt_zero _)) ?turn ?done)
  case done =>
    clear lF lN rgX
    rintro ⟨⟩ uu h tk _ hP F' N'
    rw [rangeKs_length] at hP
    have hno : stands x y = false := stands_no (by intro j hj; exact hP j (by omega))
    rw [hno, if_neg Bool.false_ne_true] at hret
    (try k_fold)
    k_steps
    exact hret _ _ _ (by assumption) (by assumption)
  case turn =>
    clear lF lN rgX
    rintro ⟨⟩ pre k tkk uu h tk own rfl hn hoff _ hP F' N'
    (try k_fold)
    k_steps
    refine stop_out ?_
    rename Fr _ _ _ _ => lF
    rename News _ _ _ _ => lN
    (with_unfolding_all refine' ksw_while (σ := Nat × Tok) (fun _ => news ++ own) (fun c => [(Str.ofString "size", .int (c.1 : Int) c.2)]) (fun _ => True) [] (SzP x y pre.length) (fun c => y.length - c.1) ((0, _) : Nat × Tok) lF lN trivial ?hk (szP_zero _ _ _ _) ?turn2)
    case hk => exact fun p hp => by rw [List.mem_singleton.mp hp]; rfl
    case turn2 =>
      clear lF lN
      rintro ⟨i, ti⟩ uu h tk _ hZ F' N'
      have hZi := hZ.1
      dsimp only at hZi
      (try k_fold)
      rcases Nat.lt_or_ge i y.length with hlt | hge
      · have hin : pre.length + i < x.length := by omega
        k_steps
        · rename (_ == _) = true => hq
          rw [item_beq (a := pre.length + i) (by dsimp only; omega) hin hlt, decide_eq_true_eq] at hq
          refine stop_out ?_
          rename Fr _ _ _ _ => lF
          rename News _ _ _ _ => lN
          refine ksw_end ((i + 1, _) : Nat × Tok) lF lN (fun p hp => hp) trivial (fun p hp => by rw [List.mem_singleton.mp hp]; rfl) ?_ (szP_succ hZ hlt hq) (by dsimp only; omega)
          intro z h2 _
          have h2' := h2 _ (List.mem_singleton.mpr rfl)
          simp [kstB, h2']
        · exfalso
          rename (_ : Int) = _ => hq
          omega
        · rename (_ == _) = false => hq
          rw [item_beq (a := pre.length + i) (by dsimp only; omega) hin hlt, decide_eq_false_iff_not] at hq
          refine stop_out ?_
          rename Fr _ _ _ _ => lF
          rename News _ _ _ _ => lN
          refine kst_end () lF lN (fun p hp => List.mem_append_left _ hp) (fun p hp => List.mem_append_right _ hp) rfl trivial (fun _ h => nomatch h) ?_ ?_
          · intro z h1 _ h3
            simp only [List.contains_cons, List.contains_nil, Bool.or_false, beq_eq_false_iff_ne, ne_eq] at h3
            simp [kstB, h1, h3]
          · intro j hj
            rw [List.length_append, List.length_singleton] at hj
            rcases Nat.lt_or_eq_of_le (Nat.le_of_lt_succ hj) with h' | h'
            · exact hP j h'
            · rw [h']; intro hH; exact hq (hH i (by rw [Array.length_toList]; exact hlt))
      · have hyes : stands x y = true := by
          refine stands_yes (i := pre.length) (by omega) fun j hj => hZ.2 j ?_
          rw [Array.length_toList] at hj
          have : y.cps.size = y.length := rfl
          dsimp only; omega
        rw [hyes, if_pos rfl] at hret
        k_steps
        · rename News _ _ _ _ => lN
          exact hret _ _ _ (by assumption) (fun p hp => lN p (List.mem_append_left _ hp))
        · exfalso
          rename (_ : Int) ≠ _ => hq
          omega
end

section
open PySem PySem.W PyProof.Rows
namespace Mine
abbrev S1a := List Value × List Str × Nat
def rr0 : List Str := [Str.ofString "", Str.ofString " ", Str.ofString "ab", Str.ofString "b"]
def P1a (pre : List Int) (c : S1a) : Prop := c.2.1.length = 4 + pre.length ∧ ∀ s ∈ c.2.1, s.length ≤ 2
theorem p1a_zero {vs : List Value} : P1a [] (vs, rr0, 0) := ⟨rfl, (by decide +kernel : ∀ s ∈ rr0, s.length ≤ 2)⟩
theorem p1a_append {pre : List Int} {n : Int} {vs vs' : List Value} {ss : List Str} {k k' : Nat} {sg : Str} (h : P1a pre (vs, ss, k)) (hs : sg.length ≤ 2) : P1a (pre ++ [n]) (vs', ss ++ [sg], k') := by
  obtain ⟨h1, h2⟩ := h
  refine ⟨by simp only [List.length_append, List.length_singleton] at h1 ⊢; omega, fun s hm => ?_⟩
  rcases List.mem_append.mp hm with hm | hm
  · exact h2 s hm
  · rw [List.mem_singleton.mp hm]; exact hs
theorem push_snoc (vs : List Value) (v : Value) : vs.toArray.push v = (vs ++ [v]).toArray := by simp
theorem sum_le2 : ∀ {ss : List Str}, (∀ s ∈ ss, s.length ≤ 2) → (ss.map (·.length)).sum ≤ 2 * ss.length
  | [], _ => by simp
  | a :: r, h => by
    have h1 := h a List.mem_cons_self
    have h2 := sum_le2 fun s hs => h s (List.mem_cons_of_mem _ hs)
    simp only [List.map_cons, List.sum_cons, List.length_cons]
    omega
theorem step2_small : ∀ b, b < 68 → Builtin.Range.small 0 ((b : Nat) : Int) 2 = true := by decide +kernel
theorem step2_size : ∀ b, b < 68 → Builtin.Range.rangeSize 0 ((b : Nat) : Int) 2 = (((b + 1) / 2 : Nat) : Int) := by decide +kernel
theorem join0_len (ys : List Str) : (Txt.join (Str.ofString "") ys).length ≤ (ys.map (·.length)).sum := by
  have h := StrLaws.join_length_le (Str.ofString "") ys
  rw [← StrLaws.glued_eq_join] at h
  have e : (Str.ofString "").length = 0 := by decide +kernel
  rw [e, Nat.mul_zero, Nat.add_zero] at h
  exact h
theorem pick2 {a b : Str} {t u : Tok} (ha : a.length = 1) (hb : b.length = 1) {k : Int} (h0 : 0 ≤ k) (h1 : k < 3) :
    ∃ zs ys, slicePick #[.str a t, .str b u] none (some k) none = zs.toArray ∧ StrsAre zs ys ∧ (ys.map (·.length)).sum ≤ 2 ∧ ys.length ≤ 2 := by
  have : k = 0 ∨ k = 1 ∨ k = 2 := by omega
  rcases this with rfl | rfl | rfl
  · exact ⟨[], [], rfl, .nil, by simp, by simp⟩
  · exact ⟨[.str a t], [a], rfl, .cons _ _ .nil, by simp [ha], by simp⟩
  · exact ⟨[.str a t, .str b u], [a, b], rfl, .cons _ _ (.cons _ _ .nil), by simp [ha, hb], by simp⟩
section
variable {prog : Program} {w : World} {A : Around} {E : Value → Shared → Prop} {s : Shared} {h₀ : Heap} {L : Addr} {m : Str → Option Value} {news : List (Addr × Obj)}
/-- a slice of a list that no name holds -/
theorem slice_listT {value slice : Expr} {l : Addr} {items : Array Value} {vl vu : Value} {lo hi : Option Int} {Q : Value → Shared → Prop} {h : Heap} {g : Array GenState} {d : Drawn} {tk : Nat} {os : OsState}
    (F : Fr h₀ L h m) (N : News h₀ L h news) (hl : h.IsList l items) (pl : IsPart vl lo) (pu : IsPart vu hi) (hsz : items.size ≤ sizeLine)
    (hQ : ∀ T h', Fr h₀ L h' m → News h₀ L h' ((T, W.listOf (slicePick items lo hi none) 0) :: news) → (∀ q ∈ news, q.1 < T) → Q (.ref T) ⟨h', g, d, tk, os⟩)
    (hs : subscripted slice false (.ref l) (.ref h.objs.size) = operate [.ref h.objs.size, .ref l] (getItem (.ref l) (.ref h.objs.size)) := by with_unfolding_all rfl) :
    wpAny (model prog w) A (subscriptTail value slice (.ref l) (.ref h.objs.size)) Q E ⟨h.push { cls := .type "slice", data := .fields #[vl, vu, .none] }, g, d, tk, os⟩ := by
  refine tail_any (Heap.IsList.typeIs (s := ⟨h.push { cls := .type "slice", data := .fields #[vl, vu, .none] }, g, d, tk, os⟩) (hl.push _)) list_getitem_lookup
    (wpAny_getItem_list_slice (hl.push _) (Heap.IsSliceOf.new ..) pl pu .none (by simp) ?_ hsz) hs
  have N1 := News.push (F.push { cls := .type "slice", data := .fields #[vl, vu, .none] }) (N.grown fun _ _ e => Heap.get?_push_of_some _ e) { cls := .type "list", data := .seq (slicePick items lo hi none) }
  rw [Heap.size_push] at N1
  show Q (.ref (h.push _).objs.size) _
  rw [Heap.size_push]
  exact hQ _ _ ((F.push _).push _) N1 fun q hq => Nat.lt_succ_of_lt (Heap.lt_size (N q hq).1)
end
end Mine
end

section
open PySem PySem.W PyProof.Rows PySem.Calls PySem.Spec
set_option maxRecDepth 100000
set_option linter.unusedVariables false
namespace Mine
open LCg
section
variable {prog : Program} {w : World} {A : Around} {E : Value → Shared → Prop} {s : Shared} {h₀ : Heap} {L : Addr} {m : Str → Option Value} {env : Env}
/-- what a range with a step is, as a comprehension's source -/
def SrcStep (prog : Program) (w : World) (A : Around) (h₀ : Heap) (L : Addr) (m : Str → Option Value) (env : Env) (elt : Expr) (x : Str) (scope : Scope) (cl : List (Str × Addr)) (Fin : Shared → List Value → List (Addr × Obj) → Prop) (xv : Value) (s₁ : Shared) : Prop :=
  ∃ r a b c t u v n news, xv = .ref r ∧ A.handled = none ∧ Fr h₀ L s₁.heap m ∧ News h₀ L s₁.heap news ∧ IsRange s₁.heap r a b c t u v ∧ Builtin.Range.small a b c = true ∧ Builtin.Range.rangeSize a b c = ((n : Nat) : Int) ∧ n ≤ sizeLine ∧
    ∀ s₂ : Shared, (∃ h, s₂ = { s₁ with heap := h }) → CompRest prog w A h₀ L m env elt x scope cl s₂ (fun _ => True) (fun i v => ∃ t, v = .int (a + (i : Int) * c) t) (Fin s₂) n 0 [] news
theorem ListComp_step {elt iter : Expr} {x : Str} {px : Pos} {scope : Scope} {cl : List (Str × Addr)} {pos : Pos} {Q : Value → Shared → Prop} (F₀ : Fr h₀ L s.heap m)
    (hclos : closureFor scope env = pure cl) (hcell : ∀ y ∈ scope.names, y.2 ≠ .cell) (hkind : scope.kind = .function)
    (hnames : ∀ y ∈ scope.names, y.2 = .local → scope.names.lookup y.1 = some .local) (hx : scope.names.lookup x = some .local)
    (h : wpAny (model prog w) A (eval iter env) (SrcStep prog w A h₀ L m env elt x scope cl (fun s₂ => FinE h₀ L m s₂ Q)) E s)
    (hs : ∀ x, foldedSetIterable iter env x = pure x := by intro _; rfl) :
    wpAny (model prog w) A (eval (.ListComp elt [⟨.Name x px, iter, [], 0⟩] scope pos) env) Q E s := by
  rw [eval_ListComp]
  refine wpAny_comprehension_free (use := none) rfl hs hclos hkind hnames (wpAny_mono h (fun xv s₁ h₁ => ?_) fun _ _ e => e)
  obtain ⟨r, a, b, c, t, u, v, n, news, rfl, hh, F, N, hr, hsm, hn, hsz, R⟩ := h₁
  refine wpAny_pyIter_range hr hsm ?_
  refine block_U (Walks.range hh s₁.heap.objs.size a c n) hsz (fun i h st => ⟨_, st⟩) (fun i h h' o nw st e e' _ _ _ => by
      have st' : h.get? s₁.heap.objs.size = some _ := st
      show h'.get? s₁.heap.objs.size = some _
      rw [e', ← e]; exact st') hcell hkind hx (by show IsRangeIter _ _ _ _ _; rw [hn]; simpa using Heap.get?_push_size _ rfl) (fun b hb => ?_)
    (F.keeps fun _ _ e => Heap.get?_push_of_some _ e) (N.grown fun _ _ e => Heap.get?_push_of_some _ e) (Nat.ne_of_lt F.ns.lt) (next_is_new F) (fun p hp => Nat.ne_of_lt (Heap.lt_size (N p hp).1)) trivial (R _ ⟨_, rfl⟩) ?_
  · rw [List.mem_singleton.mp hb]
    show s₁.heap.objs.size < (s₁.heap.push _).objs.size
    rw [Heap.size_push]; exact Nat.lt_succ_self _
  · intro D C h tk m' ys news' F' N' o1 hn hC₀ hD₀ hCL hDL hCD offC fin
    refine ⟨m', hn, fun h'' hs'' => fin D h'' tk (F'.change hs'' hCL hC₀) (fun p hp => ?_) o1⟩
    refine ⟨hs''.extBut _ _ ?_ (N' p hp).1, (N' p hp).2⟩
    rcases List.mem_cons.mp hp with rfl | hp
    · exact Ne.symm hCD
    · exact offC p hp
/-- every so-many-th item of a row of texts -/
theorem rowRest {rn xn : Str} {p1 p2 p3 : Pos} {scope : Scope} {cl : List (Str × Addr)} {s₂ : Shared} {news : List (Addr × Obj)} {Fin : List Value → List (Addr × Obj) → Prop} {a c : Int} {n : Nat} {cc R : Addr} {oc : Obj} {vs : List Value} {ss : List Str} {nR : Nat}
    (hx : scope.names.lookup xn = some .local) (hkind : scope.kind = .function) (hdx : (xn == ("__debug__" : Str)) = false) (hdr : (rn == ("__debug__" : Str)) = false)
    (hrk : ∀ C, (compEnvC scope cl C env).kindOf rn = some .cell) (hcl : cl.lookup rn = some cc) (hcm : (cc, oc) ∈ news) (hcd : oc.data = .cell (some (.ref R))) (hRm : (R, W.listOf vs.toArray nR) ∈ news) (hS : StrsAre vs ss)
    (hin : ∀ i : Nat, i < n → 0 ≤ a + (i : Int) * c ∧ a + (i : Int) * c < ss.length) (hsz : ss.length ≤ 100000)
    (fin : ∀ ys es, StrsAre ys es → es.length = n → Fin ys news) :
    CompRest prog w A h₀ L m env (.Subscript (.Name rn p1) (.Name xn p2) p3) xn scope cl s₂ (fun _ => True) (fun i v => ∃ t, v = .int (a + (i : Int) * c) t) Fin n 0 [] news := by
  have key : ∀ (j i : Nat) (ys : List Value) (es : List Str), i + j = n → StrsAre ys es → es.length = i → CompRest prog w A h₀ L m env (.Subscript (.Name rn p1) (.Name xn p2) p3) xn scope cl s₂ (fun _ => True) (fun i v => ∃ t, v = .int (a + (i : Int) * c) t) Fin j i ys news := by
    intro j
    induction j with
    | zero =>
      intro i ys es hi hy hl
      exact CompRest.zero (fin ys es hy (by omega))
    | succ j ih =>
      intro i ys es hi hy hl
      refine CompRest.succ ?_
      rintro v I oI C oC D m₂ h tk E' ⟨t, rfl⟩ hC hm F N off ne
      obtain ⟨h1, h2⟩ := hin i (by omega)
      obtain ⟨x, tx, hx', hv⟩ := strs_atS hS (a + (i : Int) * c).toNat (by omega)
      have hNs : h.Ns C m₂ := hC.ns (N (C, oC) (List.mem_cons_of_mem _ List.mem_cons_self)).1
      have up : ∀ q ∈ news, q ∈ (I, oI) :: (C, oC) :: (D, lst ys) :: news := fun q hq => List.mem_cons_of_mem _ (List.mem_cons_of_mem _ (List.mem_cons_of_mem _ hq))
      have hl : h.IsList R vs.toArray := News.isList N (up _ hRm)
      refine wpAny_Subscript_Name (T := "list") list_getitem_lookup ?_
      refine wpAny_Name (wpAny_loadName_cell (by show (relabel scope _).kind = .function; simpa [relabel] using hkind) (hrk C) hcl ⟨oc, (N _ (up _ hcm)).1, hcd⟩ ?_) hdr
      refine wpAny_Name (wpAny_loadName_local (by show (relabel scope _).kind = .function; simpa [relabel] using hkind) (lookup_relabel_local hx) hNs hm ?_) hdx
      refine ⟨hl.typeIs, wpAny_getItem_list hl h1 (by omega) (by simpa using hv) ?_⟩
      exact ⟨h, tk, news, rfl, F, N, off, trivial, ih (i + 1) _ _ (by omega) (strs_snoc hy) (by simp; omega)⟩
  exact key n 0 [] [] (by omega) .nil rfl
end
end Mine
end

section
open PySem PySem.W PyProof.Rows PySem.Calls PySem.Spec PyProof.V
set_option maxRecDepth 100000
set_option linter.unusedVariables false
namespace Mine
theorem areOf_strs : ∀ {vs : List Value} {ss : List Str}, StrsAre vs ss → AreOf ItemKind.str vs ss
  | _, _, .nil => .nil
  | _, _, .cons y t r => .cons ⟨t, rfl⟩ (areOf_strs r)
section
variable {prog : Program} {w : World} {A : Around} {E : Value → Shared → Prop} {s : Shared} {h₀ : Heap} {L : Addr} {m : Str → Option Value} {news : List (Addr × Obj)} {env : Env}
/-- {x: a written text for x in a row of texts}, stored under a name -/
theorem table_assign {x y : Str} {px pk py pc : Pos} {kc : Nat} {c : Str} {iter : Expr} {scope : Scope} {cl : List (Str × Addr)} {pos spos : Pos} {Q : Flow → Shared → Prop} {ax : Addr} {vs : List Value} {es : List Str} (F₀ : Fr h₀ L s.heap m) (N₀ : News h₀ L s.heap news)
    (hsw : swapsWith (.DictComp (.Name x pk) (.Constant (.str c) kc pc) [⟨.Name x px, iter, [], 0⟩] scope pos) (some (.Name y py)) spos.line env = pure true) (hL : env.locals = L)
    (hh : A.handled = none) (hclos : closureFor scope env = pure cl) (hcell : ∀ z ∈ scope.names, z.2 ≠ .cell) (hkind : scope.kind = .function)
    (hnames : ∀ z ∈ scope.names, z.2 = .local → scope.names.lookup z.1 = some .local) (hx : scope.names.lookup x = some .local) (hdx : (x == ("__debug__" : Str)) = false)
    (hy : env.kindOf y = some .local) (hp : (env.scope.kind == .class || (env.scope.kind == .module && env.locals != env.globals)) = false) (hS : StrsAre vs es) (hsz : es.length ≤ sizeLine)
    (h : wpAny (model prog w) A (eval iter env) (fun xv s₁ => xv = .ref ax ∧ s₁.heap.IsList ax vs.toArray ∧ Fr h₀ L s₁.heap m ∧ News h₀ L s₁.heap news ∧
      (∀ D o kvs h' tk, Fr h₀ L h' (fun z => if z = y then some (.ref D) else m z) → News h₀ L h' ((D, o) :: news) → (∀ q ∈ news, q.1 ≠ D) → o.IsDictOf (PySem.strKind prog w) kvs → FlatPairs PyData.str kvs (putAll PyData.str (fun k => k) (fun _ => PyData.str c) (es.filter fun _ => true)) → Q .next { s₁ with heap := h', toks := tk })) E s)
    (hs : ∀ x, foldedSetIterable iter env x = pure x) :
    wpAny (model prog w) A (exec (.Assign [.Name y py] (.DictComp (.Name x pk) (.Constant (.str c) kc pc) [⟨.Name x px, iter, [], 0⟩] scope pos) spos) env) Q E s := by
  subst hL
  rw [exec_Assign_Name_used _ _ _ _ hsw]
  refine wpAny_bind (wpAny_standAt (wpAny_bind ?_))
  show wpAny _ A (do let _ ← comprehension (.DictComp (.Name x pk) (.Constant (.str c) kc pc) [⟨.Name x px, iter, [], 0⟩] scope pos) scope env _ newDict false (eval iter env) (some (assign (.Name y py) env))) _ _ s
  refine wpAny_bind (wpAny_mono (wpAny_comprehension_free (use := some (assign (.Name y py) env)) (Q := fun _ s' => Q .next s') rfl hs hclos hkind hnames
    (wpAny_mono h (fun xv s₁ h₁ => ?_) fun _ _ e => e)) (fun _ s' hq => wpAny_pure (wpAny_pure hq)) fun _ _ e => e)
  obtain ⟨rfl, hl, F, N, hQ⟩ := h₁
  have hi := areOf_strs hS
  have hlt : ax < s₁.heap.objs.size := by obtain ⟨_, e, _⟩ := hl; exact Heap.lt_size e
  have up : ∀ (s₃ : Shared), (∀ b o, b ∉ [s₁.heap.objs.size] → (s₁.heap.push { cls := .type "list_iterator", data := .fields #[.ref ax, .int 0 0] }).get? b = some o → s₃.heap.get? b = some o) → ∀ b o, s₁.heap.get? b = some o → s₃.heap.get? b = some o :=
    fun s₃ hk b o e => hk b o (fun hm => Nat.ne_of_lt (Heap.lt_size e) (List.mem_singleton.mp hm)) (Heap.get?_push_of_some _ e)
  refine wpAny_pyIter_list hl ?_
  refine comp_block_walkCD (knd := PySem.strKind prog w) (RR := fun acc C => compPost (model prog w) A E (some (assign (.Name y py) env)) (fun _ s' => Q .next s') acc C) (Walks.list hh _ _ (Nat.ne_of_lt hlt) vs.toArray) (by rw [List.size_toArray, hS.length]; exact hsz) (ItemKind.str.lift fun _ => true)
    (fun v k => ∃ a, ItemKind.str.is a v ∧ k = a) (fun v y => ∃ a, ItemKind.str.is a v ∧ Carried y (PyData.str c)) hcell hkind hx ⟨⟨_, Heap.get?_push_size _ rfl, rfl, rfl⟩, hl.push _⟩ ?_ ⟨?_, ?_, ?_⟩ ?_
  · intro b hb
    show b < (s₁.heap.push _).objs.size
    rw [Heap.size_push]
    rcases List.mem_cons.mp hb with rfl | hb
    · exact Nat.lt_succ_self _
    · rw [List.mem_singleton.mp hb]; exact Nat.lt_succ_of_lt hlt
  · intro C i v s₃ m₃ E' hP hn hm hk
    obtain ⟨a, hmem, ha⟩ := hi.memD v (by simpa using Array.mem_of_getElem? hP)
    rw [ItemKind.lift_is ha]
    exact wpAny_tests_nil ⟨rfl, s₃.heap, s₃.toks, rfl, fun _ _ e => e⟩
  · intro C i v s₃ m₃ E' hP hp' hn hm hk
    obtain ⟨a, hmem, ha⟩ := hi.memD v (by simpa using Array.mem_of_getElem? hP)
    obtain ⟨t, rfl⟩ := id ha
    refine wpAny_Name (wpAny_loadName_local (by show (relabel scope _).kind = .function; simpa [relabel] using hkind) (lookup_relabel_local hx) hn hm ?_) hdx
    exact ⟨⟨a, strKind_is prog w a t, a, ha, rfl⟩, s₃.heap, s₃.toks, rfl, fun _ _ e => e⟩
  · intro C i v s₃ m₃ E' hP hp' hn hm hk
    obtain ⟨a, hmem, ha⟩ := hi.memD v (by simpa using Array.mem_of_getElem? hP)
    refine wpAny_Constant_str ?_
    exact ⟨⟨a, ha, .str c _⟩, _, _, rfl, fun _ _ e => e⟩
  · intro D C h' tk m' kvs vs' hD hC hDC hnC hlD hlen hP hF hk
    have e : vs' = vs := by simpa using list_of_places hlen hP
    subst e
    have hn : (s₁.heap.push { cls := .type "list_iterator", data := .fields #[.ref ax, .int 0 0] }).Ns env.locals m := F.ns.push _
    have hLf : env.locals ∉ [s₁.heap.objs.size] := fun hm => Nat.ne_of_lt F.ns.lt (List.mem_singleton.mp hm)
    have hLC : env.locals ≠ C := by rintro rfl; obtain ⟨o, _, _, ho, _⟩ := hn; rw [hC] at ho; cases ho
    have hLD : env.locals ≠ D := by rintro rfl; obtain ⟨o, _, _, ho, _⟩ := hn; rw [hD] at ho; cases ho
    show wpAny _ A (assign (.Name y py) env (.ref D)) _ _ _
    refine wpAny_assign_Name (wpAny_storeName_local hy (hn.at' fun o e => hk _ o hLf e) (fun h₂ hn₂ hs₂ => ?_) hp)
    refine ⟨m', hnC.sameBut hs₂ (Ne.symm hLC), fun h₃ hs₃ => ?_⟩
    have keep : ∀ b o, b ≠ env.locals → s₁.heap.get? b = some o → h₃.get? b = some o := fun b o hb e =>
      hs₃.extBut b o (by rintro rfl; rw [Heap.get?_push_of_some _ e] at hC; cases hC) (hs₂.extBut b o hb (up { s₁ with heap := h' } hk b o e))
    have hD₀ : h₀.get? D = none := by
      cases e : h₀.get? D with
      | none => rfl
      | some o' => rw [Heap.get?_push_of_some _ (F.keep _ _ e)] at hD; cases hD
    obtain ⟨o, ho, hdo⟩ := Heap.dictOf_iff.mp ((hlD.extBut hs₂.extBut (Ne.symm hLD)).extBut hs₃.extBut hDC)
    refine hQ D o kvs h₃ _ ⟨hn₂.sameBut hs₃ hLC, fun b o e => keep b o (Nat.ne_of_lt (Nat.lt_of_lt_of_le (Heap.lt_size e) F.above)) (F.keep b o e), F.above⟩
      (fun p hp => ?_) (fun q hq => ?_) hdo (storedAll_flat same_str hF _ (hi.filter fun _ => true))
    · rcases List.mem_cons.mp hp with rfl | hp
      · exact ⟨ho, Ne.symm hLD, hD₀⟩
      · exact ⟨keep _ _ (N p hp).2.1 (N p hp).1, (N p hp).2⟩
    · intro e
      have := Heap.get?_push_of_some { cls := .type "list_iterator", data := .fields #[.ref ax, .int 0 0] } (N q hq).1
      rw [e, hD] at this; cases this
/-- a text asked of such a table -/
theorem in_table {D : Addr} {o : Obj} {kvs : List (Str × Value)} {es : List Str} {c x : Str} {t : Tok} {Q : Value → Shared → Prop} (lo : (D == sysModules) = false) (ho : s.heap.get? D = some o) (hd : o.IsDictOf (PySem.strKind prog w) kvs) (hf : FlatPairs PyData.str kvs (putAll PyData.str (fun k => k) (fun _ => PyData.str c) (es.filter fun _ => true)))
    (h : Q (.bool (es.any (· == x))) { s with toks := s.toks + 1 }) : wpAny (model prog w) A (compareOp .In (.str x t) (.ref D)) Q E s := by
  refine in_strTab (TabAt.ofObj lo ho hd hf) ?_
  have e : (lookup (PyData.str x) (putAll PyData.str (fun k => k) (fun _ => PyData.str c) (es.filter fun _ => true))).isSome = es.any (· == x) := by
    have hfe : es.filter (fun _ => true) = es := by simp
    rw [hfe]
    cases hm : es.any (· == x) with
    | true =>
      obtain ⟨a, ha, e⟩ := List.any_eq_true.mp hm
      have e' : a = x := by simpa using e
      subst e'
      have z := lookup_putAll (enc := PyData.str) (kf := fun k : Str => k) (d := fun _ => PyData.str c) keyEnc_str (fun _ _ _ => rfl) (a := a) es ha
      rw [z]; rfl
    | false =>
      have z := lookup_putAll_none (enc := PyData.str) (kf := fun k : Str => k) (d := fun _ => PyData.str c) keyEnc_str (k := x) es fun a ha e' => by
        rw [List.any_eq_false] at hm
        exact hm a ha (by simpa using e')
      rw [z]; rfl
  rw [e]
  exact h
theorem add_listsT {l b : Addr} {vs ws : List Value} {Q : Value → Shared → Prop} (F : Fr h₀ L s.heap m) (N : News h₀ L s.heap news) (hl : s.heap.IsList l vs.toArray) (hb : s.heap.IsList b ws.toArray) (hsz : vs.length + ws.length ≤ sizeLine)
    (h : ∀ T h', Fr h₀ L h' m → News h₀ L h' ((T, W.listOf (vs ++ ws).toArray 0) :: news) → (∀ q ∈ news, q.1 < T) → Q (.ref T) { s with heap := h' }) :
    wpAny (model prog w) A (binaryOp .Add (.ref l) (.ref b)) Q E s :=
  add_lists (hsz := hsz) F N hl hb fun h' F' N' => h _ h' F' N' fun q hq => Heap.lt_size (N q hq).1
end
end Mine
end

section
open PySem PySem.W PyProof.Rows PySem.Calls PySem.Spec
set_option maxRecDepth 100000
set_option linter.unusedVariables false
namespace Mine
open LCg
def octs (ns : List Int) : List Int := ns.map (·.fmod 256) ++ [0, 255]
theorem octs_ok (ns : List Int) : ∀ n ∈ octs ns, 0 ≤ n ∧ n < 256 := by
  intro n hn
  rcases List.mem_append.mp hn with hn | hn
  · obtain ⟨a, _, rfl⟩ := List.mem_map.mp hn
    exact ⟨Int.fmod_nonneg_of_pos _ (by decide), Int.fmod_lt_of_pos _ (by decide)⟩
  · simp only [List.mem_cons, List.not_mem_nil, or_false] at hn
    rcases hn with rfl | rfl <;> decide
theorem octs_len (ns : List Int) : (octs ns).length = ns.length + 2 := by simp [octs]
theorem ints_snoc {y : Int} {t : Tok} : ∀ {vs : List Value} {ys : List Int}, IntsAre vs ys → IntsAre (vs ++ [.int y t]) (ys ++ [y])
  | _, _, .nil => .cons y t .nil
  | _, _, .cons z u r => .cons z u (ints_snoc r)
theorem ints_app2 {a b : Int} {t u : Tok} : ∀ {vs : List Value} {ys : List Int}, IntsAre vs ys → IntsAre (vs ++ [.int a t, .int b u]) (ys ++ [a, b])
  | _, _, .nil => .cons a t (.cons b u .nil)
  | _, _, .cons z w r => .cons z w (ints_app2 r)
theorem ints_get : ∀ {vs : List Value} {ns : List Int}, IntsAre vs ns → ∀ (i : Nat) (v : Value), vs[i]? = some v → ∃ n t, ns[i]? = some n ∧ v = Value.int n t
  | _, _, .nil, i, v, h => by simp at h
  | _, _, .cons y t r, 0, v, h => by simp only [List.getElem?_cons_zero, Option.some.injEq] at h ⊢; exact ⟨y, t, rfl, h.symm⟩
  | _, _, .cons y t r, i + 1, v, h => by simp only [List.getElem?_cons_succ] at h ⊢; exact ints_get r i v h
section
variable {prog : Program} {w : World} {A : Around} {E : Value → Shared → Prop} {s : Shared} {h₀ : Heap} {L : Addr} {m : Str → Option Value} {env : Env}
/-- [x % k for x in a list of ints], turn by turn -/
theorem modRest {xn : Str} {p1 p2 p3 : Pos} {kc : Nat} {k : Int} {scope : Scope} {cl : List (Str × Addr)} {s₂ : Shared} {news : List (Addr × Obj)} {S : List (Addr × Obj) → Prop} {Fin : List Value → List (Addr × Obj) → Prop} {its : Array Value} {ns : List Int}
    (hx : scope.names.lookup xn = some .local) (hkind : scope.kind = .function) (hdx : (xn == ("__debug__" : Str)) = false) (hk : k ≠ 0) (hI : IntsAre its.toList ns) (hS : S news)
    (fin : ∀ ys, IntsAre ys (ns.map (·.fmod k)) → Fin ys news) :
    CompRest prog w A h₀ L m env (.BinOp (.Name xn p1) .Mod (.Constant (.int k) kc p2) p3) xn scope cl s₂ S (fun i v => its[i]? = some v) Fin its.size 0 [] news := by
  have hlen : its.size = ns.length := by rw [← hI.length, Array.length_toList]
  have key : ∀ (j i : Nat) (ys : List Value), i + j = its.size → IntsAre ys ((ns.take i).map (·.fmod k)) → CompRest prog w A h₀ L m env (.BinOp (.Name xn p1) .Mod (.Constant (.int k) kc p2) p3) xn scope cl s₂ S (fun i v => its[i]? = some v) Fin j i ys news := by
    intro j
    induction j with
    | zero =>
      intro i ys hi hy
      refine CompRest.zero (fin ys ?_)
      rw [show i = ns.length by omega, List.take_length] at hy
      exact hy
    | succ j ih =>
      intro i ys hi hy
      refine CompRest.succ ?_
      intro v I oI C oC D m₂ h tk E' hv hC hm F N off ne
      obtain ⟨n, t, hn, rfl⟩ := ints_get hI i v (by rw [Array.getElem?_toList]; exact hv)
      have hNs : h.Ns C m₂ := hC.ns (N (C, oC) (List.mem_cons_of_mem _ List.mem_cons_self)).1
      refine wpAny_BinOp ?_
      refine wpAny_Name (wpAny_loadName_local (by show (relabel scope _).kind = .function; simpa [relabel] using hkind) (lookup_relabel_local hx) hNs hm ?_) hdx
      refine wpAny_Constant_int ?_
      refine mod_int' hk ?_
      refine ⟨h, _, news, rfl, F, N, off, hS, ih (i + 1) _ (by omega) ?_⟩
      rw [List.take_add_one, hn, List.map_append]
      exact ints_snoc hy
  exact key its.size 0 [] (by omega) (by simpa using IntsAre.nil)
theorem call_bytesK {l : Addr} {vs : List Value} {ns : List Int} {news : List (Addr × Obj)} {Q : Value → Shared → Prop} (F : Fr h₀ L s.heap m) (N : News h₀ L s.heap news) (hl : s.heap.IsList l vs.toArray) (hi : IntsAre vs ns) (hr : ∀ n ∈ ns, 0 ≤ n ∧ n < 256) (hz : vs.length ≤ sizeLine) (hh : A.handled = none)
    (h : ∀ t h' tk, Fr h₀ L h' m → News h₀ L h' news → Q (.bytes (byteArr ns) t) { s with heap := h', toks := tk }) : wpAny (model prog w) A (call (.type "bytes") [.ref l]) Q E s :=
  call_bytes_ints hl hi hr hz hh fun h' t tk hk => h t h' tk (F.keeps hk) (N.grown hk)
end
end Mine
end

section
open PySem PySem.W PyProof.Rows Mine PySem.Calls PySem.Spec PyProof.V
set_option maxRecDepth 100000
set_option maxHeartbeats 8000000
namespace Mine
/-- asked and answered; what is made behind it by a word of one's own -/
abbrev CtrQP (w : World) (mean : ExcName → Option Value) (mg mb : Str → Option Value) (ch ws : Value) (news : List (Addr × Obj)) (Post : List (Addr × Obj) → Prop) (r : Str) : Prop :=
  ∀ (p : Program) (loose : List Str) (dp un : Nat) (gd : Option (List Code)) (cn : Str) (cs : Scope) (a : Addr) (ccd : Value) (cl : List (Str × Addr)) (A₀ : Around) (h₀ : Heap) (L : Addr) (m : Str → Option Value) (s : Shared) (Q E : Value → Shared → Prop),
    Below A₀ h₀ [] h₀ → Fr h₀ L s.heap m → (hd.heap_39 w.params).In h₀ → News h₀ L s.heap news → Top p loose mean mg mb h₀ → cs.kind = .function →
    dp + 40 < recursionLimit → un + 400 < cLine →
    (∀ t h' tk news', Post news' → Fr h₀ L h' m → News h₀ L h' news' → Q (.str r t) { s with heap := h', toks := tk }) →
      wpAny (model PySem.Challenge.rw_dm0047_01.row.prog w) (ktrTop dp un gd cn cs L a ccd cl []) (call (.ref 29) [ch, ws]) Q E s
abbrev InOkP (w : World) (ch ws : Value) (news : List (Addr × Obj)) (Post : List (Addr × Obj) → Prop) (b : Bool) : Prop :=
  ∀ (A : Around) (g : Heap) (L : Addr) (m : Str → Option Value) (s : Shared) (Q E : Value → Shared → Prop), A.handled = none → A.units + 100 < cLine → Fr g L s.heap m → News g L s.heap news →
    (∀ h' tk news', Post news' → Fr g L h' m → News g L h' news' → Q (.bool b) { s with heap := h', toks := tk }) → wpAny (model PySem.Challenge.rw_dm0047_01.row.prog w) A (compareOp .In ch ws) Q E s
end Mine
local macro_rules | `(tactic| k_room) => `(tactic| first | ((try simp only [depth_mark, depth_under_make, depth_under_kw, depth_in1, depth_deeper, depth_caller]); decide) | ((try simp only [depth_mark, depth_under_make, depth_under_kw, depth_in1, depth_deeper, depth_caller]); (try dsimp only); omega))
local macro_rules | `(tactic| k_units) => `(tactic| first | exact Nat.le_of_ble_eq_true rfl | ((try simp only [units_in1, units_deeper, Around.mark_units, units_caller]); (try dsimp only); omega))
local macro_rules | `(tactic| walk_at "compareOp In") => `(tactic| (k_here; refine stop_in ?_))
local macro_rules | `(tactic| walk_at "exec Try") => `(tactic| (k_here; refine stop_in ?_))
theorem Mine.asked_yesP {w : World} {mean : ExcName → Option Value} {mg mb : Str → Option Value} {ch ws : Value} {news : List (Addr × Obj)} {Post : List (Addr × Obj) → Prop} (hIn : InOkP w ch ws news Post true) : CtrQP w mean mg mb ch ws news Post (Str.ofString "yes") := by
  dsimp only [CtrQP]
  k_fill
  intros
  rename_i hret
  refine wpAny_call ?_
  k_dflt (refine' code_defX0 ?k1 ?k2 ?k3 ?k4 ?k5 ?kA ?k6 ?k7 ?k8 ?k9 ?kB ?_ ?cK ?c2 ?c3 ?c4 ?c5; (case kA => exact rfl); (case k2 => k_asm); (case k1 => k_asm); (case k3 => k_asm); (case k4 => k_asm); (case k5 => k_asm); (case k6 => k_is); (case k7 => k_is); (case k8 => k_room); (case k9 => exact BindsTo.of_eq rfl); (case kB => exact locs rfl); (case cK => assumption); (case c2 => exact rfl); (case c3 => exact rfl); (case c4 => exact rfl); (case c5 => decide); k_whole; intro g' L' h' FG' F' N' B' X' T' D'; (try dsimp only); (try k_lift B'); (try k_fold))
  k_steps
  refine stop_out ?_
  refine wpAny_Try_except ?_
  k_steps
  refine stop_out ?_
  refine' hIn _ _ _ _ _ _ _ rfl (by k_units) (by k_asm) (by k_asm) ?_
  intro h9 tk9 news9 hP9 F9 N9
  k_steps
  exact hret _ _ _ _ hP9 (by assumption) (by assumption)
theorem Mine.asked_noP {w : World} {mean : ExcName → Option Value} {mg mb : Str → Option Value} {ch ws : Value} {news : List (Addr × Obj)} {Post : List (Addr × Obj) → Prop} (hIn : InOkP w ch ws news Post false) : CtrQP w mean mg mb ch ws news Post (Str.ofString "no") := by
  dsimp only [CtrQP]
  k_fill
  intros
  rename_i hret
  refine wpAny_call ?_
  k_dflt (refine' code_defX0 ?k1 ?k2 ?k3 ?k4 ?k5 ?kA ?k6 ?k7 ?k8 ?k9 ?kB ?_ ?cK ?c2 ?c3 ?c4 ?c5; (case kA => exact rfl); (case k2 => k_asm); (case k1 => k_asm); (case k3 => k_asm); (case k4 => k_asm); (case k5 => k_asm); (case k6 => k_is); (case k7 => k_is); (case k8 => k_room); (case k9 => exact BindsTo.of_eq rfl); (case kB => exact locs rfl); (case cK => assumption); (case c2 => exact rfl); (case c3 => exact rfl); (case c4 => exact rfl); (case c5 => decide); k_whole; intro g' L' h' FG' F' N' B' X' T' D'; (try dsimp only); (try k_lift B'); (try k_fold))
  k_steps
  refine stop_out ?_
  refine wpAny_Try_except ?_
  k_steps
  refine stop_out ?_
  refine' hIn _ _ _ _ _ _ _ rfl (by k_units) (by k_asm) (by k_asm) ?_
  intro h9 tk9 news9 hP9 F9 N9
  k_steps
  exact hret _ _ _ _ hP9 (by assumption) (by assumption)
namespace Mine
theorem asked_bP {w : World} {mean : ExcName → Option Value} {mg mb : Str → Option Value} {ch ws : Value} {news : List (Addr × Obj)} {Post : List (Addr × Obj) → Prop} {b : Bool} (hIn : InOkP w ch ws news Post b) : CtrQP w mean mg mb ch ws news Post (if b then Str.ofString "yes" else Str.ofString "no") := by
  cases b
  · exact asked_noP hIn
  · exact asked_yesP hIn
theorem asked_b {w : World} {mean : ExcName → Option Value} {mg mb : Str → Option Value} {ch ws : Value} {news : List (Addr × Obj)} {b : Bool} (hIn : InOk w ch ws news news b) : CtrQ w mean mg mb ch ws news news (if b then Str.ofString "yes" else Str.ofString "no") := by
  cases b
  · exact asked_no hIn
  · exact asked_yes hIn
section
variable {w : World} {news : List (Addr × Obj)}
theorem ok_str {y x : Str} {u t : Tok} : InOk w (.str y u) (.str x t) news news (stands x y) := fun A g L m s Q E _ _ F N h => in_str (h _ _ F N)
theorem ok_list {y : Str} {u : Tok} {l : Addr} {vs : List Value} {es : List Str} {n : Nat} (hl : (l, W.listOf vs.toArray n) ∈ news) (hS : StrsAre vs es) : InOk w (.str y u) (.ref l) news news (es.any (· == y)) :=
  fun A g L m s Q E _ _ F N h => in_list_strs (News.isList N hl) hS (h _ _ F N)
theorem ok_tuple {y : Str} {u : Tok} {l : Addr} {vs : List Value} {es : List Str} {n : Nat} (hl : (l, ({ cls := .type "tuple", data := .seq vs.toArray n } : Obj)) ∈ news) (hS : StrsAre vs es) : InOk w (.str y u) (.ref l) news news (es.any (· == y)) :=
  fun A g L m s Q E _ _ F N h => in_tuple_strs (News.isTup N hl) hS (h _ _ F N)
theorem ok_table {y : Str} {u : Tok} {D : Addr} {o : Obj} {kvs : List (Str × Value)} {es : List Str} {c : Str} (hD : (D, o) ∈ news) (lo : (D == sysModules) = false) (hd : o.IsDictOf (PySem.strKind PySem.Challenge.rw_dm0047_01.row.prog w) kvs) (hf : FlatPairs PyData.str kvs (putAll PyData.str (fun k => k) (fun _ => PyData.str c) (es.filter fun _ => true))) : InOk w (.str y u) (.ref D) news news (es.any (· == y)) :=
  fun A g L m s Q E _ _ F N h => in_table lo (N _ hD).1 hd hf (h _ _ F N)
/-- how a list's iterator stands behind a search -/
def IterAt (I l : Addr) (k n : Nat) (rest : List (Addr × Obj)) (news' : List (Addr × Obj)) : Prop :=
  ∃ oI, news' = (I, oI) :: rest ∧ oI.cls = .type "list_iterator" ∧ ((k < n ∧ oI.data = .fields #[.ref l, .int ((k + 1 : Nat) : Int) 0]) ∨ (k = n ∧ ∃ i, oI.data = .fields #[.none, .int i 0]))
theorem ok_iter {y : Str} {u : Tok} {I l : Addr} {oI : Obj} {vs : List Value} {ss : List Str} {n : Nat} {rest : List (Addr × Obj)} (hc : oI.cls = .type "list_iterator") (hdI : oI.data = .fields #[.ref l, .int 0 0]) (hl : (l, W.listOf vs.toArray n) ∈ rest) (hS : StrsAre vs ss) (hoff : ∀ q ∈ rest, q.1 ≠ I) :
    InOkP w (.str y u) (.ref I) ((I, oI) :: rest) (IterAt I l (ss.findIdx (· == y)) ss.length rest) (decide (ss.findIdx (· == y) < ss.length)) := by
  intro A g L m s Q E hh _ F N h
  have hI := N (I, oI) List.mem_cons_self
  have hne : l ≠ I := hoff _ hl
  refine in_iter hh hne hS ⟨oI, hI.1, hc, hdI⟩ (News.isList N (List.mem_cons_of_mem _ hl)) fun h' hx h1 h2 => ?_
  have F' : Fr g L h' m := ⟨F.ns.at' fun o e => hx L o (Ne.symm hI.2.1) e, fun b o e => hx b o (fun q => by rw [q, hI.2.2] at e; cases e) (F.keep b o e), F.above⟩
  have Nr : ∀ q ∈ rest, h'.get? q.1 = some q.2 ∧ q.1 ≠ L ∧ g.get? q.1 = none := fun q hq => by
    have n := N q (List.mem_cons_of_mem _ hq)
    exact ⟨hx _ _ (hoff q hq) n.1, n.2⟩
  have hle : ss.findIdx (· == y) ≤ ss.length := List.findIdx_le_length
  rcases Nat.lt_or_eq_of_le hle with hlt | heq
  · obtain ⟨o, ho, hoc, hod⟩ := h1 hlt
    exact h h' _ _ ⟨o, rfl, hoc, .inl ⟨hlt, hod⟩⟩ F' fun q hq => by
      rcases List.mem_cons.mp hq with rfl | hq
      · exact ⟨ho, hI.2⟩
      · exact Nr q hq
  · obtain ⟨o, i, ho, hoc, hod⟩ := h2 heq
    exact h h' _ _ ⟨o, rfl, hoc, .inr ⟨heq, i, hod⟩⟩ F' fun q hq => by
      rcases List.mem_cons.mp hq with rfl | hq
      · exact ⟨ho, hI.2⟩
      · exact Nr q hq
theorem ok_range {i a b c : Int} {k t u v : Tok} {r : Addr} (hr : (r, ({ cls := .type "range", data := .fields #[.int a t, .int b u, .int c v] } : Obj)) ∈ news) : InOk w (.int i k) (.ref r) news news (Builtin.Range.rangePlace? a b c i).isSome :=
  fun A g L m s Q E _ _ F N h => in_range_int (N _ hr).1 (h _ _ F N)
theorem ok_bytes {i : Int} {k t : Tok} {b : Array UInt8} (h0 : 0 ≤ i) (h1 : i < 256) : InOk w (.int i k) (.bytes b t) news news (b.contains i.toNat.toUInt8) := fun A g L m s Q E _ _ F N h => in_bytes_int h0 h1 (h _ _ F N)
theorem x_bytes_int {i : Int} {k t : Tok} {b : Array UInt8} (h01 : i < 0 ∨ 256 ≤ i) : InX w (.int i k) (.bytes b t) news "ValueError" (Str.ofString "byte must be in range(0, 256)") := fun A g L m s Q E hh _ F N h => in_bytes_int_x h01 hh h
theorem x_bytes_str {y : Str} {k t : Tok} {b : Array UInt8} : InX w (.str y k) (.bytes b t) news "TypeError" (Str.ofString "a bytes-like object is required, not 'str'") := fun A g L m s Q E hh _ F N h => in_bytes_str_x hh h
theorem x_int {y : Str} {k t : Tok} {i : Int} : InX w (.str y k) (.int i t) news "TypeError" (Str.ofString "argument of type 'int' is not iterable") := fun A g L m s Q E hh _ F N h => in_int_x hh h
theorem x_str_int {x : Str} {k t : Tok} {i : Int} : InX w (.int i k) (.str x t) news "TypeError" (Str.ofString "'in <string>' requires string as left operand, not int") := fun A g L m s Q E hh _ F N h => in_str_x no_text_eq_int hh (by decide +kernel) h
theorem x_str_none {x : Str} {t : Tok} : InX w .none (.str x t) news "TypeError" (Str.ofString "'in <string>' requires string as left operand, not NoneType") := fun A g L m s Q E hh _ F N h => in_str_x no_text_eq_none hh (by decide +kernel) h
theorem x_str_bytes {x : Str} {k t : Tok} {b : Array UInt8} : InX w (.bytes b k) (.str x t) news "TypeError" (Str.ofString "'in <string>' requires string as left operand, not bytes") := fun A g L m s Q E hh _ F N h => in_str_x no_text_eq_bytes hh (by decide +kernel) h
theorem x_str_list {x : Str} {t : Tok} {l : Addr} {its : Array Value} {n : Nat} (hl : (l, W.listOf its n) ∈ news) : InX w (.ref l) (.str x t) news "TypeError" (Str.ofString "'in <string>' requires string as left operand, not list") := fun A g L m s Q E hh _ F N h => in_str_list_x (News.isList N hl) hh h
end
end Mine
end

section
open PySem PySem.W PyProof.Rows
namespace Mine
section
variable {w : World} {mean : ExcName → Option Value} {mg mb : Str → Option Value} {ch ws : Value} {news news' : List (Addr × Obj)} {r : Str} {p : Program} {loose : List Str} {dp un : Nat} {gd : Option (List Code)} {cn : Str} {cs : Scope} {a : Addr} {ccd : Value} {cl : List (Str × Addr)} {A₀ : Around} {h₀ : Heap} {L : Addr} {m : Str → Option Value} {s : Shared} {Q E : Value → Shared → Prop}
theorem ask_at (hC : ∀ mean mg mb, CtrQ w mean mg mb ch ws news news' r) (F : Fr h₀ L s.heap m) (N : News h₀ L s.heap news) (B : Below A₀ h₀ [] h₀) (X : (hd.heap_39 w.params).In h₀) (T : Top p loose mean mg mb h₀) (hk : cs.kind = .function) (hdp : dp + 40 < recursionLimit) (hun : un + 400 < cLine)
    (h : ∀ t h' tk, Fr h₀ L h' m → News h₀ L h' news' → Q (.str r t) { s with heap := h', toks := tk }) :
    wpAny (model PySem.Challenge.rw_dm0047_01.row.prog w) (ktrTop dp un gd cn cs L a ccd cl []) (call (.ref 29) [ch, ws]) Q E s := hC mean mg mb _ _ _ _ _ _ _ _ _ _ _ _ _ _ _ _ _ B F X N T hk hdp hun h
theorem ask_atP {Post : List (Addr × Obj) → Prop} (hC : ∀ mean mg mb, CtrQP w mean mg mb ch ws news Post r) (F : Fr h₀ L s.heap m) (N : News h₀ L s.heap news) (B : Below A₀ h₀ [] h₀) (X : (hd.heap_39 w.params).In h₀) (T : Top p loose mean mg mb h₀) (hk : cs.kind = .function) (hdp : dp + 40 < recursionLimit) (hun : un + 400 < cLine)
    (h : ∀ t h' tk news', Post news' → Fr h₀ L h' m → News h₀ L h' news' → Q (.str r t) { s with heap := h', toks := tk }) :
    wpAny (model PySem.Challenge.rw_dm0047_01.row.prog w) (ktrTop dp un gd cn cs L a ccd cl []) (call (.ref 29) [ch, ws]) Q E s := hC mean mg mb _ _ _ _ _ _ _ _ _ _ _ _ _ _ _ _ _ B F X N T hk hdp hun h
theorem ctr_at {outer : List Env} {base : Heap} {f : Addr} {vs : List Value} {R : Tok → Value} (hC : ∀ mean mg mb, Ctr1 w mean mg mb f news vs R) (F : Fr h₀ L s.heap m) (N : News h₀ L s.heap news) (B : Below A₀ base outer h₀) (X : (hd.heap_39 w.params).In h₀) (T : Top p loose mean mg mb h₀) (hk : cs.kind = .function) (hdp : dp + 9 < recursionLimit) (hun : un + 99 < cLine)
    (h : CbRet h₀ L m news s Q R) :
    wpAny (model PySem.Challenge.rw_dm0047_01.row.prog w) (ktrTop dp un gd cn cs L a ccd cl outer) (call (.ref f) vs) Q E s := hC mean mg mb _ _ _ _ _ _ _ _ _ _ _ _ _ _ _ _ _ _ _ B F X N T hk hdp hun h
end
theorem strs_app : ∀ {vs ws : List Value} {ss ts : List Str}, StrsAre vs ss → StrsAre ws ts → StrsAre (vs ++ ws) (ss ++ ts)
  | _, _, _, _, .nil, h => h
  | _, _, _, _, .cons y t r, h => .cons y t (strs_app r h)
theorem piece_of {vs : List Value} {ss : List Str} {i : Nat} {v : Value} {a b c d : Str} {t1 t2 t3 t4 : Tok} (hS : StrsAre vs ss) (hv : (vs ++ [Value.str a t1, Value.str b t2, Value.str c t3, Value.str d t4]).toArray[i]? = some v) : ∃ y ty, v = Value.str y ty ∧ y ∈ ss ++ [a, b, c, d] := by
  have hPS := strs_app hS (.cons a t1 (.cons b t2 (.cons c t3 (.cons d t4 .nil))))
  rw [List.getElem?_toArray] at hv
  have hi : i < (ss ++ [a, b, c, d]).length := by
    rw [← hPS.length]
    exact (List.getElem?_eq_some_iff.mp hv).1
  obtain ⟨y, ty, hy, hvy⟩ := strs_atS hPS i hi
  exact ⟨y, ty, Option.some.inj (hv.symm.trans hvy), List.mem_of_getElem? hy⟩
def foreign : List Str := [Str.ofString "ba", Str.ofString "\t", Str.ofString "c", Str.ofString "  "]
theorem foreign_len : ∀ y ∈ foreign, y.length ≤ 2 := by decide +kernel
theorem ok_listB {w : World} {news : List (Addr × Obj)} {y : Str} {u : Tok} {l : Addr} {vs : List Value} {es : List Str} {n : Nat} {b : Bool} (hb : es.any (· == y) = b) (hl : (l, W.listOf vs.toArray n) ∈ news) (hS : StrsAre vs es) : InOk w (.str y u) (.ref l) news news b := hb ▸ ok_list hl hS
theorem ok_tupleB {w : World} {news : List (Addr × Obj)} {y : Str} {u : Tok} {l : Addr} {vs : List Value} {es : List Str} {n : Nat} {b : Bool} (hb : es.any (· == y) = b) (hl : (l, ({ cls := .type "tuple", data := .seq vs.toArray n } : Obj)) ∈ news) (hS : StrsAre vs es) : InOk w (.str y u) (.ref l) news news b := hb ▸ ok_tuple hl hS
theorem ok_tableB {w : World} {news : List (Addr × Obj)} {y : Str} {u : Tok} {D : Addr} {o : Obj} {kvs : List (Str × Value)} {es : List Str} {c : Str} {b : Bool} (hb : es.any (· == y) = b) (hD : (D, o) ∈ news) (lo : (D == sysModules) = false) (hd : o.IsDictOf (PySem.strKind PySem.Challenge.rw_dm0047_01.row.prog w) kvs) (hf : PyProof.V.FlatPairs PyData.str kvs (putAll PyData.str (fun k => k) (fun _ => PyData.str c) (es.filter fun _ => true))) : InOk w (.str y u) (.ref D) news news b := hb ▸ ok_table hD lo hd hf
section
variable {prog : Program} {w : World} {A : Around} {E : Value → Shared → Prop} {s : Shared} {h₀ : Heap} {L : Addr} {m : Str → Option Value} {news : List (Addr × Obj)} {Q : Value → Shared → Prop}
theorem tupleK {l : Addr} {items : Array Value} (F : Fr h₀ L s.heap m) (N : News h₀ L s.heap news) (hl : s.heap.IsList l items) (hsz : items.size ≤ sizeLine)
    (h : ∀ T h', Fr h₀ L h' m → News h₀ L h' ((T, ({ cls := .type "tuple", data := .seq items } : Obj)) :: news) → (∀ q ∈ news, q.1 < T) → Q (.ref T) { s with heap := h' }) : wpAny (model prog w) A (call (.type "tuple") [.ref l]) Q E s := by
  refine call_tuple_list (hsz := hsz) hl fun h' hk => ?_
  have F' : Fr h₀ L h' m := F.keeps hk
  have N' : News h₀ L h' news := N.grown hk
  exact h _ _ (F'.push _) (News.push F' N' _) fun q hq => Heap.lt_size (N' q hq).1
theorem iterK {l : Addr} {items : Array Value} (F : Fr h₀ L s.heap m) (N : News h₀ L s.heap news) (hl : s.heap.IsList l items)
    (h : ∀ T h', Fr h₀ L h' m → News h₀ L h' ((T, ({ cls := .type "list_iterator", data := .fields #[.ref l, .int 0 0] } : Obj)) :: news) → (∀ q ∈ news, q.1 < T) → Q (.ref T) { s with heap := h' }) : wpAny (model prog w) A (call (.builtin "iter") [.ref l]) Q E s := by
  refine Calls.call_function_entry (by decide +kernel) (by decide +kernel) kdk_entry_iter (kdk_args_iter _) ?_
  unfold Builtin.«iter»
  refine wpAny_bind (m := someArgs "iter" 1 2 _) (wpAny_of_eq (a := [Value.ref l]) (by first | rfl | kernel_rfl!) ?_)
  refine wpAny_bind (wpAny_pyIter_list hl (wpAny_pure ⟨_, rfl, ?_⟩))
  exact h _ _ (F.push _) (News.push F N _) fun q hq => Heap.lt_size (N q hq).1
end
theorem ok_iterB {w : World} {y : Str} {u : Tok} {I l : Addr} {oI : Obj} {vs : List Value} {ss : List Str} {n k : Nat} {rest : List (Addr × Obj)} {b : Bool} (hk : ss.findIdx (· == y) = k) (hb : decide (k < ss.length) = b) (hc : oI.cls = .type "list_iterator") (hdI : oI.data = .fields #[.ref l, .int 0 0]) (hl : (l, W.listOf vs.toArray n) ∈ rest) (hS : StrsAre vs ss) (hoff : ∀ q ∈ rest, q.1 ≠ I) :
    InOkP w (.str y u) (.ref I) ((I, oI) :: rest) (IterAt I l k ss.length rest) b := by
  subst hk hb; exact ok_iter hc hdI hl hS hoff
theorem iter_st {h₀ h : Heap} {L I l : Addr} {oI : Obj} {rest : List (Addr × Obj)} {k n : Nat} (N : News h₀ L h ((I, oI) :: rest)) (hc : oI.cls = .type "list_iterator") (hd : (k < n ∧ oI.data = .fields #[.ref l, .int ((k + 1 : Nat) : Int) 0]) ∨ (k = n ∧ ∃ i, oI.data = .fields #[.none, .int i 0])) :
    (k < n → h.IsListIter I l (k + 1)) ∧ (k = n → IterEnd h I) := by
  refine ⟨fun hlt => ?_, fun he => ?_⟩
  · rcases hd with ⟨_, hd⟩ | ⟨he, _⟩
    · exact ⟨oI, (N _ List.mem_cons_self).1, hc, hd⟩
    · omega
  · rcases hd with ⟨hlt, _⟩ | ⟨_, i, hd⟩
    · omega
    · exact ⟨oI, i, (N _ List.mem_cons_self).1, hc, hd⟩
/-- what is new is not the table of the modules -/
theorem not_sys {p : Program} {loose : List Str} {mean : ExcName → Option Value} {mg mb : Str → Option Value} {h₀ : Heap} {D : Addr} (T : Top p loose mean mg mb h₀) (hi : importsNone p = true) (hD : h₀.get? D = none) : (D == sysModules) = false := by
  rw [beq_eq_false_iff_ne]
  rintro rfl
  obtain ⟨mm, ⟨o, es, ep, ho, _⟩, _⟩ := (T.seer hi).mods
  rw [hD] at ho; cases ho
/-- the four texts that are blank signs alone, sign by sign -/
def blanks : List Str := [Str.ofString "", Str.ofString " ", Str.ofString "\t", Str.ofString " \t"]
theorem stands_blanks (y : Str) : stands (Str.ofString " \t") y = blanks.any (· == y) := by
  have hx : (Str.ofString " \t").cps.toList = [32, 9] := by decide +kernel
  have hxl : (Str.ofString " \t").length = 2 := by decide +kernel
  have hb : blanks = [⟨#[]⟩, ⟨#[32]⟩, ⟨#[9]⟩, ⟨#[32, 9]⟩] := by decide +kernel
  have ext : ∀ (z : Str), (z == y) = (z.cps.toList == y.cps.toList) := fun z => by
    rw [Bool.eq_iff_iff, beq_iff_eq, beq_iff_eq]
    exact ⟨fun e => by rw [e], fun e => Str.ext' (Array.toList_inj.mp e)⟩
  have hyl : y.length = y.cps.toList.length := by rw [Array.length_toList]; rfl
  rw [Bool.eq_iff_iff, stands_iff, hx, hxl, hb]
  simp only [List.any_cons, List.any_nil, Bool.or_false, ext]
  rw [hyl]
  generalize y.cps.toList = ys
  constructor
  · rintro ⟨i, h1, h2⟩
    match ys, h1, h2 with
    | [], _, _ => simp
    | [a], h1, h2 =>
      have := h2 0 (by simp)
      have hi : i = 0 ∨ i = 1 := by simp at h1; omega
      rcases hi with rfl | rfl <;> simp at this <;> simp [← this]
    | [a, b], h1, h2 =>
      have e0 := h2 0 (by simp)
      have e1 := h2 1 (by simp)
      have hi : i = 0 := by simp at h1; omega
      subst hi
      simp at e0 e1
      simp [← e0, ← e1]
    | a :: b :: c :: r, h1, h2 => simp at h1; omega
  · intro h
    simp only [Bool.or_eq_true, beq_iff_eq] at h
    rcases h with h | h | h | h
    · subst h; exact ⟨0, by simp, fun j hj => by simp at hj⟩
    · subst h; exact ⟨0, by simp, fun j hj => by
        have : j = 0 := by simpa using hj
        subst this; rfl⟩
    · subst h; exact ⟨1, by simp, fun j hj => by
        have : j = 0 := by simpa using hj
        subst this; rfl⟩
    · subst h; exact ⟨0, by simp, fun j hj => by
        have : j = 0 ∨ j = 1 := by simp at hj; omega
        rcases this with rfl | rfl <;> rfl⟩
theorem isnot_eq {M : Model} {A : Around} {E : Value → Shared → Prop} {s : Shared} {Q : Value → Shared → Prop} {a b : Bool} (e : a = b) (h : Q (.bool false) s) : wpAny M A (compareOp .IsNot (.bool a) (.bool b)) Q E s := by
  subst e; exact wpAny_isNot_self rfl h
theorem ne_str_eq {prog : Program} {w : World} {A : Around} {E : Value → Shared → Prop} {s : Shared} {x y : Str} {t u : Tok} {Q : Value → Shared → Prop} (e : x = y) (h : Q (.bool false) s) : wpAny (model prog w) A (compareOp .NotEq (.str x t) (.str y u)) Q E s := by
  subst e; exact ne_str (by simpa using h)
theorem any_idx (es : List Str) (y : Str) : (es.any (· == y)) = decide (es.findIdx (· == y) < es.length) := by
  rw [Bool.eq_iff_iff, List.any_eq_true, decide_eq_true_eq, List.findIdx_lt_length]
end Mine
end

section
open PySem PySem.W PyProof.Rows
namespace Mine
/-- the counting loop of law 01: values so far, their ints, the list's count, the running int -/
abbrev S4 := List Value × List Int × Nat × Int × Tok
/-- what is counted is just what lies below the running int -/
def P4 (lo hi st : Int) (c : S4) : Prop := IntsAre c.1 c.2.1 ∧ (∃ j : Nat, c.2.2.2.1 = lo + j * st ∧ c.2.1.length = j ∧ (c.2.2.2.1 = lo ∨ c.2.2.2.1 < hi + st)) ∧ (∀ k : Int, k ∈ c.2.1 ↔ (lo ≤ k ∧ k < c.2.2.2.1 ∧ k < hi ∧ (k - lo) % st = 0))
theorem p4_zero {lo hi st : Int} {t : Tok} : P4 lo hi st ([], [], 0, lo, t) := by
  refine ⟨.nil, ⟨0, by simp, rfl, .inl rfl⟩, fun k => ?_⟩
  simp only [List.not_mem_nil, false_iff]
  omega
theorem p4_succ {lo hi st : Int} {vs : List Value} {ns : List Int} {n n' : Nat} {low : Int} {t t' u : Tok} (hst : 0 < st) (h : P4 lo hi st (vs, ns, n, low, t)) (hlt : low < hi) : P4 lo hi st (vs ++ [.int low u], ns ++ [low], n', low + st, t') := by
  obtain ⟨h1, ⟨j, hj, hl, _⟩, h3⟩ := h
  dsimp only at h1 hj hl h3
  refine ⟨ints_snoc h1, ⟨j + 1, ?_, by simp [hl], .inr (by dsimp only; omega)⟩, fun k => ?_⟩
  · dsimp only; rw [hj]; push_cast; rw [Int.add_mul, Int.one_mul]; omega
  · dsimp only
    rw [List.mem_append, List.mem_singleton, h3]
    constructor
    · rintro (⟨a, b, c, d⟩ | rfl)
      · exact ⟨a, by omega, c, d⟩
      · have hnn : 0 ≤ (j : Int) * st := Int.mul_nonneg (by omega) (by omega)
        refine ⟨by omega, by omega, hlt, ?_⟩
        rw [hj, show lo + (j : Int) * st - lo = j * st by omega]
        exact Int.mul_emod_left _ _
    · rintro ⟨a, b, c, d⟩
      rcases (show k < low ∨ low ≤ k by omega) with hk | hk
      · exact .inl ⟨a, hk, c, d⟩
      · right
        obtain ⟨q, hq⟩ := Int.dvd_of_emod_eq_zero d
        have hk2 : k = lo + q * st := by rw [Int.mul_comm] at hq; omega
        have h5 : (j : Int) * st ≤ q * st := by omega
        have h6 : q * st < (j + 1) * st := by rw [Int.add_mul, Int.one_mul]; omega
        have h7 : (j : Int) ≤ q := Int.le_of_mul_le_mul_right h5 hst
        have h8 : q < j + 1 := Int.lt_of_mul_lt_mul_right h6 (by omega)
        rw [hk2, hj, show q = (j : Int) by omega]
theorem p4_len {lo hi st : Int} {vs : List Value} {ns : List Int} {n : Nat} {low : Int} {t : Tok} (hst : 0 < st) (h : P4 lo hi st (vs, ns, n, low, t)) (hb : low ≤ lo + 50) : vs.length ≤ 50 := by
  obtain ⟨h1, ⟨j, hj, hl, _⟩, _⟩ := h
  dsimp only at h1 hj hl
  rw [h1.length, hl]
  have h5 : (j : Int) * 1 ≤ j * st := Int.mul_le_mul_of_nonneg_left (by omega) (by omega)
  omega
theorem p4_top {lo hi st : Int} {vs : List Value} {ns : List Int} {n : Nat} {low : Int} {t : Tok} (h : P4 lo hi st (vs, ns, n, low, t)) : low = lo ∨ low < hi + st := by
  obtain ⟨_, ⟨_, _, _, h⟩, _⟩ := h
  exact h
theorem p4_done {lo hi st : Int} {vs : List Value} {ns : List Int} {n : Nat} {low : Int} {t : Tok} (hst : 0 < st) (h : P4 lo hi st (vs, ns, n, low, t)) (hge : ¬ low < hi) (k : Int) : (Builtin.Range.rangePlace? lo hi st k).isSome = ns.any (· == k) := by
  obtain ⟨h1, _, h3⟩ := h
  dsimp only at h3
  have e : ns.any (· == k) = decide (k ∈ ns) := by
    rw [Bool.eq_iff_iff, List.any_eq_true, decide_eq_true_eq]
    exact ⟨fun ⟨x, hx, e⟩ => by simpa using (by simpa using e : x = k) ▸ hx, fun h => ⟨k, h, by simp⟩⟩
  rw [e, Bool.eq_iff_iff, decide_eq_true_eq, h3]
  unfold Builtin.Range.rangePlace?
  simp only [gt_iff_lt, hst, if_true]
  constructor
  · intro hs
    split at hs
    · rename_i hc
      simp only [Bool.and_eq_true, decide_eq_true_eq, beq_iff_eq] at hc
      exact ⟨hc.1.1, by omega, hc.1.2, hc.2⟩
    · cases hs
  · rintro ⟨a, b, c, d⟩
    rw [if_pos (by simp [a, c, d])]
    rfl
theorem int_of {vs : List Value} {ns : List Int} {i : Nat} {v : Value} {a : Int} {t : Tok} (hI : IntsAre vs ns) (hv : ([Value.int a t] ++ vs).toArray[i]? = some v) : ∃ n u, v = Value.int n u := by
  rw [List.getElem?_toArray] at hv
  obtain ⟨n, u, _, e⟩ := ints_get (.cons a t hI : IntsAre ([Value.int a t] ++ vs) (a :: ns)) i v hv
  exact ⟨n, u, e⟩
theorem any_idxI (ns : List Int) (k : Int) : (ns.any (· == k)) = decide (ns.findIdx (· == k) < ns.length) := by
  rw [Bool.eq_iff_iff, List.any_eq_true, decide_eq_true_eq, List.findIdx_lt_length]
theorem byte_any (ns : List Int) (hr : ∀ n ∈ ns, 0 ≤ n ∧ n < 256) {k : Int} (h0 : 0 ≤ k) (h1 : k < 256) : (byteArr ns).contains k.toNat.toUInt8 = ns.any (· == k) := by
  rw [Bool.eq_iff_iff, Array.contains_iff_mem, List.any_eq_true]
  unfold byteArr
  simp only [List.mem_toArray, List.mem_map]
  constructor
  · rintro ⟨n, hn, e⟩
    refine ⟨n, hn, ?_⟩
    have := hr n hn
    have e2 : n.toNat = k.toNat := by
      have := congrArg UInt8.toNat e
      simpa [Nat.mod_eq_of_lt (show n.toNat < 256 by omega), Nat.mod_eq_of_lt (show k.toNat < 256 by omega)] using this
    simp; omega
  · rintro ⟨n, hn, e⟩
    have : n = k := by simpa using e
    subst this
    exact ⟨n, hn, rfl⟩
end Mine
end

section
open PySem PySem.W PyProof.Rows PySem.Calls PySem.Spec
set_option maxRecDepth 100000
set_option linter.unusedVariables false
namespace Mine
section
variable {prog : Program} {w : World} {A : Around} {E : Value → Shared → Prop} {s : Shared}
abbrev OctAt (b : Array UInt8) : Nat → Value → Prop := fun i v => ∃ c u, b[i]? = some c ∧ v = .int (c.toNat : Int) u
theorem extend_bytes {R : Result → Shared → Prop} (hh : A.handled = none) (b : Array UInt8) (t : Tok) (S : Addr) (res : Value) (c₀ : Nat) (hS : s.heap.get? S = some { cls := .type "list", data := .seq #[] c₀ })
    (hR : ∀ h' tk acc' c', (∀ b o, b ≠ S → s.heap.get? b = some o → h'.get? b = some o) → h'.get? S = some { cls := .type "list", dict := none, data := .seq acc' c', slots := #[] } →
      ItemsOf (OctAt b) acc' b.size → R (.ok (.ret res)) { s with heap := h', toks := tk }) (hn : b.size ≤ sizeLine) :
    wpAny (model prog w) A.in1 (Builtin.List.listExtendWith (.ref S) (.bytes b t) res)
      (fun fin s' => match fin with | .done f => R (.ok f) s' | .again c' => c'.quiet = true ∧ codeAny (model prog w) A c' R s') (fun e s' => R (.error e) s') s := by
  have hSI : S ≠ s.heap.objs.size := Nat.ne_of_lt (Heap.lt_size hS)
  have hSf : S ∉ [s.heap.objs.size] := fun hm => hSI (List.mem_singleton.mp hm)
  unfold Builtin.List.listExtendWith
  refine wpAny_bind (wpAny_typeOf (T := "bytes") (v := .bytes b t) rfl ?_)
  have h1 : Builtin.List.listSameRef (.ref S) (.bytes b t) = false := rfl
  have h2 : (Value.type "bytes" == Value.type "list") = false := by decide
  have h3 : (Value.type "bytes" == Value.type "tuple") = false := by decide
  simp only [h1, h2, h3, Bool.or_false, Bool.false_eq_true, if_false]
  refine wpAny_bind (KBw.pyIter_bytes ?_)
  refine wpAny_bind (wpAny_holding ?_)
  unfold Builtin.List.listLengthHint
  refine wpAny_bind (wpAny_specialOf (T := "bytes") (v := .bytes b t) rfl FB.slot_bytes_len.lookup ?_)
  wp_delta
  refine wpAny_bind (wpAny_isInstance (T := "bytes") (v := .bytes b t) (b := true) rfl (by rw [isSubtype_type]; kernel_rfl) ?_)
  show wpAny _ _ (typeOf (Value.bytes b t) >>= _) _ _ _
  refine wpAny_bind (wpAny_typeOf (T := "bytes") (v := .bytes b t) rfl ?_)
  refine wpAny_pure ?_
  rw [if_neg (by decide)]
  refine wpAny_pure ⟨plainId_quiet PySem.F.plain_extend_loop _, codeAny_extend_loopS (KBw.walks (prog := prog) (w := w) (A := A.in1) hh s.heap.objs.size b t).toS hn _ hSf _ b.size 0 _ _ _ rfl (Nat.zero_le _) ⟨_, Heap.get?_push_size _ rfl, rfl, rfl⟩ (Heap.get?_push_of_some _ hS) (ItemsOf.nil _) fun s' acc' c' hm hS' hacc => ?_⟩
  rw [Moved.eq_with hm]
  refine hR s'.heap s'.toks acc' c' (fun b ob hb e => hm.heap b ob (fun hmem => ?_) (Heap.get?_push_of_some _ e)) hS' hacc
  rcases List.mem_cons.mp hmem with e' | hmem
  · exact hb e'
  · exact absurd (Heap.lt_size e) (by rw [List.mem_singleton.mp hmem]; exact Nat.lt_irrefl _)
theorem list_init_bytes {R : Result → Shared → Prop} (hh : A.handled = none) (b : Array UInt8) (t : Tok) (S : Addr) (hS : s.heap.get? S = some { cls := .type "list", data := .seq #[] })
    (hR : ∀ h' tk acc' c', (∀ b o, b ≠ S → s.heap.get? b = some o → h'.get? b = some o) → h'.get? S = some { cls := .type "list", dict := none, data := .seq acc' c', slots := #[] } →
      ItemsOf (OctAt b) acc' b.size → R (.ok (.ret .none)) { s with heap := h', toks := tk }) (hn : b.size ≤ sizeLine) :
    wpAny (model prog w) A.in1 (Builtin.«list.__init__» ⟨[.ref S, .bytes b t], []⟩)
      (fun fin s' => match fin with | .done f => R (.ok f) s' | .again c' => c'.quiet = true ∧ codeAny (model prog w) A c' R s') (fun e s' => R (.error e) s') s := by
  show wpAny _ _ (do let old ← Builtin.List.listItems (.ref S); Builtin.List.listUpdate (.ref S) (fun _ => #[]); letGo old.toList.reverse; Builtin.List.listExtendWith (.ref S) (.bytes b t) .none) _ _ s
  refine wpAny_bind ?_
  unfold Builtin.List.listItems
  refine wpAny_bind (wpAny_seqItems hS rfl (wpAny_pure ?_))
  show wpAny _ _ (updateSeq S (fun _ => #[]) >>= fun _ => letGo (#[] : Array Value).toList.reverse >>= fun _ => Builtin.List.listExtendWith (.ref S) (.bytes b t) .none) _ _ s
  refine wpAny_bind (wpAny_updateSeq hS rfl ?_)
  have hS₂ := Heap.get?_update_self (Obj.mapSeq (fun _ => (#[] : Array Value))) hS rfl
  have oth : ∀ b o, b ≠ S → s.heap.get? b = some o → (s.heap.update S (Obj.mapSeq (fun _ => (#[] : Array Value)))).get? b = some o :=
    fun b o hb e => (Heap.get?_update_other _ _ (Ne.symm hb)).trans e
  refine wpAny_bind (wpAny_letGo ?_)
  refine extend_bytes (hn := hn) hh b t S .none _ hS₂ fun h' tk acc' c' hk hS' hacc => ?_
  exact hR h' tk acc' c' (fun b o hb e => hk b o hb (oth b o hb e)) hS' hacc
theorem call_list_bytes {Q : Value → Shared → Prop} (hh : A.handled = none) (b : Array UInt8) (t : Tok)
    (hQ : ∀ h' tk acc' c', (∀ b o, s.heap.get? b = some o → h'.get? b = some o) →
      h'.get? s.heap.objs.size = some { cls := .type "list", dict := none, data := .seq acc' c', slots := #[] } → ItemsOf (OctAt b) acc' b.size → Q (.ref s.heap.objs.size) { s with heap := h', toks := tk }) (hn : b.size ≤ sizeLine) :
    wpAny (model prog w) A (call (.type "list") [.bytes b t]) Q E s := by
  refine callType_codes (Q₁ := fun obj s₁ => obj = .ref s.heap.objs.size ∧ s₁ = { s with heap := s.heap.push { cls := .type "list", data := .seq #[] } }) PySem.F.called_list (PySem.F.typeCall_list_1 _) PySem.F.entry_list_init
    (code_list_new _ ⟨rfl, rfl⟩) fun obj s₁ h₁ => ?_
  obtain ⟨rfl, rfl⟩ := h₁
  have hS : (s.heap.push { cls := .type "list", data := .seq #[] }).get? s.heap.objs.size = some { cls := .type "list", data := .seq #[] } := Heap.get?_push_size _ rfl
  refine ⟨⟨_, hS, rfl⟩, PySem.F.args_list_init_2 _ _, list_init_bytes (A := A.in1) (hn := hn) hh b t _ hS fun h' tk acc' c' hk hS' hacc => ?_⟩
  exact ⟨rfl, hQ h' tk acc' c' (fun b o e => hk b o (Nat.ne_of_lt (Heap.lt_size e)) (Heap.get?_push_of_some _ e)) hS' hacc⟩
end
theorem ints_of_get : ∀ (vs : List Value) (ns : List Int), vs.length = ns.length → (∀ (i : Nat) (v : Value), vs[i]? = some v → ∃ n t, ns[i]? = some n ∧ v = Value.int n t) → IntsAre vs ns
  | [], [], _, _ => .nil
  | v :: vs, n :: ns, hl, h => by
    obtain ⟨n', t, hn, rfl⟩ := h 0 v rfl
    cases Option.some.inj hn
    exact .cons _ _ (ints_of_get vs ns (by simpa using hl) fun i v hv => h (i + 1) v (by simpa using hv))
theorem byteArr_get {ns : List Int} (hr : ∀ n ∈ ns, 0 ≤ n ∧ n < 256) {i : Nat} {c : UInt8} (h : (byteArr ns)[i]? = some c) : ns[i]? = some (c.toNat : Int) := by
  unfold byteArr at h
  rw [List.getElem?_toArray, List.getElem?_map, Option.map_eq_some_iff] at h
  obtain ⟨n, hn, rfl⟩ := h
  have := hr n (List.mem_of_getElem? hn)
  rw [hn, Option.some.injEq]
  simp [Nat.mod_eq_of_lt (show n.toNat < 256 by omega)]
  omega
section
variable {prog : Program} {w : World} {A : Around} {E : Value → Shared → Prop} {s : Shared} {h₀ : Heap} {L : Addr} {m : Str → Option Value} {news : List (Addr × Obj)} {Q : Value → Shared → Prop}
/-- list(..) of bytes made out of ints -/
theorem listBytes_K {ns : List Int} {t : Tok} (hr : ∀ n ∈ ns, 0 ≤ n ∧ n < 256) (hz : ns.length ≤ sizeLine) (hh : A.handled = none) (F : Fr h₀ L s.heap m) (N : News h₀ L s.heap news)
    (h : ∀ T vs c h' tk, IntsAre vs ns → Fr h₀ L h' m → News h₀ L h' ((T, W.listOf vs.toArray c) :: news) → (∀ q ∈ news, q.1 < T) → Q (.ref T) { s with heap := h', toks := tk }) :
    wpAny (model prog w) A (call (.type "list") [.bytes (byteArr ns) t]) Q E s := by
  have hbl : (byteArr ns).size = ns.length := by simp [byteArr]
  refine call_list_bytes hh _ _ (fun h' tk acc' c' hk hS hacc => ?_) (by rw [hbl]; exact hz)
  refine h _ acc'.toList c' h' tk (ints_of_get _ _ ?_ ?_) (F.keeps hk) (fun q hq => ?_) (fun q hq => Heap.lt_size (N q hq).1)
  · rw [Array.length_toList, hacc.1, hbl]
  · intro i v hv
    obtain ⟨c, u, hc, rfl⟩ := hacc.2 i v (by simpa using hv)
    exact ⟨_, _, byteArr_get hr hc, rfl⟩
  · rcases List.mem_cons.mp hq with rfl | hq
    · exact ⟨by simpa using hS, Nat.ne_of_gt F.ns.lt, next_is_new F⟩
    · exact ⟨hk _ _ (N q hq).1, (N q hq).2⟩
/-- range(a, b, c) onto the ledger -/
theorem rangeK {a b c : Int} {t u v : Tok} (F : Fr h₀ L s.heap m) (N : News h₀ L s.heap news) (hc : c ≠ 0)
    (hp : Builtin.divisionGoesByPylong (b - a) c = false ∨ PySem.PylongRoom (model prog w) A s)
    (h : ∀ T t₁ u₁ v₁ h' tk, Fr h₀ L h' m → News h₀ L h' ((T, ({ cls := .type "range", data := .fields #[.int a t₁, .int b u₁, .int c v₁] } : Obj)) :: news) → (∀ q ∈ news, q.1 < T) → Q (.ref T) { s with heap := h', toks := tk }) :
    wpAny (model prog w) A (call (.type "range") [.int a t, .int b u, .int c v]) Q E s :=
  call_range_3 hc (h _ t u v _ _ (F.push _) (fun q hq => by
    rcases List.mem_cons.mp hq with rfl | hq
    · exact ⟨Heap.get?_push_size _ rfl, Nat.ne_of_gt F.ns.lt, next_is_new F⟩
    · exact ⟨Heap.get?_push_of_some _ (N q hq).1, (N q hq).2⟩) fun q hq => Heap.lt_size (N q hq).1) hp
theorem ok_rangeB {i a b c : Int} {k t u v : Tok} {r : Addr} {bb : Bool} (hb : (Builtin.Range.rangePlace? a b c i).isSome = bb) (hr : (r, ({ cls := .type "range", data := .fields #[.int a t, .int b u, .int c v] } : Obj)) ∈ news) : InOk w (.int i k) (.ref r) news news bb := hb ▸ ok_range hr
theorem ok_bytesB {i : Int} {k t : Tok} {b : Array UInt8} {bb : Bool} (h0 : 0 ≤ i) (h1 : i < 256) (hb : b.contains i.toNat.toUInt8 = bb) : InOk w (.int i k) (.bytes b t) news news bb := hb ▸ ok_bytes h0 h1
end
end Mine
end

section
open PySem PySem.W PyProof.Rows
namespace Mine
theorem octs_size (ns : List Int) : (byteArr ns).size = ns.length := by simp [byteArr]
theorem idx_named {vs : List Value} {ns : List Int} (_ : IntsAre vs ns) (k : Int) : ∃ f, ns.findIdx (· == k) = f := ⟨_, rfl⟩
theorem bit_named {vs : List Value} {ns : List Int} (_ : IntsAre vs ns) (k : Int) : ∃ b, decide (ns.findIdx (· == k) < ns.length) = b := ⟨_, rfl⟩
end Mine
end

section
open PySem PySem.W PyProof.Rows
namespace Mine
/-- a turn's end where the ledger may have grown: what is kept stands, the walked thing's own stands, nothing kept is the iterator -/
def InvEndG (h₀ : Heap) (L : Addr) (J : (Str → Option Value) → List (Addr × Obj) → Prop) (own : List (Addr × Obj)) (I : Addr) (s₁ s₂ : Shared) : Prop :=
  ∃ h' tk m' nx, s₂ = { s₁ with heap := h', toks := tk } ∧ Fr h₀ L h' m' ∧ News h₀ L h' nx ∧ (∀ p ∈ own, h'.get? p.1 = some p.2) ∧ (∀ p ∈ nx, p.1 ≠ I) ∧ J m' nx
def InvPostG (h₀ : Heap) (L : Addr) (J : (Str → Option Value) → List (Addr × Obj) → Prop) (own : List (Addr × Obj)) (I : Addr) (s₁ : Shared) (Q : Flow → Shared → Prop) (f : Flow) (s₂ : Shared) : Prop :=
  match f with
  | .ret v => Q (.ret v) s₂
  | .brk => Q .next s₂
  | _ => InvEndG h₀ L J own I s₁ s₂

section
variable {prog : Program} {w : World} {A : Around} {E : Value → Shared → Prop} {s : Shared} {env : Env} {h₀ : Heap} {x : Str} {body : List Stmt} {Q : Flow → Shared → Prop}

/-- what a state of one's own says of a frame and a ledger -/
def KstG {σ : Type} (Led : σ → List (Addr × Obj)) (ps : σ → List (Str × Value)) (x : Str) (stored : List Str) (m₀ : Str → Option Value) (P : σ → Prop) (m : Str → Option Value) (nx : List (Addr × Obj)) : Prop :=
  ∃ c : σ, nx = Led c ∧ (∀ p ∈ ps c, m p.1 = some p.2) ∧ (∀ z, z ≠ x → (∀ p ∈ ps c, z ≠ p.1) → stored.contains z = false → m z = m₀ z) ∧ P c

theorem kstG_end {σ : Type} {Led : σ → List (Addr × Obj)} {ps : σ → List (Str × Value)} {stored : List Str} {m₀ : Str → Option Value} {P : σ → Prop} (c : σ) {L I : Addr} {m' : Str → Option Value} {own news' : List (Addr × Obj)} {s₁ : Shared} {h' : Heap} {tk : Nat}
    (F : Fr h₀ L h' m') (N : News h₀ L h' news') (hn : ∀ p ∈ Led c, p ∈ news') (ho : ∀ p ∈ own, p ∈ news') (hI : ∀ p ∈ Led c, p.1 ≠ I) (hk : ∀ p ∈ ps c, m' p.1 = some p.2) (hr : ∀ z, z ≠ x → (∀ p ∈ ps c, z ≠ p.1) → stored.contains z = false → m' z = m₀ z) (hp : P c) :
    InvEndG h₀ L (KstG Led ps x stored m₀ P) own I s₁ { s₁ with heap := h', toks := tk } :=
  ⟨h', tk, m', Led c, rfl, F, fun p hp => N p (hn p hp), fun p hp => (N p (ho p hp)).1, hI, c, rfl, hk, hr, hp⟩

/-- a loop over a list that stands in the ledger or below; the ledger may grow -/
theorem list_loopG {σ : Type} {l : Addr} {its : Array Value} {m₀ : Str → Option Value}
    (Led : σ → List (Addr × Obj)) (ps : σ → List (Str × Value)) (stored : List Str) (P : Nat → σ → Prop) (c₀ : σ)
    (hh : A.handled = none) (hl : s.heap.IsList l its) (hlL : l ≠ env.locals) (hl₀ : h₀.get? l = none)
    (F : Fr h₀ env.locals s.heap m₀) (N : News h₀ env.locals s.heap (Led c₀)) (hk : ∀ p ∈ ps c₀, m₀ p.1 = some p.2) (hp : P 0 c₀)
    (turn : ∀ (c : σ) (i : Nat) (v : Value) (u : Str → Option Value) h tk I oI ol, i < its.size → its[i]? = some v → P i c → (∀ p ∈ Led c, p.1 ≠ I) → I ≠ l → (∃ n, ol.data = .seq its n) →
      Fr h₀ env.locals h (fun y => if y = x then some v else kstB (fun z => if stored.contains z then u z else m₀ z) (ps c) y) → News h₀ env.locals h (Led c ++ [(I, oI), (l, ol)]) →
      wpAny (model prog w) A (execs body env) (InvPostG h₀ env.locals (KstG Led ps x stored m₀ (P (i + 1))) [(I, oI), (l, ol)] I { s with heap := h, toks := tk } Q) E { s with heap := h, toks := tk })
    (done : ∀ (c : σ) (u : Str → Option Value) h tk, P its.size c → Fr h₀ env.locals h (fun y => if y = x then u y else kstB (fun z => if stored.contains z then u z else m₀ z) (ps c) y) → News h₀ env.locals h (Led c) → Q .next { s with heap := h, toks := tk }) :
    wpAny (model prog w) A (pyIter (.ref l)) (fun it s₂ => LoopAtV prog w A h₀ env x body Q E it s₂) E s := by
  have hlt : l < s.heap.objs.size := by obtain ⟨o, ho, _⟩ := hl; exact Heap.lt_size ho
  have hne : l ≠ s.heap.objs.size := Nat.ne_of_lt hlt
  refine wpAny_pyIter_list hl ?_
  let J : Nat → (Str → Option Value) → List (Addr × Obj) → Prop := fun i m nx => KstG Led ps x stored m₀ (P i) m nx
  refine ⟨s.heap.objs.size, [s.heap.objs.size, l], [s.heap.objs.size], its.size, _, _, m₀, Led c₀, J, rfl, Walks.list hh s.heap.objs.size l hne its, ?_, ?_, ?_, ?_, F.push _, (fun p hp => ⟨Heap.get?_push_of_some _ (N p hp).1, (N p hp).2⟩), ⟨c₀, rfl, hk, fun _ _ _ _ => rfl, hp⟩, ?_, ?_⟩
  · intro hm
    rcases List.mem_cons.mp hm with e | hm
    · exact absurd F.ns.lt (e ▸ Nat.lt_irrefl _)
    · exact hlL (List.mem_singleton.mp hm).symm
  · intro b hb
    rw [List.mem_singleton.mp hb]
    exact next_is_new F
  · intro p hp hI
    exact absurd (Heap.lt_size (N p hp).1) (List.mem_singleton.mp hI ▸ Nat.lt_irrefl _)
  · refine ⟨⟨_, Heap.get?_push_size _ rfl, rfl, rfl⟩, ?_⟩
    obtain ⟨o, ho, r⟩ := hl
    exact ⟨o, Heap.get?_push_of_some _ ho, r⟩
  · rintro i v m₁ news₁ s₁ own ⟨hh', tk', rfl⟩ hin hP ⟨c, rfl, h1, h2, hp'⟩ hoff hown hownAt hin' hSt F₁ N₁
    obtain ⟨⟨oI, hoI, cI, dI⟩, ⟨ol, hol, cl, nl, dl⟩⟩ := hSt
    have hI₀ : h₀.get? s.heap.objs.size = none := next_is_new F
    have mI : (s.heap.objs.size, oI) ∈ own := hin' _ List.mem_cons_self hI₀ _ hoI
    have ml : (l, ol) ∈ own := hin' _ (List.mem_cons_of_mem _ List.mem_cons_self) hl₀ _ hol
    have N₂ : News h₀ env.locals hh' (Led c ++ [(s.heap.objs.size, oI), (l, ol)]) := fun p hp => by
      rcases List.mem_append.mp hp with h | h
      · exact N₁ p (List.mem_append.mpr (.inr h))
      · rcases List.mem_cons.mp h with rfl | h
        · exact N₁ _ (List.mem_append.mpr (.inl mI))
        · rw [List.mem_singleton.mp h]; exact N₁ _ (List.mem_append.mpr (.inl ml))
    have hLI : ∀ p ∈ Led c, p.1 ≠ s.heap.objs.size := fun p hp e => hoff p hp (List.mem_singleton.mpr e)
    refine wpAny_mono (turn c i v m₁ hh' tk' s.heap.objs.size oI ol hin hP hp' hLI (Ne.symm hne) ⟨nl, dl⟩ (kst_fr h1 h2 F₁) N₂) (fun f s₂ p => ?_) fun _ _ e => e
    have fin : InvEndG h₀ env.locals (KstG Led ps x stored m₀ (P (i + 1))) [(s.heap.objs.size, oI), (l, ol)] s.heap.objs.size { s with heap := hh', toks := tk' } s₂ → LoopStepU h₀ env.locals [s.heap.objs.size] own (J (i + 1)) { s with heap := hh', toks := tk' } .next s₂ := by
      rintro ⟨h', tk, m', nx, e, F', N', ho, hI, hm⟩
      refine ⟨rfl, h', tk, m', nx, e, F', fun p hp => ?_, fun p hp hq => hI p hp (List.mem_singleton.mp hq), hm⟩
      rcases List.mem_append.mp hp with hp | hp
      · refine ⟨?_, (N₁ p (List.mem_append.mpr (.inl hp))).2⟩
        have hb := hown p hp
        have hcur := hownAt p hp
        rcases List.mem_cons.mp hb with e1 | e1
        · have : p = (s.heap.objs.size, oI) := by
            obtain ⟨pa, po⟩ := p
            simp only at e1 hcur
            subst e1
            rw [hoI] at hcur
            rw [Option.some.inj hcur]
          rw [this]; exact ho _ List.mem_cons_self
        · have e1 := List.mem_singleton.mp e1
          have : p = (l, ol) := by
            obtain ⟨pa, po⟩ := p
            simp only at e1 hcur
            subst e1
            rw [hol] at hcur
            rw [Option.some.inj hcur]
          rw [this]; exact ho _ (List.mem_cons_of_mem _ List.mem_cons_self)
      · exact N' p hp
    cases f with
    | ret v => exact .ret p
    | brk => exact .brk p
    | next => exact .next (fin p)
    | cont => exact .cont (fin p)
  · rintro h' tk m' news' F' N' _ ⟨c, rfl, h1, h2, hp'⟩
    exact done c m' h' tk hp' (kst_frOut h1 h2 F') N'
end
end Mine
end

section
open PySem PySem.W PyProof.Rows PySem.SeqAt
namespace Mine
section
variable {prog : Program} {w : World} {A : Around} {E : Value → Shared → Prop} {s : Shared} {a b : Addr} {its : Array Value} {Q : Value → Shared → Prop}
/-- two lists of the very same things: they differ not -/
theorem ne_same (ha : s.heap.IsList a its) (hb : s.heap.IsList b its) (hu : A.units < cLine) (h : Q (.bool false) s) : wpAny (model prog w) A (compareOp .NotEq (.ref a) (.ref b)) Q E s := by
  refine cmp_ofNotEq ?_
  refine RcNeAt.lists (e := fun _ => true) ha hb rfl hu (fun j h1 h2 => EqAt.same _) prog w E Q ?_
  have : (List.range its.size).all (fun _ => true) = true := by simp
  rw [this]; exact h
end
end Mine
end

section
open PySem PySem.W PyProof.Rows Mine
set_option maxRecDepth 100000
set_option maxHeartbeats 8000000
local macro_rules | `(tactic| walk_at "exec For Name Name cons nil") => `(tactic| (k_here; refine stop_in ?_))
local macro_rules | `(tactic| walk_at "subscriptTail Constant str BinOp str int") => `(tactic| (k_here; refine stop_in ?_))
local macro_rules | `(tactic| walk_at "subscriptTail List cons Slice ref ref") => `(tactic| (k_here; refine stop_in ?_))
local macro_rules | `(tactic| walk_at "subscriptTail List Slice ref ref") => `(tactic| (k_here; refine stop_in ?_))
local macro_rules | `(tactic| walk_at "call builtin:str.join cons nil") => `(tactic| (k_here; refine stop_in ?_))
local macro_rules | `(tactic| walk_at "binaryOp FloorDiv int int") => `(tactic| (refine floordiv_int (by decide) ?_ (Or.inl (PyProof.noPylong_of_log2 (by decide +kernel))); (try dsimp only)))
local macro_rules | `(tactic| walk_at "binaryOp Mod int int") => `(tactic| (refine mod_int' (by decide) ?_; (try dsimp only)))
local macro_rules | `(tactic| walk_at "call builtin:list.append cons nil") => `(tactic| (k_here; refine stop_in ?_))
local macro_rules | `(tactic| walk_at "InvEndN") => `(tactic| (refine stop_in ?_))
local macro_rules | `(tactic| walk_at "getMethod ref") => `(tactic| (k_here; (with_reducible show wpAny _ _ (getMethod (Value.ref _) (PySem.Str.ofString "append") _) _ _ _); k_dflt (refine' listMethod_K ?N ?m PySem.F.slot_list_append PySem.F.type_list_append ?_; (case N => k_asm); (case m => k_mem))))
local macro_rules | `(tactic| walk_at "callWith") => `(tactic| ((with_reducible show wpAny _ _ (callWith _ (Value.builtin _) [_] _ _) _ _ _); refine callWith_method1 ?_))
structure Mine.Go9 : Prop where
local macro_rules | `(tactic| walk_at "exec Assign") => `(tactic| ((rename Go9 => gg); refine stop_in ?_))
local macro_rules | `(tactic| walk_at "eval ListComp") => `(tactic| (k_here; refine stop_in ?_))
local macro_rules | `(tactic| walk_at "call type:range") => `(tactic| (k_here; (with_reducible show wpAny _ _ (call (Value.type "range") [_, _, _]) _ _ _); refine stop_in ?_))
local macro_rules | `(tactic| walk_at "call builtin:len") => `(tactic| (k_here; (with_reducible show wpAny _ _ (call (Value.builtin "len") [Value.ref _]) _ _ _); refine stop_in ?_))
local macro_rules | `(tactic| walk_at "call builtin:len") => `(tactic| (k_here; (with_reducible show wpAny _ _ (call (Value.builtin "len") [Value.bytes _ _]) _ _ _); refine stop_in ?_))
local macro_rules | `(tactic| walk_at "exec Assign cons DictComp") => `(tactic| (k_here; refine stop_in ?_))
local macro_rules | `(tactic| walk_at "binaryOp Add ref ref") => `(tactic| (k_here; refine stop_in ?_))
local macro_rules | `(tactic| walk_at "call type:bytes") => `(tactic| (k_here; refine stop_in ?_))
local macro_rules | `(tactic| walk_at "exec For Name BinOp") => `(tactic| (k_here; refine stop_in ?_))
structure Mine.Go8 : Prop where
local macro_rules | `(tactic| walk_at "pyIter ref") => `(tactic| (k_here; (fail_if_success (rename Go8 => hg8)); refine stop_in ?_))
local macro_rules | `(tactic| walk_at "InvPostG") => `(tactic| (refine stop_in ?_))
local macro_rules | `(tactic| walk_at "compareOp IsNot bool bool") => `(tactic| (k_here; refine stop_in ?_))
local macro_rules | `(tactic| walk_at "call ref") => `(tactic| (k_here; (with_reducible show wpAny _ _ (call (Value.ref 29) _) _ _ _); refine stop_in ?_))
local macro_rules | `(tactic| walk_at "call ref") => `(tactic| (k_here; (with_reducible show wpAny _ _ (call (Value.ref 36) _) _ _ _); refine stop_in ?_))
local macro_rules | `(tactic| walk_at "call ref") => `(tactic| (k_here; (with_reducible show wpAny _ _ (call (Value.ref 43) _) _ _ _); refine stop_in ?_))
local macro_rules | `(tactic| walk_at "compareOp NotEq str str") => `(tactic| (k_here; refine stop_in ?_))
local macro_rules | `(tactic| k_room) => `(tactic| first | ((try simp only [depth_mark, depth_under_make, depth_under_kw, depth_in1, depth_deeper, depth_caller]); decide) | ((try simp only [depth_mark, depth_under_make, depth_under_kw, depth_in1, depth_deeper, depth_caller]); (try dsimp only); omega))
local macro_rules | `(tactic| k_units) => `(tactic| first | exact Nat.le_of_ble_eq_true rfl | ((try simp only [units_in1, units_deeper, Around.mark_units, units_caller]); (try dsimp only); omega))
local macro_rules | `(tactic| walk_at "call type:tuple") => `(tactic| (k_here; refine stop_in ?_))
local macro_rules | `(tactic| walk_at "call type:list") => `(tactic| (k_here; refine stop_in ?_))
local macro_rules | `(tactic| walk_at "compareOp NotEq ref ref") => `(tactic| (k_here; refine stop_in ?_))
local macro_rules | `(tactic| walk_at "exec While Compare cons nil") => `(tactic| (k_here; refine stop_in ?_))
local macro_rules | `(tactic| walk_at "KswPost") => `(tactic| (refine stop_in ?_))
local macro_rules | `(tactic| walk_at "exec For Name Call cons nil") => `(tactic| (k_here; refine stop_in ?_))
local macro_rules | `(tactic| walk_at "call builtin:iter") => `(tactic| (k_here; refine stop_in ?_))
local macro_rules | `(tactic| walk_at "subscriptTail Name Slice ref ref") => `(tactic| (k_here; refine stop_in ?_))
theorem PySem.Challenge.cw_dm0047_01_holds : PySem.Challenge.rw_dm0047_01.Holds := by
  refine hd ?_
  w_strict (k_go0; (all_goals try k_fold); k_steps)
  refine stop_out ?_
  rename Fr _ _ _ _ => lF
  rename News _ _ _ _ => lN
  (with_unfolding_all refine' For_invVF lF ?k1 ?k2 ?_)
  case k1 => exact rfl
  case k2 => exact rfl
  iterate 1 (first | walk1 | (dsimp only; walk1))
  rename Heap.IsList _ _ _ => hSc
  rename IntsAre _ _ => hI
  (with_unfolding_all refine' kst_list (σ := S1a) (fun c => (_, W.listOf c.1.toArray c.2.2) :: [_]) (fun _ => []) (fun c => StrsAre c.1 c.2.1) [] P1a ((_, rr0, 0) : S1a) (by rfl) hSc hI lF lN ?hf (fun _ h => nomatch h) p1a_zero ?turn ?done)
  case hf => exact .cons _ _ (.cons _ _ (.cons _ _ (.cons _ _ .nil)))
  case done =>
    clear lF lN
    rintro ⟨vs, ss, nn⟩ u h tk hS ⟨hlen, hsig⟩ F' N'
    dsimp only at hS hlen hsig F' N'
    (try k_fold)
    w_strict k_steps
    refine stop_out ?_
    rename Fr _ _ _ _ => lF
    rename News _ _ _ _ => lN
    have hsum : (ss.map (·.length)).sum ≤ 2 * ss.length := sum_le2 hsig
    have hw6 : ss.length ≤ 67 := by rw [hlen]; omega
    refine join_listW (News.isList lN List.mem_cons_self) (by simpa using hS) (by decide +kernel) (by omega) ?_
    intro t3 k3
    have hjl := join0_len ss
    obtain ⟨text, htext⟩ : ∃ text, Txt.join (Str.ofString "") ss = text := ⟨_, rfl⟩
    rw [htext] at hjl
    rw [htext]
    have htl : text.length ≤ 140 := by omega
    clear hjl hsum
    dsimp only
    have hgg := Go9.mk
    w_strict k_steps
    refine stop_out ?_
    rename Go9 => g9
    clear g9
    iterate 2 (first | walk1 | (dsimp only; walk1))
    rename Fr _ _ _ _ => lF
    (refine' ListComp_step lF ?cl1 ?cl2 ?cl3 ?cl4 ?cl5 ?_ ?cl6)
    case cl1 => with_unfolding_all rfl
    case cl2 => decide
    case cl3 => rfl
    case cl4 => decide
    case cl5 => rfl
    case cl6 => intro _; rfl
    iterate 2 (first | walk1 | (dsimp only; walk1))
    refine Pv.callWith_type1 ?_
    w_strict k_steps
    refine stop_out ?_
    rename News _ _ _ _ => lN
    have hvl : vs.toArray.size = ss.length := by rw [List.size_toArray, hS.length]
    refine len_list (News.isList lN List.mem_cons_self) (by rw [hvl]; omega) ?_
    rw [hvl]
    dsimp only
    w_strict k_steps
    refine stop_out ?_
    rename Fr _ _ _ _ => lF
    refine range3_rows lF lN (by decide) ?_ (Or.inl (PyProof.noPylong_of_log2 (by decide +kernel)))
    intro h4 tk4 t4 u4 v4 hr4 F4 N4 hk4
    clear lF lN
    rename _ = Data.cell (some (Value.ref _)) => dC
    refine ⟨_, 0, _, 2, _, _, _, (ss.length + 1) / 2, _, rfl, rfl, F4, N4, hr4, step2_small _ (by omega), step2_size _ (by omega), by rw [sizeLine_eq]; omega, ?_⟩
    rintro s₂ ⟨h5, rfl⟩
    refine rowRest rfl rfl (by decide) (by decide) (fun _ => rfl) rfl (List.mem_cons_of_mem _ List.mem_cons_self) dC List.mem_cons_self hS (fun i hi => by omega) (by omega) ?_
    intro ys es hE hEl D h6 tk6 F' N' off6
    clear F4 N4
    dsimp only at F' N' ⊢
    w_strict k_steps
    refine stop_out ?_
    dsimp only
    rename Fr _ _ _ _ => lF
    rename News _ _ _ _ => lN
    refine add_listsT (vs := ys) (ws := [_]) lF (news := [_, _]) (fun p hp => lN p (List.mem_cons_of_mem _ (List.mem_cons_of_mem _ hp))) (News.isList lN (List.mem_cons_of_mem _ List.mem_cons_self)) (News.isList lN List.mem_cons_self) (by rw [hE.length, sizeLine_eq, List.length_singleton]; omega) ?_
    clear lF lN
    intro aS h7 F' N' lS
    have hE2 := strs_snoc (y := Str.ofString "c") (t := tk6) hE
    have hEl2 : (es ++ [Str.ofString "c"]).length ≤ 70 := by rw [List.length_append, List.length_singleton]; omega
    generalize es ++ [Str.ofString "c"] = ee at hE2 hEl2
    generalize ys ++ [Value.str (Str.ofString "c") tk6] = vE at hE2 N'
    clear hE hEl off6 hr4 hk4
    w_strict k_steps
    refine stop_out ?_
    rename Fr _ _ _ _ => lF
    rename News _ _ _ _ => lN
    refine' table_assign (ax := aS) (vs := vE) (es := ee) lF lN ?t1 ?t2 ?t3 ?t4 ?t5 ?t6 ?t7 ?t8 ?t9 ?t10 ?t11 hE2 ?t12 ?_ ?t13
    case t1 => with_unfolding_all rfl
    case t2 => rfl
    case t3 => rfl
    case t4 => with_unfolding_all rfl
    case t5 => decide
    case t6 => rfl
    case t7 => decide
    case t8 => rfl
    case t9 => decide
    case t10 => rfl
    case t11 => rfl
    case t12 => rw [sizeLine_eq]; omega
    case t13 => intro _; rfl
    refine nameX_L lF rfl ?_
    refine ⟨rfl, News.isList lN List.mem_cons_self, lF, lN, ?_⟩
    clear lF lN
    intro aD oD kvs h8 tk8 F' N' nD hdo hfl
    dsimp only at F' N' ⊢
    w_strict k_steps
    refine stop_out ?_
    rename Fr _ _ _ _ => lF
    rename News _ _ _ _ => lN
    rename Heap.IsList _ _ _ => hSc
    rename IntsAre _ _ => hI
    (refine' LCg.ListComp_U lF ?cl1 ?cl2 ?cl3 ?cl4 ?cl5 ?_ ?cl6)
    case cl1 => with_unfolding_all rfl
    case cl2 => decide
    case cl3 => rfl
    case cl4 => decide
    case cl5 => rfl
    case cl6 => intro _; rfl
    refine nameX_L lF rfl ?_
    refine LCg.CompSrc.base rfl lF lN hSc (by rw [List.size_toArray, hI.length, sizeLine_eq]; omega) ?_
    intro g9
    refine modRest rfl rfl (by decide) (by decide) (by simpa using hI) (.inl hSc) ?_
    intro zs hZ aZ h9 tk9 F' N' off9
    clear lF lN
    dsimp only at F' N' ⊢
    w_strict k_steps
    refine stop_out ?_
    dsimp only
    rename Fr _ _ _ _ => lF
    rename News _ _ _ _ => lN
    refine add_listsT (vs := zs) (ws := [_, _]) lF (news := [_, _, _, _]) (fun p hp => lN p (List.mem_cons_of_mem _ (List.mem_cons_of_mem _ hp))) (News.isList lN (List.mem_cons_of_mem _ List.mem_cons_self)) (News.isList lN List.mem_cons_self) (by rw [hZ.length, List.length_map, sizeLine_eq]; simp only [List.length_cons, List.length_nil]; omega) ?_
    clear lF lN
    intro aO h10 F' N' lO
    w_strict k_steps
    refine stop_out ?_
    rename Fr _ _ _ _ => lF
    rename News _ _ _ _ => lN
    refine call_bytesK (ns := octs _) lF (fun p hp => lN p (List.mem_cons_of_mem _ hp)) (News.isList lN List.mem_cons_self) (ints_app2 hZ) (octs_ok _) (by rw [List.length_append, hZ.length, List.length_map, sizeLine_eq]; simp only [List.length_cons, List.length_nil]; omega) rfl ?_
    clear lF lN
    intro tO h11 tk11 F' N'
    dsimp only
    w_strict k_steps
    refine stop_out ?_
    rename Fr _ _ _ _ => lF
    refine len_list (let ⟨o, ho, r⟩ := hSc; ⟨o, lF.keep _ _ ho, r⟩) (by rw [List.size_toArray, hI.length]; omega) ?_
    dsimp only
    w_strict k_steps
    refine stop_out ?_
    rename Fr _ _ _ _ => lF
    (with_unfolding_all refine' For_invVF lF ?k1 ?k2 ?_)
    case k1 => exact rfl
    case k2 => exact rfl
    w_strict k_steps
    refine stop_out ?_
    dsimp only
    rename Fr _ _ _ _ => lF
    rename News _ _ _ _ => lN
    refine add_listsT (vs := vs) (ws := [_, _, _, _]) lF (news := [_, _, _, _]) (fun p hp => lN p (List.mem_cons_of_mem _ hp)) (News.isList lN (List.mem_cons_of_mem _ (List.mem_cons_of_mem _ (List.mem_cons_of_mem _ List.mem_cons_self)))) (News.isList lN List.mem_cons_self) (by rw [hS.length, sizeLine_eq]; simp only [List.length_cons, List.length_nil]; omega) ?_
    clear lF lN
    intro aP h12 F' N' lP
    w_strict k_steps
    refine stop_out ?_
    dsimp only
    rename Fr _ _ _ _ => lF
    rename News _ _ _ _ => lN
    (with_unfolding_all refine' list_loopG (σ := Unit) (fun _ => [_, _, _, _]) (fun _ => []) [Str.ofString "due", Str.ofString "at", Str.ofString "source"] (fun _ _ => True) () (by rfl) (News.isList lN List.mem_cons_self) ?hlL ?hl0 lF (fun p hp => lN p (List.mem_cons_of_mem _ hp)) (fun _ h => nomatch h) trivial ?turn2 ?done2)
    case hlL => exact (lN _ List.mem_cons_self).2.1
    case hl0 => exact (lN _ List.mem_cons_self).2.2
    case turn2 =>
      clear lF lN
      rintro ⟨⟩ i v u2 h13 tk13 I oI ol hi hv _ hLI hIl ⟨nol, hol⟩ F' N'
      (try dsimp only at F' N' hLI)
      obtain ⟨y, ty, rfl, hym⟩ := piece_of hS hv
      have hyl : y.length ≤ 2 := by
        rcases List.mem_append.mp hym with hm | hm
        · exact hsig y hm
        · exact foreign_len y hm
      clear hv hym
      (try k_fold)
      w_strict k_steps
      refine stop_out ?_
      dsimp only
      refine isnot_eq (stands_blanks y) ?_
      w_strict k_steps
      refine stop_out ?_
      rename Fr _ _ _ _ => lF
      rename News _ _ _ _ => lN
      refine' ask_at (fun mean mg mb => asked_b ok_str) lF (fun p hp => lN p (List.mem_cons_of_mem _ hp)) ?hB9 ?hX9 ?hT9 rfl ?hrm9 ?hun9 ?_
      case hB9 => k_asm
      case hX9 => k_asm
      case hT9 => k_asm
      case hrm9 => k_room
      case hun9 => k_units
      clear lF lN
      intro t21 h21 tk21 F' N'
      dsimp only
      w_strict k_steps
      refine stop_out ?_
      rename Fr _ _ _ _ => lF
      rename News _ _ _ _ => lN
      refine' ctr_at (fun mean mg mb => stands_str y ty text t3 _ (by omega) (by omega)) lF lN ?hB9 ?hX9 ?hT9 rfl ?hrm9 ?hun9 ?_
      case hB9 => k_asm
      case hX9 => k_asm
      case hT9 => k_asm
      case hrm9 => k_room
      case hun9 => k_units
      clear lF lN
      intro t22 h22 tk22 F' N'
      dsimp only
      w_strict k_steps
      refine stop_out ?_
      refine ne_str_eq rfl ?_
      w_strict k_steps
      refine stop_out ?_
      rename Fr _ _ _ _ => lF
      rename News _ _ _ _ => lN
      refine' ctr_at (fun mean mg mb => place_str y ty aS vE ee 0 _ (List.mem_cons_of_mem _ List.mem_cons_self) hE2 (by omega)) lF lN ?hB9 ?hX9 ?hT9 rfl ?hrm9 ?hun9 ?_
      case hB9 => k_asm
      case hX9 => k_asm
      case hT9 => k_asm
      case hrm9 => k_room
      case hun9 => k_units
      clear lF lN
      intro t23 h23 tk23 F' N'
      dsimp only
      w_strict k_steps
      refine stop_out ?_
      rename News _ _ _ _ => lN
      have hvE : vE.toArray.size = ee.length := by rw [List.size_toArray, hE2.length]
      refine len_list (News.isList lN (List.mem_cons_of_mem _ List.mem_cons_self)) (by rw [hvE]; omega) ?_
      rw [hvE]
      dsimp only
      obtain ⟨bE, hbE⟩ : ∃ b, ee.any (· == y) = b := ⟨_, rfl⟩
      have hbE2 := any_idx ee y
      rw [hbE] at hbE2
      cases bE
      case' false => (have hltE : ¬ ee.findIdx (· == y) < ee.length := by simpa using hbE2.symm)
      case' true => (have hltE : ee.findIdx (· == y) < ee.length := by simpa using hbE2.symm)
      all_goals generalize hgF : ee.findIdx (· == y) = fE at *
      all_goals w_strict k_steps
      all_goals
       (refine stop_out ?_
        rename Fr _ _ _ _ => lF
        rename News _ _ _ _ => lN
        refine' ask_at (fun mean mg mb => asked_b (ok_listB hbE (List.mem_cons_of_mem _ List.mem_cons_self) hE2)) lF lN ?hB9 ?hX9 ?hT9 rfl ?hrm9 ?hun9 ?_
        case hB9 => k_asm
        case hX9 => k_asm
        case hT9 => k_asm
        case hrm9 => k_room
        case hun9 => k_units
        clear lF lN
        intro t24 h24 tk24 F' N'
        dsimp only
        w_strict k_steps)
      all_goals
       (refine stop_out ?_
        refine ne_str_eq rfl ?_
        w_strict k_steps)
      all_goals
       (refine stop_out ?_
        rename Fr _ _ _ _ => lF
        rename News _ _ _ _ => lN
        refine tupleK lF lN (News.isList lN (List.mem_cons_of_mem _ List.mem_cons_self)) (by rw [hvE, sizeLine_eq]; omega) ?_
        clear lF lN
        intro aT hT9 F' N' lT
        dsimp only
        w_strict k_steps)
      all_goals
       (refine stop_out ?_
        rename Fr _ _ _ _ => lF
        rename News _ _ _ _ => lN
        refine' ask_at (fun mean mg mb => asked_b (ok_tupleB hbE List.mem_cons_self hE2)) lF lN ?hB9 ?hX9 ?hT9 rfl ?hrm9 ?hun9 ?_
        case hB9 => k_asm
        case hX9 => k_asm
        case hT9 => k_asm
        case hrm9 => k_room
        case hun9 => k_units
        clear lF lN
        intro t25 h25 tk25 F' N'
        dsimp only
        w_strict k_steps)
      all_goals
       (refine stop_out ?_
        refine ne_str_eq rfl ?_
        w_strict k_steps)
      all_goals
       (refine stop_out ?_
        rename Fr _ _ _ _ => lF
        rename News _ _ _ _ => lN
        have lo9 := not_sys (D := aD) (by k_asm) (by decide +kernel) (lN (aD, oD) (by simp)).2.2
        refine' ask_at (fun mean mg mb => asked_b (ok_tableB hbE List.mem_cons_self lo9 hdo hfl)) lF (fun p hp => lN p (List.mem_cons_of_mem _ hp)) ?hB9 ?hX9 ?hT9 rfl ?hrm9 ?hun9 ?_
        case hB9 => k_asm
        case hX9 => k_asm
        case hT9 => k_asm
        case hrm9 => k_room
        case hun9 => k_units
        clear lF lN
        intro t26 h26 tk26 F' N'
        dsimp only
        w_strict k_steps)
      all_goals
       (refine stop_out ?_
        refine ne_str_eq rfl ?_
        w_strict k_steps)
      all_goals
       (refine stop_out ?_
        rename Fr _ _ _ _ => lF
        rename News _ _ _ _ => lN
        refine' ctr_at (fun mean mg mb => place_str y ty _ vs ss nn _ (List.mem_cons_of_mem _ (List.mem_cons_of_mem _ List.mem_cons_self)) hS (by omega)) lF lN ?hB9 ?hX9 ?hT9 rfl ?hrm9 ?hun9 ?_
        case hB9 => k_asm
        case hX9 => k_asm
        case hT9 => k_asm
        case hrm9 => k_room
        case hun9 => k_units
        clear lF lN
        intro t27 h27 tk27 F' N'
        dsimp only
        w_strict k_steps)
      all_goals obtain ⟨bR, hbR⟩ : ∃ b, decide (ss.findIdx (· == y) < ss.length) = b := ⟨_, rfl⟩
      all_goals have hleR : ss.findIdx (· == y) ≤ ss.length := List.findIdx_le_length
      all_goals obtain ⟨fR, hgR⟩ : ∃ k, ss.findIdx (· == y) = k := ⟨_, rfl⟩
      all_goals rename Fr _ _ _ _ => lF
      all_goals rw [hgR] at hbR hleR lF
      all_goals cases bR
      all_goals (first | (have hltR : fR < ss.length := by simpa using hbR) | (have hltR : ¬ fR < ss.length := by simpa using hbR))
      all_goals
       (refine stop_out ?_
        rename Fr _ _ _ _ => lF
        rename News _ _ _ _ => lN
        refine iterK lF lN (News.isList lN (List.mem_cons_of_mem _ (List.mem_cons_of_mem _ List.mem_cons_self))) ?_
        clear lF lN
        intro aI hI9 F' N' lI
        dsimp only
        w_strict k_steps)
      all_goals
       (refine stop_out ?_
        rename Fr _ _ _ _ => lF
        rename News _ _ _ _ => lN
        refine' ask_atP (fun mean mg mb => asked_bP (ok_iterB hgR hbR rfl rfl (List.mem_cons_of_mem _ (List.mem_cons_of_mem _ List.mem_cons_self)) hS (fun q hq => Nat.ne_of_lt (lI q hq)))) lF lN ?hB9 ?hX9 ?hT9 rfl ?hrm9 ?hun9 ?_
        case hB9 => k_asm
        case hX9 => k_asm
        case hT9 => k_asm
        case hrm9 => k_room
        case hun9 => k_units
        clear lF lN
        rintro t30 h30 tk30 news30 ⟨oI30, rfl, hoc30, hod30⟩ F' N'
        dsimp only
        w_strict k_steps)
      all_goals
       (refine stop_out ?_
        rename News _ _ _ _ => lN
        have hvR : vs.toArray.size = ss.length := by rw [List.size_toArray, hS.length]
        refine len_list (News.isList lN (List.mem_cons_of_mem _ (List.mem_cons_of_mem _ (List.mem_cons_of_mem _ List.mem_cons_self)))) (by rw [hvR]; omega) ?_
        rw [hvR]
        dsimp only
        w_strict k_steps)
      all_goals
       (refine stop_out ?_
        refine ne_str_eq rfl ?_
        w_strict k_steps)
      all_goals
       (refine stop_out ?_
        rename Fr _ _ _ _ => lF
        rename News _ _ _ _ => lN
        refine listIter_K (vs := vs) (k := fR) rfl lF lN (fun q hq => Nat.ne_of_lt (lI q hq)) (News.isList lN (List.mem_cons_of_mem _ (List.mem_cons_of_mem _ (List.mem_cons_of_mem _ List.mem_cons_self)))) (Nat.ne_of_lt (lI _ (List.mem_cons_of_mem _ (List.mem_cons_of_mem _ List.mem_cons_self)))) (by rw [hS.length, sizeLine_eq]; omega) (by rw [hS.length]; exact iter_st lN hoc30 hod30) (by rw [hS.length]; exact hleR) ?_
        clear lF lN
        intro aL2 cL2 h31 tk31 F' N' lL2
        dsimp only
        w_strict k_steps)
      all_goals
       (refine stop_out ?_
        dsimp only
        rename Fr _ _ _ _ => lF
        rename News _ _ _ _ => lN
        refine' slice_listT lF lN (News.isList lN (List.mem_cons_of_mem _ (List.mem_cons_of_mem _ (List.mem_cons_of_mem _ List.mem_cons_self)))) (.int _ _) .none ?hsz ?_
        case hsz => rw [hvR, sizeLine_eq]; omega
        clear lF lN
        intro aL3 h32 F' N' lL3
        have eSl : slicePick vs.toArray (some ((fR : Int) + 1)) none none = (vs.drop (fR + 1)).toArray := by have := slicePick_from' vs.toArray (fR + 1); simpa using this
        rw [eSl] at N'
        (try dsimp only)
        w_strict k_steps)
      all_goals
       (refine stop_out ?_
        rename News _ _ _ _ => lN
        refine ne_same (its := (vs.drop (fR + 1)).toArray) (News.isList lN (List.mem_cons_of_mem _ List.mem_cons_self)) (News.isList lN List.mem_cons_self) (by k_units) ?_
        w_strict k_steps)
      all_goals
       (refine stop_out ?_
        rename Fr _ _ _ _ => lF
        rename News _ _ _ _ => lN
        refine' ask_at (fun mean mg mb => asked_type x_bytes_str (by decide +kernel)) lF (fun p hp => lN p (List.mem_cons_of_mem _ (List.mem_cons_of_mem _ hp))) ?hB9 ?hX9 ?hT9 rfl ?hrm9 ?hun9 ?_
        case hB9 => k_asm
        case hX9 => k_asm
        case hT9 => k_asm
        case hrm9 => k_room
        case hun9 => k_units
        clear lF lN
        intro t29 h29 tk29 F' N'
        dsimp only
        w_strict k_steps)
      all_goals
       (refine stop_out ?_
        refine ne_str_eq (by decide +kernel) ?_
        w_strict k_steps)
      all_goals
       (refine stop_out ?_
        rename Fr _ _ _ _ => lF
        rename News _ _ _ _ => lN
        refine' ask_at (fun mean mg mb => asked_type x_int (by decide +kernel)) lF lN ?hB9 ?hX9 ?hT9 rfl ?hrm9 ?hun9 ?_
        case hB9 => k_asm
        case hX9 => k_asm
        case hT9 => k_asm
        case hrm9 => k_room
        case hun9 => k_units
        clear lF lN
        intro t30 h30 tk30 F' N'
        dsimp only
        w_strict k_steps)
      all_goals
       (refine stop_out ?_
        refine ne_str_eq (by decide +kernel) ?_
        w_strict k_steps)
      all_goals
       (refine stop_out ?_
        dsimp only
        rename Fr _ _ _ _ => lF
        rename News _ _ _ _ => lN
        refine kstG_end () lF lN ?h1 ?h2 ?h3 (fun _ h => nomatch h) ?h4 trivial
        case h1 => exact fun p hp => List.mem_append_left _ hp
        case h2 => exact fun p hp => List.mem_cons_of_mem _ (List.mem_append_right _ hp)
        case h3 => exact hLI
        case h4 => (intro z h1 _ h3; simp only [List.contains_cons, List.contains_nil, Bool.or_false, Bool.or_eq_false_iff, beq_eq_false_iff_ne, ne_eq] at h3; simp [kstB, h1, h3]))
    case done2 =>
      clear lF lN
      rintro ⟨⟩ u2 h13 tk13 _ F' N'
      (try dsimp only at F' N')
      (try k_fold)
      have hgo8 := Go8.mk
      w_strict k_steps
      refine stop_out ?_
      rename Fr _ _ _ _ => lF
      rename News _ _ _ _ => lN
      refine' ask_at (fun mean mg mb => asked_type x_str_int (by decide +kernel)) lF lN ?hB9 ?hX9 ?hT9 rfl ?hrm9 ?hun9 ?_
      case hB9 => k_asm
      case hX9 => k_asm
      case hT9 => k_asm
      case hrm9 => k_room
      case hun9 => k_units
      clear lF lN
      intro t41 h41 tk41 F' N'
      dsimp only
      w_strict k_steps
      refine stop_out ?_
      refine ne_str_eq (by decide +kernel) ?_
      w_strict k_steps
      refine stop_out ?_
      rename Fr _ _ _ _ => lF
      rename News _ _ _ _ => lN
      refine' ask_at (fun mean mg mb => asked_type x_str_none (by decide +kernel)) lF lN ?hB9 ?hX9 ?hT9 rfl ?hrm9 ?hun9 ?_
      case hB9 => k_asm
      case hX9 => k_asm
      case hT9 => k_asm
      case hrm9 => k_room
      case hun9 => k_units
      clear lF lN
      intro t42 h42 tk42 F' N'
      dsimp only
      w_strict k_steps
      refine stop_out ?_
      refine ne_str_eq (by decide +kernel) ?_
      w_strict k_steps
      refine stop_out ?_
      rename Fr _ _ _ _ => lF
      rename News _ _ _ _ => lN
      refine' ask_at (fun mean mg mb => asked_type x_str_bytes (by decide +kernel)) lF lN ?hB9 ?hX9 ?hT9 rfl ?hrm9 ?hun9 ?_
      case hB9 => k_asm
      case hX9 => k_asm
      case hT9 => k_asm
      case hrm9 => k_room
      case hun9 => k_units
      clear lF lN
      intro t43 h43 tk43 F' N'
      dsimp only
      w_strict k_steps
      refine stop_out ?_
      refine ne_str_eq (by decide +kernel) ?_
      w_strict k_steps
      refine stop_out ?_
      rename Fr _ _ _ _ => lF
      rename News _ _ _ _ => lN
      refine' ask_at (fun mean mg mb => asked_type (x_str_list (l := aS) (its := vE.toArray) (n := 0) (by simp)) (by decide +kernel)) lF lN ?hB9 ?hX9 ?hT9 rfl ?hrm9 ?hun9 ?_
      case hB9 => k_asm
      case hX9 => k_asm
      case hT9 => k_asm
      case hrm9 => k_room
      case hun9 => k_units
      clear lF lN
      intro t44 h44 tk44 F' N'
      dsimp only
      w_strict k_steps
      refine stop_out ?_
      refine ne_str_eq (by decide +kernel) ?_
      w_strict k_steps
      refine stop_out ?_
      rename Go8 => g8
      clear g8
      rename Fr _ _ _ _ => lF
      (with_unfolding_all refine' For_invVF lF ?k1 ?k2 ?_)
      case k1 => exact rfl
      case k2 => exact rfl
      w_strict k_steps
      refine stop_out ?_
      dsimp only
      rename Fr _ _ _ _ => lF
      rename News _ _ _ _ => lN
      refine add_listsT (vs := [_]) lF (news := [(aD, oD), (aS, W.listOf vE.toArray 0)]) (fun p hp => lN p (by simp only [List.mem_cons, List.not_mem_nil, or_false] at hp ⊢; rcases hp with h | h <;> simp [h])) (News.isList lN List.mem_cons_self) (let ⟨o, ho, r⟩ := hSc; ⟨o, lF.keep _ _ ho, r⟩) (by rw [hI.length, sizeLine_eq]; simp only [List.length_cons, List.length_nil]; omega) ?_
      clear lF lN
      intro aX h50 F' N' lX
      dsimp only
      w_strict k_steps
      refine stop_out ?_
      (try dsimp only)
      rename Fr _ _ _ _ => lF
      rename News _ _ _ _ => lN
      (with_unfolding_all refine' list_loopG (σ := Unit) (fun _ => [_, _]) (fun _ => []) [Str.ofString "low", Str.ofString "high", Str.ofString "step", Str.ofString "counted", Str.ofString "one", Str.ofString "octet", Str.ofString "due"] (fun _ _ => True) () (by rfl) (News.isList lN List.mem_cons_self) ?hlL ?hl0 lF (fun p hp => lN p (List.mem_cons_of_mem _ hp)) (fun _ h => nomatch h) trivial ?turn4 ?done4)
      case hlL => exact (lN _ List.mem_cons_self).2.1
      case hl0 => exact (lN _ List.mem_cons_self).2.2
      case done4 =>
        clear lF lN
        rintro ⟨⟩ u4 h51 tk51 _ F' N'
        (try dsimp only at F' N')
        (try k_fold)
        w_strict k_steps
      case turn4 =>
        clear lF lN
        rintro ⟨⟩ i v u4 h51 tk51 I oI ol hi hv _ hLI hIl ⟨nol, hol⟩ F' N'
        (try dsimp only at F' N' hLI)
        obtain ⟨nx, tx, rfl⟩ := int_of hI hv
        clear hv hi
        (try k_fold)
        w_strict k_steps
        refine stop_out ?_
        rename Fr _ _ _ _ => lF
        rename News _ _ _ _ => lN
        rename_i aC hC1 lC hC2
        have hst5 : 0 ≤ (nx.fdiv 280).fmod 5 := Int.fmod_nonneg_of_pos _ (by decide)
        have hq40 : 0 ≤ (nx.fdiv 7).fmod 40 ∧ (nx.fdiv 7).fmod 40 < 40 := ⟨Int.fmod_nonneg_of_pos _ (by decide), Int.fmod_lt_of_pos _ (by decide)⟩
        have hq7 : 0 ≤ nx.fmod 7 ∧ nx.fmod 7 < 7 := ⟨Int.fmod_nonneg_of_pos _ (by decide), Int.fmod_lt_of_pos _ (by decide)⟩
        have hst : 0 < 1 + (nx.fdiv 280).fmod 5 := by omega
        have hstU : (nx.fdiv 280).fmod 5 < 5 := Int.fmod_lt_of_pos _ (by decide)
        (with_unfolding_all refine' ksw_while (σ := S4) (fun c => (aC, W.listOf c.1.toArray c.2.2.1) :: ([(aD, oD), (aS, W.listOf vE.toArray 0)] ++ [(I, oI), (aX, ol)])) (fun c => [(Str.ofString "low", .int c.2.2.2.1 c.2.2.2.2)]) (fun _ => True) [] (P4 (nx.fmod 7 - 3) (nx.fmod 7 - 3 + (nx.fdiv 7).fmod 40) (1 + (nx.fdiv 280).fmod 5)) (fun c => (nx.fmod 7 - 3 + (nx.fdiv 7).fmod 40 - c.2.2.2.1).toNat) (([], [], 0, _, _) : S4) lF lN trivial ?hk p4_zero ?turn5)
        case hk => exact fun p hp => by rw [List.mem_singleton.mp hp]; rfl
        case turn5 =>
          clear lF lN
          rintro ⟨cv, cn, cc, low, tl⟩ u5 h55 tk55 _ hP F' N'
          dsimp only at F' N'
          (try k_fold)
          by_cases hlt : low < nx.fmod 7 - 3 + (nx.fdiv 7).fmod 40
          · w_strict k_steps
            refine stop_out ?_
            rename Fr _ _ _ _ => lF
            rename News _ _ _ _ => lN
            refine append_K lF lN (Upd.head (fun p hp => Nat.ne_of_lt (lC p hp))) ?_ (by rw [List.size_toArray, sizeLine_eq]; have := p4_len hst hP (by omega); omega)
            clear lF lN
            intro h56 F' N'
            rw [push_snoc] at N'
            w_strict k_steps
            refine stop_out ?_
            rename Fr _ _ _ _ => lF
            rename News _ _ _ _ => lN
            refine ksw_end ((cv ++ [Value.int low tl], cn ++ [low], cc + 1, low + (1 + (nx.fdiv 280).fmod 5), _) : S4) lF lN (fun p hp => hp) trivial (fun p hp => by rw [List.mem_singleton.mp hp]; rfl) ?_ (p4_succ hst hP hlt) (by dsimp only; omega)
            intro z h2 _
            have h2' := h2 _ (List.mem_singleton.mpr rfl)
            simp [kstB, h2']
          · w_strict k_steps
            refine stop_out ?_
            rename Fr _ _ _ _ => lF
            (with_unfolding_all refine' For_invVF lF ?k1 ?k2 ?_)
            case k1 => exact rfl
            case k2 => exact rfl
            w_strict k_steps
            refine stop_out ?_
            (try dsimp only)
            rename Fr _ _ _ _ => lF
            rename News _ _ _ _ => lN
            rename IsRange _ _ _ _ _ _ _ _ => rgX
            (with_unfolding_all refine' kst_range (σ := Unit) (fun _ => (aC, W.listOf cv.toArray cc) :: ([(aD, oD), (aS, W.listOf vE.toArray 0)] ++ [(I, oI), (aX, ol)])) (fun _ => []) (fun _ => True) [] (fun _ _ => True) () (by rfl) rgX (small_one (by omega) (by omega) (by omega) (by omega)) (rangeSize_nat _ _) lF lN trivial (fun _ h => nomatch h) trivial ?turn6 ?done6)
            case done6 =>
              clear lF lN rgX
              rintro ⟨⟩ u6 h60 tk60 _ _ F' N'
              (try dsimp only at F' N')
              (try k_fold)
              w_strict k_steps
              refine stop_out ?_
              rename Fr _ _ _ _ => lF
              rename News _ _ _ _ => lN
              refine listBytes_K (octs_ok _) (by rw [octs_len, sizeLine_eq]; omega) rfl lF lN ?_
              clear lF lN
              intro aB vB cB h61 tk61 hB F' N' lB
              dsimp only
              w_strict k_steps
              refine stop_out ?_
              obtain ⟨bB, hbB⟩ := bit_named hB (nx.fmod 300 - 20)
              obtain ⟨fB, hfB⟩ := idx_named hB (nx.fmod 300 - 20)
              rename Fr _ _ _ _ => lF
              rename News _ _ _ _ => lN
              refine' ctr_at (fun mean mg mb => place_int (nx.fmod 300 - 20) _ aB vB (octs _) cB _ List.mem_cons_self hB (by rw [octs_len]; omega)) lF lN ?hB9 ?hX9 ?hT9 rfl ?hrm9 ?hun9 ?_
              case hB9 => k_asm
              case hX9 => k_asm
              case hT9 => k_asm
              case hrm9 => k_room
              case hun9 => k_units
              clear lF lN
              intro t64 h64 tk64 F' N'
              dsimp only
              have hbB2 := hbB
              rw [hfB] at hbB2 ⊢
              w_strict k_steps
              refine stop_out ?_
              refine len_bytes (by rw [octs_size, octs_len]; omega) ?_
              rw [octs_size]
              dsimp only
              by_cases hlo : nx.fmod 300 - 20 < 0
              case' neg => by_cases hhi : nx.fmod 300 - 20 > 255
              all_goals cases bB
              all_goals (first | (have hltB := of_decide_eq_true hbB2) | (have hltB := of_decide_eq_false hbB2))
              all_goals w_strict k_steps
              all_goals (refine stop_out ?_)
              all_goals first
               | (rename Fr _ _ _ _ => lF
                  rename News _ _ _ _ => lN
                  refine' ask_at (fun mean mg mb => asked_value (x_bytes_int (by omega)) (by decide +kernel)) lF lN ?hB9 ?hX9 ?hT9 rfl ?hrm9 ?hun9 ?_
                  case hB9 => k_asm
                  case hX9 => k_asm
                  case hT9 => k_asm
                  case hrm9 => k_room
                  case hun9 => k_units
                  clear lF lN
                  intro t65 h65 tk65 F' N'
                  dsimp only
                  w_strict k_steps
                  refine stop_out ?_
                  refine ne_str_eq (by decide +kernel) ?_
                  w_strict k_steps)
               | (rename Fr _ _ _ _ => lF
                  rename News _ _ _ _ => lN
                  refine' ask_at (fun mean mg mb => asked_b (ok_bytesB (by omega) (by omega) (((byte_any _ (octs_ok _) (by omega) (by omega)).trans (any_idxI _ _)).trans hbB))) lF lN ?hB9 ?hX9 ?hT9 rfl ?hrm9 ?hun9 ?_
                  case hB9 => k_asm
                  case hX9 => k_asm
                  case hT9 => k_asm
                  case hrm9 => k_room
                  case hun9 => k_units
                  clear lF lN
                  intro t65 h65 tk65 F' N'
                  dsimp only
                  w_strict k_steps
                  refine stop_out ?_
                  refine ne_str_eq (by decide +kernel) ?_
                  w_strict k_steps)
              all_goals
               (refine stop_out ?_
                (try dsimp only)
                rename Fr _ _ _ _ => lF
                rename News _ _ _ _ => lN
                refine kstG_end () lF lN ?h1 ?h2 ?h3 (fun _ h => nomatch h) ?h4 trivial
                case h1 => exact fun p hp => List.mem_cons_of_mem _ (List.mem_cons_of_mem _ (List.mem_append_left _ hp))
                case h2 => exact fun p hp => List.mem_cons_of_mem _ (List.mem_cons_of_mem _ (List.mem_append_right _ hp))
                case h3 => exact hLI
                case h4 => (intro z h1 _ h3; simp only [List.contains_cons, List.contains_nil, Bool.or_false, Bool.or_eq_false_iff, beq_eq_false_iff_ne, ne_eq] at h3; simp [kstB, h1, h3]))
            case turn6 =>
              clear lF lN rgX
              rintro ⟨⟩ pre6 k6 t6 u6 h60 tk60 own6 hk6 hn6 hoff6 _ _ F' N'
              (try dsimp only at F' N')
              (try k_fold)
              w_strict k_steps
              refine stop_out ?_
              rename Fr _ _ _ _ => lF
              rename News _ _ _ _ => lN
              obtain ⟨b6, hb6⟩ : ∃ b, decide (cn.findIdx (· == k6) < cn.length) = b := ⟨_, rfl⟩
              obtain ⟨f6, hf6⟩ : ∃ k, cn.findIdx (· == k6) = k := ⟨_, rfl⟩
              have hcl : cn.length ≤ 50 := by rw [← hP.1.length]; exact p4_len hst hP (by have := p4_top hP; omega)
              refine rangeK lF lN (by omega) (Or.inl (PyProof.noPylong_small (by omega))) ?_
              clear lF lN
              intro aR tr ur vr h61 tk61 F' N' lR
              dsimp only
              w_strict k_steps
              refine stop_out ?_
              rename Fr _ _ _ _ => lF
              rename News _ _ _ _ => lN
              refine' ask_at (fun mean mg mb => asked_b (b := b6) (ok_rangeB (((p4_done hst hP hlt k6).trans (any_idxI cn k6)).trans hb6) List.mem_cons_self)) lF lN ?hB9 ?hX9 ?hT9 rfl ?hrm9 ?hun9 ?_
              case hB9 => k_asm
              case hX9 => k_asm
              case hT9 => k_asm
              case hrm9 => k_room
              case hun9 => k_units
              clear lF lN
              intro t61 h62 tk62 F' N'
              dsimp only
              w_strict k_steps
              refine stop_out ?_
              rename Fr _ _ _ _ => lF
              rename News _ _ _ _ => lN
              refine' ctr_at (fun mean mg mb => place_int k6 t6 aC cv cn cc _ (List.mem_cons_of_mem _ List.mem_cons_self) hP.1 (by omega)) lF lN ?hB9 ?hX9 ?hT9 rfl ?hrm9 ?hun9 ?_
              case hB9 => k_asm
              case hX9 => k_asm
              case hT9 => k_asm
              case hrm9 => k_room
              case hun9 => k_units
              clear lF lN
              intro t63 h63 tk63 F' N'
              dsimp only
              rw [hf6] at hb6 ⊢
              w_strict k_steps
              refine stop_out ?_
              rename News _ _ _ _ => lN
              have hcs : cv.toArray.size = cn.length := by rw [List.size_toArray, hP.1.length]
              refine len_list (News.isList lN (List.mem_cons_of_mem _ List.mem_cons_self)) (by rw [hcs]; omega) ?_
              rw [hcs]
              dsimp only
              cases b6
              all_goals (first | (have hltR : f6 < cn.length := by simpa using hb6) | (have hltR : ¬ f6 < cn.length := by simpa using hb6))
              all_goals w_strict k_steps
              all_goals refine stop_out ?_
              all_goals refine ne_str_eq (by decide +kernel) ?_
              all_goals w_strict k_steps
              all_goals refine stop_out ?_
              all_goals (try dsimp only)
              all_goals rename Fr _ _ _ _ => lF
              all_goals rename News _ _ _ _ => lN
              all_goals refine kst_end () lF lN (fun p hp => List.mem_cons_of_mem _ (List.mem_append_left _ hp)) (fun p hp => List.mem_cons_of_mem _ (List.mem_append_right _ hp)) rfl trivial (fun _ h => nomatch h) ?_ trivial
              all_goals (intro z h1 _ h3; (try simp only [List.contains_cons, List.contains_nil, Bool.or_false, Bool.or_eq_false_iff, beq_eq_false_iff_ne, ne_eq] at h3); simp [kstB, h1, h3])
  case turn =>
    clear lF lN
    rintro ⟨vs, ss, nn⟩ pre post n t u h tk own hns hn hoff hS hP F' N'
    dsimp only at hS F' N' hoff
    have hpre : pre.length ≤ 63 := by
      have := congrArg List.length hns
      simp only [List.length_append, List.length_cons] at this
      omega
    (try k_fold)
    have hq1 : 0 ≤ (n.fdiv 3).fmod 4 ∧ (n.fdiv 3).fmod 4 < 4 := ⟨Int.fmod_nonneg_of_pos _ (by decide), Int.fmod_lt_of_pos _ (by decide)⟩
    have hq2 : 0 ≤ (n.fdiv 12).fmod 4 ∧ (n.fdiv 12).fmod 4 < 4 := ⟨Int.fmod_nonneg_of_pos _ (by decide), Int.fmod_lt_of_pos _ (by decide)⟩
    have hq3 : 0 ≤ n.fmod 3 ∧ n.fmod 3 < 3 := ⟨Int.fmod_nonneg_of_pos _ (by decide), Int.fmod_lt_of_pos _ (by decide)⟩
    w_strict k_steps
    refine stop_out ?_
    refine KXi.item (n := 4) (by decide +kernel) (by omega) (by omega) (by decide) fun hi1 => ?_
    dsimp only
    w_strict k_steps
    refine stop_out ?_
    refine KXi.item (n := 4) (by decide +kernel) (by omega) (by omega) (by decide) fun hi2 => ?_
    dsimp only
    w_strict k_steps
    refine stop_out ?_
    dsimp only
    rename Fr _ _ _ _ => lF
    rename News _ _ _ _ => lN
    refine' slice_listT lF lN (News.isList lN List.mem_cons_self) .none (.int _ _) ?hsz ?_
    case hsz => show 2 ≤ sizeLine; decide
    clear lF lN
    intro T h2 F' N' lT
    obtain ⟨zs, ys, ez, hZ, hZs, hZl⟩ := pick2 (t := _) (u := _) hi1 hi2 hq3.1 hq3.2
    rw [ez] at N'
    w_strict k_steps
    refine stop_out ?_
    rename Fr _ _ _ _ => lF
    rename News _ _ _ _ => lN
    refine join_listW (News.isList lN List.mem_cons_self) (by simpa using hZ) (by decide +kernel) (by omega) ?_
    intro t3 k3
    have hjl := join0_len ys
    dsimp only
    w_strict k_steps
    refine stop_out ?_
    rename Fr _ _ _ _ => lF
    rename News _ _ _ _ => lN
    rename _ + 1 < _ => lC
    refine append_K lF (fun p hp => lN p (List.mem_cons_of_mem _ (List.mem_cons_of_mem _ hp))) (Upd.head ?off) ?go ?siz
    case off =>
      have h1 := OwnOff.ne hoff List.mem_cons_self
      intro p hp
      rcases List.mem_cons.mp hp with rfl | hp
      · exact Nat.ne_of_lt lC
      · exact h1 p hp
    case siz => rw [List.size_toArray, hS.length, hP.1, sizeLine_eq]; omega
    case go =>
      clear lF lN
      intro h' F' N'
      rw [push_snoc] at N'
      w_strict k_steps
      refine stop_out ?_
      rename Fr _ _ _ _ => lF
      rename News _ _ _ _ => lN
      refine kst_end (_, _, _) lF lN (fun p hp => List.mem_append_left _ hp) (fun p hp => List.mem_cons_of_mem _ (List.mem_cons_of_mem _ hp)) rfl (strs_snoc hS) (fun _ h => nomatch h) ?_ (p1a_append hP (by omega))
      intro z h1 _ h3
      simp [kstB, h1]
end

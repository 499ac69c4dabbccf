import PyProof.Rows.All
import Wide.All
import OpenK.AllK
import Wide.FinOn
import Lean
import PySem.Challenge.RW_mr0261_01
set_option Elab.async false
set_option maxRecDepth 100000
set_option maxHeartbeats 8000000
section
open PySem PySem.W PyProof.Rows
namespace Mine
open_top hd for PySem.Challenge.rw_mr0261_01
end Mine
end
section
open PySem PySem.W PyProof.Rows
namespace Mine
section
variable {prog : Program} {w : World} {A : Around} {E : Value → Shared → Prop} {s : Shared} {env : Env} {h₀ : Heap} {target : PySem.Expr} {body : List Stmt} {L : Addr} {m : Str → Option Value} {news : List (Addr × Obj)}

theorem iterL {l : Addr} {o : Obj} {vs : List Value} {n : Nat} {Q : Value → Shared → Prop} (F : Fr h₀ L s.heap m) (N : News h₀ L s.heap news) (hp : (l, o) ∈ news) (hc : o.cls = .type "list") (hd : o.data = .seq vs.toArray n)
    (h : ∀ (I : Addr) h', Fr h₀ L h' m → News h₀ L h' ((I, { cls := .type "list_iterator", data := .fields #[.ref l, .int 0 0] }) :: news) → (∀ p ∈ news, p.1 < I) → Q (.ref I) { s with heap := h' }) :
    wpAny (model prog w) A (call (.builtin "iter") [.ref l]) Q E s := by
  refine Calls.call_function_entry (by decide +kernel) (by decide +kernel) kdk_entry_iter (kdk_args_iter _) ?_
  unfold Builtin.«iter»
  refine wpAny_bind (m := someArgs "iter" 1 2 _) (wpAny_of_eq (a := [Value.ref l]) (by first | rfl | kernel_rfl!) ?_)
  show wpAny _ _ (pyIter (.ref l) >>= _) _ _ _
  refine wpAny_bind (wpAny_pyIter_list (items := vs.toArray) ⟨o, (N _ hp).1, hc, n, hd⟩ ?_)
  exact wpAny_pure ⟨_, rfl, h _ _ (F.push _) (News.push F N _ rfl) (fun q hq => Heap.lt_size (N q hq).1)⟩

/-- a for over a list's iterator that the call has made, still at its start -/
theorem iter_iterTurns {Q : Flow → Shared → Prop} {I ax : Addr} {io lo : Obj} {vs : List Value} {n : Nat} {m₀ : Str → Option Value} {all : List (Addr × Obj)}
    (hh : A.handled = none) (F : Fr h₀ env.locals s.heap m₀) (N : News h₀ env.locals s.heap all) (hI : (I, io) ∈ all) (hic : io.cls = .type "list_iterator") (hid : io.data = .fields #[.ref ax, .int 0 0])
    (hsub : ∀ p ∈ news, p ∈ all) (hnI : ∀ p ∈ news, p.1 ≠ I)
    (hm : (ax, lo) ∈ news) (hc : lo.cls = .type "list") (hd : lo.data = .seq vs.toArray n)
    (rest₀ : ItemsRest prog w A E h₀ env target body Q s [(I, "list_iterator")] [(ax, lo)] (vs.map .val) m₀ news) :
    wpAny (model prog w) A (pyIter (.ref I)) (fun it s₂ => TurnsAt prog w A h₀ env target body Q E it s₂) E s := by
  have hax := N _ (hsub _ hm)
  have hIx := N _ hI
  have hne : ax ≠ I := hnI _ hm
  have hl : s.heap.IsList ax vs.toArray := ⟨lo, hax.1, hc, n, hd⟩
  have hit : s.heap.IsListIter I ax 0 := ⟨io, hIx.1, hic, hid⟩
  refine wpAny_pyIter_listiter hit ?_
  have hs : s = { s with heap := s.heap, toks := s.toks } := rfl
  rw [hs]
  refine ktu_core (tk0 := s.toks) (keep := [(ax, lo)]) (KTurns.ofWalks (Walks.list hh I ax hne vs.toArray) fun i v s Q E st q => letGo_listiter st.1 q) (by simp) (fun i v h hp => ⟨.val v, ?_, rfl⟩) (fun i h st => ?_) (fun b hb => ?_) (fun b hb => by simpa using hb) (fun b hb => ?_) ?_ (fun p hp hI' => ?_) ?_ F (fun p hp => N p (hsub p hp)) (And.intro hm trivial) rest₀
  · have hp' : vs.toArray[i]? = some v := hp
    simpa using hp'
  · obtain ⟨it, hit, hic, _⟩ := st.1
    exact ⟨[(I, it)], ⟨⟨rfl, hic⟩, trivial⟩, fun p hp => by rw [List.mem_singleton.mp hp]; exact hit⟩
  · have hb' : b = I := by simpa using hb
    rw [hb']
    exact ⟨List.mem_cons_self .., hIx.2.2⟩
  · have hb' : b = I ∨ b = ax := by simpa using hb
    rcases hb' with e | e
    · exact .inl (by simp [e])
    · exact .inr ⟨lo, by simp [e]⟩
  · intro hI
    rcases List.mem_cons.mp hI with e | hI
    · exact hIx.2.1 e.symm
    · exact hax.2.1 (List.mem_singleton.mp hI).symm
  · exact hnI p hp (List.mem_singleton.mp hI')
  · exact ⟨hit, hl⟩
end
end Mine
end
section
open PySem PySem.W PyProof.Rows
namespace Mine
noncomputable abbrev loose4 : List Str := looseW hd.view_39 [Str.ofString "_name_disallowed_re", Str.ofString "_value_disallowed_re", Str.ofString "_initial_missing", Str.ofString "reduce"]
abbrev lawScope : Scope := { kind := ScopeKind.function, names := [(Str.ofString "script", NameKind.local), (Str.ofString "drawn", NameKind.local), (Str.ofString "_law_fields", NameKind.globalImplicit), (Str.ofString "_law_told", NameKind.globalImplicit), (Str.ofString "_law_due", NameKind.globalImplicit)], isGenerator := false, isCoroutine := false }
abbrev toldScope : Scope := { kind := ScopeKind.function, names := [(Str.ofString "fields", NameKind.local), (Str.ofString "table", NameKind.local), (Str.ofString "given", NameKind.local), (Str.ofString "Headers", NameKind.globalImplicit), (Str.ofString "reduce", NameKind.globalImplicit), (Str.ofString "_law_laid", NameKind.globalImplicit), (Str.ofString "ValueError", NameKind.globalImplicit)], isGenerator := false, isCoroutine := false }
abbrev redScope : Scope := { kind := ScopeKind.function, names := [(Str.ofString "function", NameKind.local), (Str.ofString "sequence", NameKind.local), (Str.ofString "initial", NameKind.local), (Str.ofString "it", NameKind.local), (Str.ofString "value", NameKind.local), (Str.ofString "element", NameKind.local), (Str.ofString "iter", NameKind.globalImplicit), (Str.ofString "_initial_missing", NameKind.globalImplicit), (Str.ofString "next", NameKind.globalImplicit), (Str.ofString "StopIteration", NameKind.globalImplicit), (Str.ofString "TypeError", NameKind.globalImplicit)], isGenerator := false, isCoroutine := false }
def pairD (p : Str × Str) : Dat := Dat.tuple [Dat.str p.1, Dat.str p.2]
def nameBad (x : Str) : Bool := x.cps.any fun c => c ≤ 31 || c == 127
def valBad (x : Str) : Bool := x.cps.any fun c => c ≤ 8 || (10 ≤ c && c ≤ 31) || c == 127
abbrev low (x : Str) : Str := Txt.lower x
def get1 (T : List (Str × Str)) (ln : Str) : Option Str := (T.find? fun p => low p.1 == ln).map (·.2)
def dropN (T : List (Str × Str)) (ln : Str) : List (Str × Str) := T.filter fun p => low p.1 != ln
def newVal (T : List (Str × Str)) (fn fv : Str) : Str := match get1 T (low fn) with
  | none => fv
  | some o => o ++ Str.ofString "," ++ fv
end Mine
end
section
open PySem PySem.W PyProof.Rows
namespace Mine
open PySem.Sre (M inSet)
def code43 : Array Nat := #[14, 10, 4, 1, 1, 22, 0, 31, 16, 127, 0, 13, 7, 22, 0, 31, 16, 127, 0, 1]
def code48 : Array Nat := #[14, 14, 4, 1, 1, 9, 4294966783, 0, 0, 2147483648, 0, 0, 0, 0, 0, 13, 11, 9, 4294966783, 0, 0, 2147483648, 0, 0, 0, 0, 0, 1]
def bad43 (c : Nat) : Bool := c ≤ 31 || c == 127
def bad48 (c : Nat) : Bool := c ≤ 8 || (10 ≤ c && c ≤ 31) || c == 127

/-- what a pattern of ours is: a first set at 5, the same set behind IN, then the end -/
structure Pat (code : Array Nat) (bad : Nat → Bool) : Prop where
  info : code.getD 0 0 = 14
  four : code.getD 2 0 = 4
  one : code.getD 3 0 = 1
  isIn : code.getD (1 + code.getD 1 0) 0 = 13
  inB : 1 + code.getD 1 0 < code.size
  inE : 1 + code.getD 1 0 + (1 + code.getD (1 + code.getD 1 0 + 1) 0) < code.size
  last : code.getD (1 + code.getD 1 0 + (1 + code.getD (1 + code.getD 1 0 + 1) 0)) 0 = 1
  fst : ∀ c seen, ∃ seen', inSet code c code.size 5 true seen = .ok (bad c, seen')
  snd : ∀ c seen, ∃ seen', inSet code c code.size (1 + code.getD 1 0 + 2) true seen = .ok (bad c, seen')

theorem bit48 : ∀ c < 256, (code48.getD (5 + (1 + c / 32)) 0).testBit (c % 32) = bad48 c := by decide +kernel
theorem bit48' : ∀ c < 256, (code48.getD (17 + (1 + c / 32)) 0).testBit (c % 32) = bad48 c := by decide +kernel
theorem big48 (c : Nat) (h : ¬ c < 256) : bad48 c = false := by
  unfold bad48
  simp only [Bool.or_eq_false_iff, Bool.and_eq_false_iff, decide_eq_false_iff_not, beq_eq_false_iff_ne]
  omega

theorem set43 (c : Nat) (seen : Sre.Seen) (i k : Nat) (h0 : code43.getD (i + 0) 0 = 22) (h1 : code43.getD (i + 1) 0 = 0) (h2 : code43.getD (i + 2) 0 = 31) (h3 : code43.getD (i + 3 + 0) 0 = 16) (h4 : code43.getD (i + 3 + 1) 0 = 127) (h5 : code43.getD (i + 3 + 2 + 0) 0 = 0) :
    ∃ seen', inSet code43 c (k + 3) i true seen = .ok (bad43 c, seen') := by
  unfold bad43
  simp only [inSet, h0, h1, h2, h3, h4, h5, Sre.ops]
  by_cases a : c ≤ 31
  · exact ⟨_, by simp [a]; rfl⟩
  · by_cases b : c = 127
    · exact ⟨_, by simp [b]; rfl⟩
    · exact ⟨_, by simp [a, b]; rfl⟩
theorem set48 (c : Nat) (seen : Sre.Seen) (i k : Nat) (h0 : code48.getD (i + 0) 0 = 9) (hb : ∀ c < 256, (code48.getD (i + (1 + c / 32)) 0).testBit (c % 32) = bad48 c) (h5 : code48.getD (i + 9 + 0) 0 = 0) :
    ∃ seen', inSet code48 c (k + 2) i true seen = .ok (bad48 c, seen') := by
  simp only [inSet, h0, h5, Sre.ops]
  by_cases a : c < 256
  · simp only [a, hb c a, decide_true, Bool.true_and]
    cases hq : bad48 c
    · exact ⟨_, by simp; rfl⟩
    · exact ⟨_, by simp; rfl⟩
  · rw [big48 c a]
    exact ⟨_, by simp [a]; rfl⟩
theorem pat43 : Pat code43 bad43 := by
  refine ⟨by decide, by decide, by decide, by decide, by decide, by decide, by decide, fun c seen => ?_, fun c seen => ?_⟩
  · exact set43 c seen 5 17 (by decide) (by decide) (by decide) (by decide) (by decide) (by decide)
  · exact set43 c seen 13 17 (by decide) (by decide) (by decide) (by decide) (by decide) (by decide)
theorem pat48 : Pat code48 bad48 := by
  refine ⟨by decide, by decide, by decide, by decide, by decide, by decide, by decide, fun c seen => ?_, fun c seen => ?_⟩
  · exact set48 c seen 5 26 (by decide) bit48 (by decide)
  · exact set48 c seen 17 26 (by decide) bit48' (by decide)

theorem admitted_none {code text : Array Nat} {bad : Nat → Bool} (P : Pat code bad) (m : M) (hc : m.code = code) (ht : m.text = text) : ∀ (fuel s : Nat) (seen : Sre.Seen), (∀ i, s ≤ i → i < m.lim → bad (text.getD i 0) = false) →
    ∃ seen', m.admitted fuel s seen = .ok (none, seen') := by
  intro fuel
  induction fuel with
  | zero => intro s seen _; exact ⟨seen, rfl⟩
  | succ fuel ih =>
    intro s seen hb
    unfold M.admitted
    by_cases hs : s ≥ m.lim
    · exact ⟨seen, by rw [if_pos hs]⟩
    · rw [if_neg hs, hc, ht]
      obtain ⟨s1, h1⟩ := P.fst (text.getD s 0) seen
      rw [h1, hb s (Nat.le_refl _) (by omega)]
      exact ih (s + 1) s1 fun i h1 h2 => hb i (by omega) h2
theorem admitted_some {code text : Array Nat} {bad : Nat → Bool} (P : Pat code bad) (m : M) (hc : m.code = code) (ht : m.text = text) : ∀ (fuel s : Nat) (seen : Sre.Seen), m.lim < fuel + s → (∃ i, s ≤ i ∧ i < m.lim ∧ bad (text.getD i 0) = true) →
    ∃ s' seen', m.admitted fuel s seen = .ok (some s', seen') ∧ s' < m.lim ∧ bad (text.getD s' 0) = true := by
  intro fuel
  induction fuel with
  | zero => intro s seen hf ⟨i, h1, h2, _⟩; omega
  | succ fuel ih =>
    intro s seen hf ⟨i, h1, h2, h3⟩
    unfold M.admitted
    rw [if_neg (by omega : ¬ s ≥ m.lim), hc, ht]
    obtain ⟨s1, e1⟩ := P.fst (text.getD s 0) seen
    rw [e1]
    cases hq : bad (text.getD s 0) with
    | true => exact ⟨s, s1, rfl, by omega, hq⟩
    | false =>
      have hne : s ≠ i := fun e => by rw [e, h3] at hq; cases hq
      exact ih (s + 1) s1 (by omega) ⟨i, by omega, h2, h3⟩
end Mine
end
section
open PySem PySem.W PyProof.Rows
namespace Mine
open PySem.Sre (M inSet)
theorem search_start (code text : Array Nat) : ∃ m : M, Sre.forSearch code text 0 0 text.size false = (if (decide (0 > text.size) || decide (text.size - 0 < (Sre.header code).1)) = true then m.say false
      else { m with lastStart := if (decide ((Sre.header code).1 > 1) && !((Sre.header code).2 != 0 && code.getD 2 0 &&& 5 != 0)) = true then max 0 (text.size - ((Sre.header code).1 - 1)) else text.size }.attemptFrom 0 true) ∧
    m.code = code ∧ m.text = text ∧ m.lim = text.size ∧ m.pc = (Sre.header code).2 ∧ m.frames = [] ∧ m.weight = 0 ∧ m.answer = none ∧ m.outcome = none ∧ m.wholeText = false := ⟨_, by
      unfold Sre.forSearch; rfl, rfl, rfl, rfl, rfl, rfl, rfl, rfl, rfl, rfl⟩
theorem drive_fail (m : M) (ho : m.outcome = none) (ha : m.answer = some false) (hf : m.frames = []) : (m.runFor 4).outcome = some .failed := by
  obtain ⟨code, text, lim, start, lastStart, wholeText, mustAdvance, pc, pos, handed, outermost, marks, lastmark, lastindex, loops, inner, frames, weight, answer, seen, outcome⟩ := m
  simp only at ho ha hf
  subst ho ha hf
  simp [M.runFor, M.step]
theorem header_of {code : Array Nat} {bad : Nat → Bool} (P : Pat code bad) : Sre.header code = (1, 1 + code.getD 1 0) := by
  unfold Sre.header
  rw [P.info, P.one]
  rfl
theorem first_of {code : Array Nat} {bad : Nat → Bool} (P : Pat code bad) (m : M) (hc : m.code = code) : m.hasFirstSet = true := by
  unfold M.hasFirstSet
  rw [hc, P.info, P.four]
  rfl
theorem drive_hit {code text : Array Nat} {bad : Nat → Bool} (P : Pat code bad) (m : M) (hc : m.code = code) (ht : m.text = text) (hp : m.pc = 1 + code.getD 1 0) (hf : m.frames = []) (hw : m.weight = 0) (ha : m.answer = none) (ho : m.outcome = none) (hwt : m.wholeText = false) (hma : m.mustAdvance = false)
    (s : Nat) (hs : s < m.lim) (hb : bad (text.getD s 0) = true) : ((m.attemptAt s true).runFor 4).outcome = some .matched := by
  obtain ⟨code', text', lim, start, lastStart, wholeText, mustAdvance, pc, pos, handed, outermost, marks, lastmark, lastindex, loops, inner, frames, weight, answer, seen, outcome⟩ := m
  simp only at hc ht hp hf hw ha ho hwt hma hs
  subst hc ht hp hf hw ha ho hwt hma
  have e1 := P.isIn
  have e2 := P.last
  have b1 := P.inB
  have b2 := P.inE
  generalize hB : 1 + code'.getD 1 0 = b at *
  obtain ⟨s1, h1⟩ := P.snd (text'.getD s 0) (seen.add 13)
  rw [hB, hb] at h1
  have hacc : Sre.accepts code' b (text'.getD s 0) (seen.add 13) = .ok (true, s1) := by
    unfold Sre.accepts
    rw [e1]
    exact h1
  have hwid : Sre.itemWidth code' b = 1 + code'.getD (b + 1) 0 := by
    unfold Sre.itemWidth
    rw [e1]
    rfl
  have st1 : ∀ (n : Nat) (m : M), m.outcome = none → M.runFor (n + 1) m = M.runFor n m.step := fun n m h => by
    show (if m.outcome.isSome = true then m else M.runFor n m.step) = _
    rw [h]; rfl
  have E1 : M.attemptAt (⟨code', text', lim, start, lastStart, false, false, b, pos, handed, outermost, marks, lastmark, lastindex, loops, inner, [], 0, none, seen, none⟩ : M) s true
     = (⟨code', text', lim, s, lastStart, false, false, b, s, s, true, marks, -1, -1, loops, inner, [{ wait := .nextStart, pc := b, pos := s, outermost := true }], 1, none, seen, none⟩ : M) := rfl
  rw [E1, st1 _ _ rfl]
  have E2 : M.step (⟨code', text', lim, s, lastStart, false, false, b, s, s, true, marks, -1, -1, loops, inner, [{ wait := .nextStart, pc := b, pos := s, outermost := true }], 1, none, seen, none⟩ : M)
     = (⟨code', text', lim, s, lastStart, false, false, b + (1 + code'.getD (b + 1) 0), s + 1, s, true, marks, -1, -1, loops, inner, [{ wait := .nextStart, pc := b, pos := s, outermost := true }], 1, none, s1, none⟩ : M) := by
    simp only [M.step, Option.isSome_none, Bool.false_eq_true, if_false, if_pos b1, M.exec, M.word, Nat.add_zero, e1, Sre.ops]
    simp only [show (¬ s ≥ lim) from by omega, if_false, hacc, hwid]
    rfl
  rw [E2, st1 _ _ rfl]
  have E3 : M.step (⟨code', text', lim, s, lastStart, false, false, b + (1 + code'.getD (b + 1) 0), s + 1, s, true, marks, -1, -1, loops, inner, [{ wait := .nextStart, pc := b, pos := s, outermost := true }], 1, none, s1, none⟩ : M)
     = (⟨code', text', lim, s, lastStart, false, false, b + (1 + code'.getD (b + 1) 0), s + 1, s + 1, true, marks, -1, -1, loops, inner, [{ wait := .nextStart, pc := b, pos := s, outermost := true }], 1, some true, s1.add 1, none⟩ : M) := by
    simp only [M.step, Option.isSome_none, Bool.false_eq_true, if_false, if_pos b2, M.exec, M.word, Nat.add_zero, e2, Sre.ops]
    rfl
  rw [E3, st1 _ _ rfl, st1 _ _ rfl]
  rfl
end Mine
end
section
open PySem PySem.W PyProof.Rows
namespace Mine
open PySem.Sre (M inSet)
open PySem.Builtin.Re
theorem slot_search : Slot "re.Pattern" "search" "re.Pattern.search" :=
  .of (owner := "re.Pattern") (n := "search") (by rw [typeLookup_type, builtinLookup_eq_fast]; kernel_rfl) (by decide +kernel) (by decide +kernel) (by decide +kernel)
    (by first | exact .inl (by decide +kernel) | exact .inr (by decide +kernel)) (by rw [isSubtype_type]; kernel_rfl)
theorem type_search : typeOf (.builtin "re.Pattern.search") = pure (.type "method_descriptor") := by show builtinType _ = _; rw [builtinType_eq_fast]; kernel_rfl
theorem entry_search : entryFor table "re.Pattern.search" = some Builtin.«re.Pattern.search» := entryFor_of_tree (by kernel_rfl)
theorem args_search (a b : Value) : argsOk "re.Pattern.search" ⟨[a, b], []⟩ := by unfold argsOk; kernel_rfl
theorem plainAttrs_pattern : PlainAttrs "re.Pattern" :=
  ⟨⟨"object.__getattribute__", by rw [typeLookup_type, builtinLookup_eq_fast]; kernel_rfl, by decide +kernel⟩, by rw [typeLookup_type, builtinLookup_eq_fast]; kernel_rfl⟩
theorem match_nobool : typeLookup (.type "re.Match") "__bool__" = pure none := by rw [typeLookup_type, builtinLookup_eq_fast]; kernel_rfl
theorem match_nolen : typeLookup (.type "re.Match") "__len__" = pure none := by rw [typeLookup_type, builtinLookup_eq_fast]; kernel_rfl
end Mine
end
section
open PySem PySem.W PyProof.Rows
namespace Mine
open PySem.Sre (M inSet)
open PySem.Builtin.Re
section
variable {prog : Program} {w : World} {A : Around} {E : Value → Shared → Prop} {s : Shared}
theorem forIn_quiet {α : Type} {M : Model} {A : Around} (l : List α) (f : α → PUnit → Sem (ForInStep PUnit)) (hf : ∀ i E' s', wpAny M A (f i ⟨⟩) (fun x s'' => x = .yield ⟨⟩ ∧ s'' = s') E' s') {Q : PUnit → Shared → Prop} {E' : Value → Shared → Prop} {s : Shared} (h : Q ⟨⟩ s) :
    wpAny M A (forIn l PUnit.unit f) Q E' s := by
  induction l with
  | nil => exact wpAny_pure h
  | cons a l ih =>
    rw [List.forIn_cons]
    refine wpAny_bind (wpAny_mono (hf a E' s) (fun x s'' hx => ?_) fun _ _ e => e)
    obtain ⟨rfl, rfl⟩ := hx
    exact ih

structure PatAt (h : Heap) (p : Addr) (code : Array Nat) : Prop where
  is : ∃ o ps fl c, h.get? p = some o ∧ o.cls = .type "re.Pattern" ∧ o.dict = none ∧ o.data = .fields #[ps, fl, .int 0 0, .none, .none, .ref c, .int 0 0] ∧
    ∃ oc its n, h.get? c = some oc ∧ oc.data = .seq its n ∧ (its.map reRawOf).map (·.toNat) = code

theorem drive_end {M' : Model} {A : Around} (m : M) (o : Sre.Outcome) (ho : (m.runFor 4).outcome = some o) {Q : M → Shared → Prop} {E' : Value → Shared → Prop} (h : Q (m.runFor 4) s) : wpAny M' A (reDrive (2 ^ 64) m) Q E' s := by
  show wpAny M' A (reDrive ((2 ^ 64 - 1) + 1) m) Q E' s
  rw [reDrive]
  show wpAny M' A (if (m.runFor 4).outcome.isSome = true then pure (m.runFor 4) else _) Q E' s
  rw [ho]
  exact wpAny_pure h

theorem toEnd_fail {M' : Model} {A : Around} (m : M) (ho : (m.runFor 4).outcome = some .failed) {Q : Option M → Shared → Prop} {E' : Value → Shared → Prop} (h : Q none s) : wpAny M' A (reRunToEnd m) Q E' s := by
  unfold reRunToEnd
  refine wpAny_bind (drive_end m _ ho ?_)
  refine wpAny_bind (forIn_quiet _ _ (fun i E' s' => ?_) ?_)
  · split
    · exact wpAny_bind (wpAny_rule (wpAny_pure ⟨rfl, rfl⟩))
    · exact wpAny_pure ⟨rfl, rfl⟩
  · rw [ho]
    exact wpAny_pure h
theorem toEnd_hit {M' : Model} {A : Around} (m : M) (ho : (m.runFor 4).outcome = some .matched) {Q : Option M → Shared → Prop} {E' : Value → Shared → Prop} (h : Q (some (m.runFor 4)) s) : wpAny M' A (reRunToEnd m) Q E' s := by
  unfold reRunToEnd
  refine wpAny_bind (drive_end m _ ho ?_)
  refine wpAny_bind (forIn_quiet _ _ (fun i E' s' => ?_) ?_)
  · split
    · exact wpAny_bind (wpAny_rule (wpAny_pure ⟨rfl, rfl⟩))
    · exact wpAny_pure ⟨rfl, rfl⟩
  · rw [ho]
    exact wpAny_pure h

theorem named_one (v : Value) : reNamed "re.Pattern.search" "search" ["string", "pos", "endpos"] 1 [v] [] = pure [some v, none, none] := rfl

theorem target_of {p : Addr} {x : Str} {t : Tok} {code : Array Nat} (P : PatAt s.heap p code) {Q : ReTarget → Shared → Prop} {E' : Value → Shared → Prop} {M' : Model} {A : Around} (hsz : x.cps.size ≤ 2 ^ 62)
    (h : Q { pattern := .ref p, string := .str x t, code := code, text := x.cps, kind := 0, groups := 0, pos := 0, lim := x.cps.size } s) :
    wpAny M' A (reTarget "re.Pattern.search" "search" ⟨[.ref p, .str x t], []⟩) Q E' s := by
  obtain ⟨o, ps, fl, c, ho, hcl, hdi, hda, oc, its, n, hoc, hdc, hcode⟩ := P.is
  unfold reTarget
  refine wpAny_bind (wpAny_of_eq (named_one _) ?_)
  dsimp only
  refine wpAny_bind (wpAny_pure ?_)
  refine wpAny_bind (wpAny_pure ?_)
  refine wpAny_bind (wpAny_fieldsOf ho hda ?_)
  refine wpAny_bind (wpAny_of_eq (a := (x.cps, 0)) rfl ?_)
  show wpAny _ _ (if (reRawNat (Value.int 0 0) == 0 && 0 == 1) = true then _ else _) _ _ _
  rw [if_neg (by decide)]
  show wpAny _ _ (if (reRawNat (Value.int 0 0) == 1 && 0 == 0) = true then _ else _) _ _ _
  rw [if_neg (by decide)]
  refine wpAny_bind (wpAny_of_eq (a := ⟨⟩) rfl ?_)
  show wpAny _ _ (reRawItems (.ref c) >>= _) _ _ _
  unfold reRawItems
  refine wpAny_bind (wpAny_bind (wpAny_seqItems hoc hdc (wpAny_pure ?_)))
  refine wpAny_pure ?_
  have e2 : min ((2 : Int) ^ 63 - 1).toNat x.cps.size = x.cps.size := by omega
  have e1 : min (0 : Int).toNat x.cps.size = 0 := by simp
  simp only [e2, e1]
  rw [show (Option.getD (some its) #[]).map reRawOf = its.map reRawOf from rfl, hcode]
  exact h

theorem any_false {x : Str} {bad : Nat → Bool} (h : x.cps.any bad = false) : ∀ i, 0 ≤ i → i < x.cps.size → bad (x.cps.getD i 0) = false := by
  intro i _ hi
  rw [Array.any_eq_false] at h
  have := h i hi
  simp only [Array.getD, hi, dif_pos]
  simpa using this
theorem any_true {x : Str} {bad : Nat → Bool} (h : x.cps.any bad = true) : ∃ i, 0 ≤ i ∧ i < x.cps.size ∧ bad (x.cps.getD i 0) = true := by
  rw [Array.any_eq_true] at h
  obtain ⟨i, hi, hb⟩ := h
  exact ⟨i, Nat.zero_le _, hi, by simp only [Array.getD, hi, dif_pos]; exact hb⟩

theorem from_fail {code : Array Nat} {bad : Nat → Bool} (P : Pat code bad) (x : Str) (m : M) (hc : m.code = code) (ht : m.text = x.cps) (hl : m.lim = x.cps.size) (h : x.cps.any bad = false) : ∃ sn, m.attemptFrom 0 true = { m with seen := sn }.say false := by
  unfold M.attemptFrom
  rw [first_of P m hc]
  obtain ⟨s', hs⟩ := admitted_none P m hc ht (m.lim + 1 - 0) 0 m.seen (fun i h1 h2 => any_false h i h1 (by rw [← hl]; exact h2))
  rw [if_neg (by simp), hs]
  exact ⟨_, rfl⟩
theorem from_hit {code : Array Nat} {bad : Nat → Bool} (P : Pat code bad) (x : Str) (m : M) (hc : m.code = code) (ht : m.text = x.cps) (hl : m.lim = x.cps.size) (h : x.cps.any bad = true) :
    ∃ st sn, m.attemptFrom 0 true = { m with mustAdvance := false, seen := sn }.attemptAt st true ∧ st < m.lim ∧ bad (x.cps.getD st 0) = true := by
  obtain ⟨i, h1, h2, h3⟩ := any_true h
  unfold M.attemptFrom
  rw [first_of P m hc]
  obtain ⟨s', seen', hs, hlt, hb⟩ := admitted_some P m hc ht (m.lim + 1 - 0) 0 m.seen (by omega) ⟨i, h1, by rw [← hl] at h2; exact h2, h3⟩
  rw [if_neg (by simp), hs]
  exact ⟨_, _, rfl, hlt, hb⟩
theorem run_fail {code : Array Nat} {bad : Nat → Bool} (P : Pat code bad) (x : Str) (h : x.cps.any bad = false) : ((Sre.forSearch code x.cps 0 0 x.cps.size false).runFor 4).outcome = some .failed := by
  obtain ⟨m, e, hc, ht, hl, hp, hf, hw, ha, ho, hwt⟩ := search_start code x.cps
  rw [e]
  split
  · exact drive_fail _ ho rfl hf
  · obtain ⟨sn, hs⟩ := from_fail P x { m with lastStart := if (decide ((Sre.header code).1 > 1) && !((Sre.header code).2 != 0 && code.getD 2 0 &&& 5 != 0)) = true then max 0 (x.cps.size - ((Sre.header code).1 - 1)) else x.cps.size } hc ht hl h
    rw [hs]
    exact drive_fail _ ho rfl hf
theorem run_hit {code : Array Nat} {bad : Nat → Bool} (P : Pat code bad) (x : Str) (h : x.cps.any bad = true) : ((Sre.forSearch code x.cps 0 0 x.cps.size false).runFor 4).outcome = some .matched := by
  obtain ⟨m, e, hc, ht, hl, hp, hf, hw, ha, ho, hwt⟩ := search_start code x.cps
  obtain ⟨i, h1, h2, h3⟩ := any_true h
  rw [e]
  rw [if_neg (by rw [header_of P]; simp only [Bool.or_eq_true, decide_eq_true_eq, not_or]; omega)]
  obtain ⟨st, sn, hs, hlt, hb⟩ := from_hit P x { m with lastStart := if (decide ((Sre.header code).1 > 1) && !((Sre.header code).2 != 0 && code.getD 2 0 &&& 5 != 0)) = true then max 0 (x.cps.size - ((Sre.header code).1 - 1)) else x.cps.size } hc ht hl h
  rw [hs]
  refine drive_hit (bad := bad) (text := x.cps) P _ ?_ ?_ ?_ ?_ ?_ ?_ ?_ ?_ ?_ st ?_ ?_
  · exact hc
  · exact ht
  rotate_left
  · exact hf
  · exact hw
  · exact ha
  · exact ho
  · exact hwt
  · rfl
  · exact hlt
  · exact hb
  rw [show (1 + code.getD 1 0) = (Sre.header code).2 from by rw [header_of P]]
  exact hp

theorem PatAt.typeIs {p : Addr} {code : Array Nat} (P : PatAt s.heap p code) : s.TypeIs (.ref p) "re.Pattern" := by
  obtain ⟨o, _, _, _, ho, hc, _⟩ := P.is
  exact ⟨o, ho, hc⟩

theorem search_ok {p : Addr} {x : Str} {t : Tok} {code : Array Nat} {bad : Nat → Bool} (P : PatAt s.heap p code) (Pt : Pat code bad) (hb : x.cps.any bad = false) (hsz : x.cps.size ≤ 2 ^ 62) {Q : Value → Shared → Prop} (h : Q .none s) :
    wpAny (model prog w) A (call (.builtin "re.Pattern.search") [.ref p, .str x t]) Q E s := by
  refine wpAny_call_entry slot_search P.typeIs entry_search ?_ (args_search _ _)
  unfold Builtin.«re.Pattern.search»
  refine wpAny_bind (target_of P hsz ?_)
  unfold reAnswer
  refine wpAny_bind (toEnd_fail _ (run_fail Pt x hb) ?_)
  exact wpAny_pure ⟨_, rfl, h⟩
theorem search_hit {p L : Addr} {x : Str} {t : Tok} {code : Array Nat} {bad : Nat → Bool} {h₀ : Heap} {m : Str → Option Value} {news : List (Addr × Obj)} (F : Fr h₀ L s.heap m) (N : News h₀ L s.heap news) (P : PatAt s.heap p code) (Pt : Pat code bad) (hb : x.cps.any bad = true) (hsz : x.cps.size ≤ 2 ^ 62) {Q : Value → Shared → Prop}
    (h : ∀ (a : Addr) (o : Obj) h', o.cls = .type "re.Match" → o.dict = none → Fr h₀ L h' m → News h₀ L h' ((a, o) :: news) → (∀ q ∈ news, q.1 < a) → Q (.ref a) { s with heap := h' }) :
    wpAny (model prog w) A (call (.builtin "re.Pattern.search") [.ref p, .str x t]) Q E s := by
  refine wpAny_call_entry slot_search P.typeIs entry_search ?_ (args_search _ _)
  unfold Builtin.«re.Pattern.search»
  refine wpAny_bind (target_of P hsz ?_)
  unfold reAnswer
  refine wpAny_bind (toEnd_hit _ (run_hit Pt x hb) ?_)
  dsimp only
  unfold reNewMatch
  refine wpAny_bind ?_
  dsimp only [List.range_zero, List.flatMap_nil, List.any_nil]
  refine wpAny_bind ?_
  refine newTuple_N F N (fun h1 F1 N1 => ?_) (by show 2 ≤ sizeLine; decide)
  refine wpAny_newObj_type ?_
  generalize hvs : (#[Value.str x t, Value.ref p, rawInt ((0 : Nat) : Int), rawInt (x.cps.size : Int), rawInt (M.runFor 4 (Sre.forSearch code x.cps 0 0 x.cps.size false)).lastindex, Value.ref s.heap.objs.size] : Array Value) = fvs
  have N2 := News.push F1 N1 { cls := .type "re.Match", data := .fields fvs } rfl
  refine wpAny_pure ⟨_, rfl, ?_⟩
  refine h _ { cls := .type "re.Match", data := .fields fvs } (h1.push { cls := .type "re.Match", data := .fields fvs }) rfl rfl (F1.push _) (fun q hq => ?_) fun q hq => Heap.lt_size (N1 q (.tail _ hq)).1
  rcases List.mem_cons.mp hq with rfl | hq
  · exact N2 _ (.head _)
  · exact N2 _ (.tail _ (.tail _ hq))
end
end Mine
end
section
open PySem PySem.W PyProof.Rows
namespace Mine
section
variable {prog : Program} {w : World} {A : Around} {E : Value → Shared → Prop} {s : Shared} {h₀ : Heap} {L : Addr} {m : Str → Option Value} {news : List (Addr × Obj)}
theorem pat43_at {P : Params} {h : Heap} (X : (hd.heap_39 P).In h) : PatAt h 43 code43 := ⟨⟨_, _, _, _, X 43 _ rfl, rfl, rfl, rfl, _, _, _, X 42 _ rfl, rfl, by decide +kernel⟩⟩
theorem pat48_at {P : Params} {h : Heap} (X : (hd.heap_39 P).In h) : PatAt h 48 code48 := ⟨⟨_, _, _, _, X 48 _ rfl, rfl, rfl, rfl, _, _, _, X 47 _ rfl, rfl, by decide +kernel⟩⟩
theorem method_pat {p : Addr} {code : Array Nat} {pl : Sem Bool} {Q : Value × List Value → Shared → Prop} (P : PatAt s.heap p code) (h : Q (.builtin "re.Pattern.search", [.ref p]) s) : wpAny (model prog w) A (getMethod (.ref p) (Str.ofString "search") pl) Q E s :=
  getMethod_builtin P.typeIs plainAttrs_pattern slot_search type_search (fun a e => by
    obtain ⟨o, _, _, _, ho, _, hd, _⟩ := P.is
    cases e
    exact ⟨o, ho, hd⟩) h
theorem method43 {pl : Sem Bool} {Q : Value × List Value → Shared → Prop} (F : Fr h₀ L s.heap m) (X : (hd.heap_39 w.params).In h₀) (h : Q (.builtin "re.Pattern.search", [.ref 43]) s) : wpAny (model prog w) A (getMethod (.ref 43) (Str.ofString "search") pl) Q E s :=
  method_pat (pat43_at (X.keeps F.keep)) h
theorem method48 {pl : Sem Bool} {Q : Value × List Value → Shared → Prop} (F : Fr h₀ L s.heap m) (X : (hd.heap_39 w.params).In h₀) (h : Q (.builtin "re.Pattern.search", [.ref 48]) s) : wpAny (model prog w) A (getMethod (.ref 48) (Str.ofString "search") pl) Q E s :=
  method_pat (pat48_at (X.keeps F.keep)) h
theorem search43_ok {x : Str} {t : Tok} {Q : Value → Shared → Prop} (F : Fr h₀ L s.heap m) (X : (hd.heap_39 w.params).In h₀) (hb : nameBad x = false) (hsz : x.length ≤ 2 ^ 30) (h : Q .none s) :
    wpAny (model prog w) A (call (.builtin "re.Pattern.search") [.ref 43, .str x t]) Q E s :=
  search_ok (pat43_at (X.keeps F.keep)) pat43 hb (by have : x.cps.size ≤ 2 ^ 30 := hsz; omega) h
theorem search48_ok {x : Str} {t : Tok} {Q : Value → Shared → Prop} (F : Fr h₀ L s.heap m) (X : (hd.heap_39 w.params).In h₀) (hb : valBad x = false) (hsz : x.length ≤ 2 ^ 30) (h : Q .none s) :
    wpAny (model prog w) A (call (.builtin "re.Pattern.search") [.ref 48, .str x t]) Q E s :=
  search_ok (pat48_at (X.keeps F.keep)) pat48 hb (by have : x.cps.size ≤ 2 ^ 30 := hsz; omega) h
theorem search43_hit {x : Str} {t : Tok} {Q : Value → Shared → Prop} (F : Fr h₀ L s.heap m) (X : (hd.heap_39 w.params).In h₀) (N : News h₀ L s.heap news) (hb : nameBad x = true) (hsz : x.length ≤ 2 ^ 30)
    (h : ∀ (a : Addr) (o : Obj) h', o.cls = .type "re.Match" → o.dict = none → Fr h₀ L h' m → News h₀ L h' ((a, o) :: news) → (∀ q ∈ news, q.1 < a) → Q (.ref a) { s with heap := h' }) :
    wpAny (model prog w) A (call (.builtin "re.Pattern.search") [.ref 43, .str x t]) Q E s :=
  search_hit F N (pat43_at (X.keeps F.keep)) pat43 hb (by have : x.cps.size ≤ 2 ^ 30 := hsz; omega) h
theorem search48_hit {x : Str} {t : Tok} {Q : Value → Shared → Prop} (F : Fr h₀ L s.heap m) (X : (hd.heap_39 w.params).In h₀) (N : News h₀ L s.heap news) (hb : valBad x = true) (hsz : x.length ≤ 2 ^ 30)
    (h : ∀ (a : Addr) (o : Obj) h', o.cls = .type "re.Match" → o.dict = none → Fr h₀ L h' m → News h₀ L h' ((a, o) :: news) → (∀ q ∈ news, q.1 < a) → Q (.ref a) { s with heap := h' }) :
    wpAny (model prog w) A (call (.builtin "re.Pattern.search") [.ref 48, .str x t]) Q E s :=
  search_hit F N (pat48_at (X.keeps F.keep)) pat48 hb (by have : x.cps.size ≤ 2 ^ 30 := hsz; omega) h
theorem truthy_match {a : Addr} {o : Obj} {Q : Bool → Shared → Prop} (N : News h₀ L s.heap news) (hm : (a, o) ∈ news) (hc : o.cls = .type "re.Match") (h : Q true s) : wpAny (model prog w) A (truthy (.ref a)) Q E s := by
  have hT : s.TypeIs (.ref a) "re.Match" := ⟨o, (N _ hm).1, hc⟩
  unfold truthy
  refine wpAny_bind (wpAny_callSpecial?_none hT match_nobool ?_)
  refine wpAny_bind (wpAny_specialOf hT match_nolen ?_)
  exact wpAny_pure h
end
end Mine
end
section
open PySem PySem.W PyProof.Rows
namespace Mine
section
variable {prog : Program} {w : World} {A : Around} {E : Value → Shared → Prop} {s : Shared} {env : Env} {h₀ : Heap} {target : PySem.Expr} {body : List Stmt} {Q : Flow → Shared → Prop} {I : Addr} {keep : List (Addr × Obj)} {m₀ : Str → Option Value} {news : List (Addr × Obj)}
/-- the end of a turn of a loop that changes no object and stores the names alone -/
structure NamesEnd (names : List Str) (m₀ : Str → Option Value) (news : List (Addr × Obj)) (P : Prop) (m' : Str → Option Value) (n' : List (Addr × Obj)) : Prop where
  led : n' = news
  map : ∀ z, names.contains z = false → m' z = m₀ z
  inv : P
theorem mix_names {names : List Str} {m' : Str → Option Value} (h : ∀ z, names.contains z = false → m' z = m₀ z) : m' = fun y => if names.contains y = true then m' y else m₀ y := by
  funext y
  by_cases q : names.contains y = true
  · rw [if_pos q]
  · rw [if_neg q]; exact h y (by simpa using q)
theorem rest_names (names : List Str) (J : List Value → Prop) (rem : List Value) (hk : SubL keep news)
    (h0 : J [] → ∀ (u : Str → Option Value) h tk, Fr h₀ env.locals h (fun y => if names.contains y = true then u y else m₀ y) → News h₀ env.locals h news → Q .next { s with heap := h, toks := tk })
    (h1 : ∀ v r (u : Str → Option Value) h tk (o : Obj), J (v :: r) → Fr h₀ env.locals h (fun y => if names.contains y = true then u y else m₀ y) → o.cls = .type "list_iterator" → News h₀ env.locals h ((I, o) :: news) →
      wpAny (model prog w) A (assign target env v) (fun _ s₂ => wpAny (model prog w) A (execs body env) (UnrPostW h₀ env.locals { s with heap := h, toks := tk } [(I, o)] (NamesEnd names m₀ news (J r)) Q) E s₂) E { s with heap := h, toks := tk })
    (hJ : J rem) : ItemsRest prog w A E h₀ env target body Q s [(I, "list_iterator")] keep (rem.map .val) m₀ news := by
  have key : ∀ (rem : List Value) (u : Str → Option Value), J rem → ItemsRest prog w A E h₀ env target body Q s [(I, "list_iterator")] keep (rem.map .val) (fun y => if names.contains y = true then u y else m₀ y) news := by
    intro rem
    induction rem with
    | nil => intro u hJ; exact fun h tk F N => h0 hJ u h tk F N
    | cons v r ih =>
      intro u hJ
      refine ItemsRest.val fun h tk F o ho N => ?_
      refine wpAny_mono (h1 v r u h tk o hJ F ho N) (fun _ s₂ p => wpAny_mono p (fun f s₃ q => ?_) fun _ _ e => e) fun _ _ e => e
      have fin : UnrEndW h₀ env.locals { s with heap := h, toks := tk } [(I, o)] (NamesEnd names m₀ news (J r)) s₃ → UnrEndW h₀ env.locals { s with heap := h, toks := tk } [(I, o)] (fun m' n' => SubL keep n' ∧ ItemsRest prog w A E h₀ env target body Q s [(I, "list_iterator")] keep (r.map .val) m' n') s₃ := by
        rintro ⟨h', tk', m', n', e, F', N', off, ⟨rfl, hm, hP⟩⟩
        refine ⟨h', tk', m', n', e, F', N', off, hk, ?_⟩
        rw [mix_names hm]
        exact ih m' hP
      cases f with
      | ret v => exact q
      | brk => exact q
      | next => exact fin q
      | cont => exact fin q
  have e : m₀ = fun y => if names.contains y = true then m₀ y else m₀ y := by funext y; split <;> rfl
  rw [e]
  have e2 := key rem m₀ hJ
  exact e2
/-- the same turn's end, said to the walk -/
theorem namesEnd_intro {names : List Str} {P : Prop} {L : Addr} {o : Obj} {s₁ : Shared} {h' : Heap} {tk : Nat} {m' : Str → Option Value} {all : List (Addr × Obj)} (F : Fr h₀ L h' m') (N : News h₀ L h' all) (hI : (I, o) ∈ all) (sub : ∀ p ∈ news, p ∈ all) (off : ∀ p ∈ news, p.1 ≠ I)
    (hm : ∀ z, names.contains z = false → m' z = m₀ z) (hP : P) : UnrEndW h₀ L s₁ [(I, o)] (NamesEnd names m₀ news P) { s₁ with heap := h', toks := tk } :=
  ⟨h', tk, m', news, rfl, F, fun p hp => by
    rcases List.mem_append.mp hp with hp | hp
    · rw [List.mem_singleton.mp hp]; exact N _ hI
    · exact N p (sub p hp), fun p hp q hq => by rw [List.mem_singleton.mp hq]; exact off p hp, ⟨rfl, hm, hP⟩⟩
end
end Mine
end
section
open PySem PySem.W PyProof.Rows PySem.Calls
namespace Mine
section
variable {prog : Program} {w : World} {A : Around} {E : Value → Shared → Prop} {s : Shared} {h₀ : Heap} {L : Addr} {m : Str → Option Value} {env : Env}
/-- a comprehension with a test, of any length, that leaves the ledger as it is -/
theorem restT_ind {ct elt : PySem.Expr} {x : Str} {scope : Scope} {cl : List (Str × Addr)} {S : List (Addr × Obj) → Prop} {P : Nat → Value → Prop} {Fin : List Value → List (Addr × Obj) → Prop} {news : List (Addr × Obj)} {n : Nat} (J : Nat → List Value → Prop)
    (h0 : ∀ ys, J n ys → Fin ys news)
    (h1 : ∀ i ys v I oI C oC D m₂ h tk (E' : Value → Shared → Prop), i < n → J i ys → P i v → LCg.NsObj oC m₂ → m₂ x = some v → Fr h₀ L h m → News h₀ L h ((I, oI) :: (C, oC) :: (D, LCg.lst ys) :: news) → LCg.Off3 I C D news → ((@Ne Nat I C) ∧ (@Ne Nat I D) ∧ (@Ne Nat C D)) →
      wpAny (model prog w) A (isTrue ct (compEnvC scope cl C env) (eval ct (compEnvC scope cl C env))) (fun ok s' => if ok = true then
        wpAny (model prog w) A (eval elt (compEnvC scope cl C env)) (LCg.CompEnd h₀ L m { s with heap := h, toks := tk } I oI C oC D (LCg.lst ys) S (fun y news' => news' = news ∧ J (i + 1) (ys ++ [y]))) E' s'
        else LCg.CompEnd h₀ L m { s with heap := h, toks := tk } I oI C oC D (LCg.lst ys) S (fun _ news' => news' = news ∧ J (i + 1) ys) Value.none s') E' { s with heap := h, toks := tk })
    (hJ : J 0 []) : LCt.CompRestT prog w A h₀ L m env ct elt x scope cl s S P Fin n 0 [] news := by
  have key : ∀ k i ys, i + k = n → J i ys → LCt.CompRestT prog w A h₀ L m env ct elt x scope cl s S P Fin k i ys news := by
    intro k
    induction k with
    | zero => intro i ys hi hj; exact h0 ys (by rw [← hi]; exact hj)
    | succ k ih =>
      intro i ys hi hj
      refine LCt.CompRestT.succ fun v I oI C oC D m₂ h tk E' hP hC hx F N off ne => ?_
      refine wpAny_mono (h1 i ys v I oI C oC D m₂ h tk E' (by omega) hj hP hC hx F N off ne) (fun ok s' q => ?_) fun _ _ e => e
      cases ok with
      | true =>
        rw [if_pos rfl] at q ⊢
        refine wpAny_mono q (fun y s₂ q => ?_) fun _ _ e => e
        obtain ⟨h', tk', news', e, F', N', off', hS', rfl, hj'⟩ := q
        exact ⟨h', tk', news', e, F', N', off', hS', ih (i + 1) _ (by omega) hj'⟩
      | false =>
        rw [if_neg (by decide)] at q ⊢
        obtain ⟨h', tk', news', e, F', N', off', hS', rfl, hj'⟩ := q
        exact ⟨h', tk', news', e, F', N', off', hS', ih (i + 1) _ (by omega) hj'⟩
  exact key n 0 [] (by omega) hJ
theorem restU_ind {elt : PySem.Expr} {x : Str} {scope : Scope} {cl : List (Str × Addr)} {S : List (Addr × Obj) → Prop} {P : Nat → Value → Prop} {Fin : List Value → List (Addr × Obj) → Prop} {news : List (Addr × Obj)} {n : Nat} (J : Nat → List Value → Prop)
    (h0 : ∀ ys, J n ys → Fin ys news)
    (h1 : ∀ i ys v I oI C oC D m₂ h tk (E' : Value → Shared → Prop), i < n → J i ys → P i v → LCg.NsObj oC m₂ → m₂ x = some v → Fr h₀ L h m → News h₀ L h ((I, oI) :: (C, oC) :: (D, LCg.lst ys) :: news) → LCg.Off3 I C D news → ((@Ne Nat I C) ∧ (@Ne Nat I D) ∧ (@Ne Nat C D)) →
        wpAny (model prog w) A (eval elt (compEnvC scope cl C env)) (LCg.CompEnd h₀ L m { s with heap := h, toks := tk } I oI C oC D (LCg.lst ys) S (fun y news' => news' = news ∧ J (i + 1) (ys ++ [y]))) E' { s with heap := h, toks := tk })
    (hJ : J 0 []) : LCg.CompRest prog w A h₀ L m env elt x scope cl s S P Fin n 0 [] news := by
  have key : ∀ k i ys, i + k = n → J i ys → LCg.CompRest prog w A h₀ L m env elt x scope cl s S P Fin k i ys news := by
    intro k
    induction k with
    | zero => intro i ys hi hj; exact h0 ys (by rw [← hi]; exact hj)
    | succ k ih =>
      intro i ys hi hj
      refine LCg.CompRest.succ fun v I oI C oC D m₂ h tk E' hP hC hx F N off ne => ?_
      refine wpAny_mono (h1 i ys v I oI C oC D m₂ h tk E' (by omega) hj hP hC hx F N off ne) (fun y s₂ q => ?_) fun _ _ e => e
      obtain ⟨h', tk', news', e, F', N', off', hS', rfl, hj'⟩ := q
      exact ⟨h', tk', news', e, F', N', off', hS', ih (i + 1) _ (by omega) hj'⟩
  exact key n 0 [] (by omega) hJ
theorem compEnd_same {I C D : Addr} {oI oC oD : Obj} {S : List (Addr × Obj) → Prop} {P : Value → Prop} {news all : List (Addr × Obj)} {y : Value} {s₁ : Shared} {h' : Heap} {tk : Nat} (F : Fr h₀ L h' m) (N : News h₀ L h' all) (sub : ∀ p ∈ (I, oI) :: (C, oC) :: (D, oD) :: news, p ∈ all)
    (off : LCg.Off3 I C D news) (hS : S news) (hP : P y) : LCg.CompEnd h₀ L m s₁ I oI C oC D oD S (fun y news' => news' = news ∧ P y) y { s₁ with heap := h', toks := tk } :=
  ⟨h', tk, news, rfl, F, fun p hp => N p (sub p hp), off, hS, rfl, hP⟩
theorem srcAt_led {ax : Addr} {its : Array Value} {n : Nat} {news : List (Addr × Obj)} (h : (ax, W.listOf its n) ∈ news) : LCg.SrcAt h₀ ax its news := .inr ⟨_, h, rfl, _, rfl⟩
end
end Mine
end
section
open PySem PySem.W PyProof.Rows PySem.Calls
namespace Mine
/-- a comprehension with a pair for its target and one test, over a list of pairs in the ledger; nothing but its own objects is changed -/
def TurnPT (prog : Program) (w : World) (A : Around) (h₀ : Heap) (L : Addr) (m : Str → Option Value) (env : Env) (ct elt : PySem.Expr) (x x₂ : Str) (scope : Scope) (cl : List (Str × Addr)) (s : Shared) (news : List (Addr × Obj)) (J : Nat → List Value → Prop) (i : Nat) (ys : List Value) (v : Value) : Prop :=
  ∃ (t : Addr) (ot : Obj) (v₁ v₂ : Value) (nt : Nat), v = .ref t ∧ (t, ot) ∈ news ∧ ot.cls = .type "tuple" ∧ ot.data = .seq #[v₁, v₂] nt ∧
    ∀ I oI C oC D m₂ h tk (E' : Value → Shared → Prop), LCg.NsObj oC m₂ → m₂ x = some v₁ → m₂ x₂ = some v₂ → Fr h₀ L h m → News h₀ L h ((I, oI) :: (C, oC) :: (D, LCg.lst ys) :: news) → LCg.Off3 I C D news → ((@Ne Nat I C) ∧ (@Ne Nat I D) ∧ (@Ne Nat C D)) →
      wpAny (model prog w) A (isTrue ct (compEnvC scope cl C env) (eval ct (compEnvC scope cl C env))) (fun ok s' => if ok = true then
        wpAny (model prog w) A (eval elt (compEnvC scope cl C env)) (LCg.CompEnd h₀ L m { s with heap := h, toks := tk } I oI C oC D (LCg.lst ys) (fun _ => True) (fun y news' => news' = news ∧ J (i + 1) (ys ++ [y]))) E' s'
        else LCg.CompEnd h₀ L m { s with heap := h, toks := tk } I oI C oC D (LCg.lst ys) (fun _ => True) (fun _ news' => news' = news ∧ J (i + 1) ys) Value.none s') E' { s with heap := h, toks := tk }
def SrcPT (prog : Program) (w : World) (A : Around) (h₀ : Heap) (L : Addr) (m : Str → Option Value) (env : Env) (ct elt : PySem.Expr) (x x₂ : Str) (scope : Scope) (cl : List (Str × Addr)) (Q : Value → Shared → Prop) (xv : Value) (s₁ : Shared) : Prop :=
  ∃ ax its k news, xv = .ref ax ∧ A.handled = none ∧ Fr h₀ L s₁.heap m ∧ News h₀ L s₁.heap news ∧ (ax, W.listOf its k) ∈ news ∧ its.size ≤ sizeLine ∧
    ∃ J : Nat → List Value → Prop, J 0 [] ∧ (∀ ys, J its.size ys → LCg.FinE h₀ L m s₁ Q ys news) ∧ ∀ i ys v, i < its.size → J i ys → its[i]? = some v → TurnPT prog w A h₀ L m env ct elt x x₂ scope cl s₁ news J i ys v
section
variable {prog : Program} {w : World} {A : Around} {E : Value → Shared → Prop} {s : Shared} {h₀ : Heap} {L : Addr} {m : Str → Option Value} {env : Env}
theorem block_PT {ct elt iter : PySem.Expr} {x x₂ : Str} {px px₂ tp : Pos} {tk0 : Nat} {scope : Scope} {cl : List (Str × Addr)} {pos : Pos} {s₂ : Shared} {I ax : Addr} {its : Array Value} {k : Nat} {news : List (Addr × Obj)} {J : Nat → List Value → Prop} {Fin : List Value → Prop} {RR : Value → Addr → Result → Shared → Prop}
    (hh : A.handled = none) (hsz : its.size ≤ sizeLine) (hcell : ∀ y ∈ scope.names, y.2 ≠ .cell) (hkind : scope.kind = .function) (hx : scope.names.lookup x = some .local) (hx₂ : scope.names.lookup x₂ = some .local) (hxx : x ≠ x₂)
    (hI : s₂.heap.IsListIter I ax 0) (hax : (ax, W.listOf its k) ∈ news) (F : Fr h₀ L s₂.heap m) (N : News h₀ L s₂.heap news) (hIL : L ≠ I) (hI₀ : h₀.get? I = none) (off : ∀ p ∈ news, p.1 ≠ I) (hJ0 : J 0 []) (hfin : ∀ ys, J its.size ys → Fin ys)
    (turn : ∀ i ys v, i < its.size → J i ys → its[i]? = some v → TurnPT prog w A h₀ L m env ct elt x x₂ scope cl s₂ news J i ys v)
    (hRR : ∀ D C h tk m' ys, Fr h₀ L h m → News h₀ L h ((D, LCg.lst ys) :: news) → LCg.Off1 D news → h.Ns C m' → h₀.get? C = none → h₀.get? D = none → C ≠ L → D ≠ L → C ≠ D → (∀ p ∈ news, p.1 ≠ C) → Fin ys → RR (.ref D) C (.ok .next) { s₂ with heap := h, toks := tk }) :
    wpAny (model prog w) A (newList []) (fun acc s₃ => wpAny (model prog w) A (newFunctionEnv scope env.globals cl [] env.qual none .none (some env)) (fun cenv s₄ =>
      codeAny (model prog w) A (.compStart (.ListComp elt [⟨.Tuple [.Name x px, .Name x₂ px₂] tk0 tp, iter, [ct], 0⟩] scope pos) 0 (.ref I) acc { cenv with scope := relabel scope env }) (RR acc cenv.locals) s₄) E s₃) E s₂ := by
  have hne : ax ≠ I := off _ hax
  have W := Walks.list (prog := prog) (w := w) (A := A) hh I ax hne its
  refine wpAny_newObj_type (wpAny_newFunctionEnv hcell (by intro y hy; simp at hy) (fun h₁ hns₁ hsb₁ => ?_) hkind)
  dsimp only at hns₁ hsb₁ ⊢
  generalize hD : s₂.heap.objs.size = D at hns₁ hsb₁ ⊢
  generalize hH2 : s₂.heap.push { cls := .type "list", dict := none, data := .seq ([] : List Value).toArray } = H2 at hns₁ hsb₁ ⊢
  have hC : H2.objs.size = D + 1 := by rw [← hH2, Heap.size_push, hD]
  generalize hCe : H2.objs.size = C at hns₁ hsb₁ hC ⊢
  have lt : ∀ b o, s₂.heap.get? b = some o → @LT.lt Nat _ b D := fun b o e => hD ▸ Heap.lt_size e
  have offD : ∀ b o, s₂.heap.get? b = some o → b ≠ D := fun b o e => Nat.ne_of_lt (lt b o e)
  have offC : ∀ b o, s₂.heap.get? b = some o → b ≠ C := fun b o e => by have := lt b o e; rw [hC]; exact Nat.ne_of_lt (Nat.lt_succ_of_lt this)
  have old : ∀ b o, s₂.heap.get? b = some o → h₁.get? b = some o := fun b o e => hsb₁.extBut b o (offC b o e) (Heap.get?_push_of_some _ (hH2 ▸ Heap.get?_push_of_some _ e))
  have hDC : D ≠ C := by rw [hC]; exact Nat.ne_of_lt (Nat.lt_succ_self _)
  have hacc : h₁.get? D = some (LCg.lst []) := hsb₁.extBut _ _ hDC (Heap.get?_push_of_some _ (by rw [← hH2, ← hD]; exact Heap.get?_push_size _ rfl))
  have new₀ : ∀ b, @LE.le Nat _ D b → h₀.get? b = none := fun b hb => by
    cases e : h₀.get? b with
    | none => rfl
    | some o => exact absurd (lt _ _ (F.keep b o e)) (Nat.not_lt.mpr hb)
  have hD₀ : h₀.get? D = none := new₀ _ (Nat.le_refl _)
  have hC₀ : h₀.get? C = none := new₀ _ (by rw [hC]; exact Nat.le_succ _)
  have hLD : L ≠ D := by rw [← hD]; exact Nat.ne_of_lt F.ns.lt
  have hLC : L ≠ C := by have : @LT.lt Nat _ L D := hD ▸ F.ns.lt; rw [hC]; exact Nat.ne_of_lt (Nat.lt_succ_of_lt this)
  obtain ⟨oI₀, eI₀, hIc, hId⟩ := hI
  have hID : I ≠ D := offD _ _ eI₀
  have hIC : I ≠ C := offC _ _ eI₀
  have off3 : ∀ p ∈ news, p.1 ≠ I ∧ p.1 ≠ C ∧ p.1 ≠ D := fun p hp => ⟨off p hp, offC _ _ (N p hp).1, offD _ _ (N p hp).1⟩
  have off₀ : LCg.Off3 I C D news := LCg.Off3.of off3
  have N₁ : News h₀ L h₁ ((D, LCg.lst []) :: news) := fun p hp => by
    rcases List.mem_cons.mp hp with rfl | hp
    · exact ⟨hacc, hLD.symm, hD₀⟩
    · exact ⟨old _ _ (N p hp).1, (N p hp).2⟩
  have isL : ∀ {h : Heap} {ys : List Value}, News h₀ L h ((D, LCg.lst ys) :: news) → h.IsList ax its := fun N => ⟨_, (N _ (.tail _ hax)).1, rfl, k, rfl⟩
  have hI₁ : h₁.IsListIter I ax 0 := ⟨oI₀, old _ _ eI₀, hIc, hId⟩
  have loop : ∀ s₃ : Shared, s₃ = { s₂ with heap := h₁, toks := s₂.toks + ([] : List (Str × Value)).length } →
      codeAny (model prog w) A (.compLoop (.ListComp elt [⟨.Tuple [.Name x px, .Name x₂ px₂] tk0 tp, iter, [ct], 0⟩] scope pos) 0 (.ref I) (.ref D) (compEnvC scope cl C env)) (RR (.ref D) C) s₃ := by
    rintro s₃ rfl
    refine kct_loop (fun j s' => ∃ h' tk i ys m', s' = { s₂ with heap := h', toks := tk } ∧ i ≤ its.size ∧ j = its.size + 1 - i ∧ ys.length ≤ i ∧ h'.IsListIter I ax i ∧ Fr h₀ L h' m ∧ h'.Ns C m' ∧ News h₀ L h' ((D, LCg.lst ys) :: news) ∧ J i ys) ?_ (its.size + 1)
      ⟨h₁, _, 0, [], _, rfl, Nat.zero_le _, rfl, Nat.le_refl _, hI₁, F.keeps old, hns₁, N₁, hJ0⟩
    rintro j s' ⟨h', tk, i, ys, m', rfl, hi, rfl, hyl, hI', F', hn', N', hJ⟩
    by_cases hlt : i < its.size
    · refine W.item i _ _ _ hlt ⟨hI', isL N'⟩ fun v h₂ tk₂ hPv st₂ hk₂ => ?_
      have kk : ∀ b o, b ≠ I → h'.get? b = some o → h₂.get? b = some o := fun b o hb e => hk₂ b o (by simpa using hb) e
      have N₂ : News h₀ L h₂ ((D, LCg.lst ys) :: news) := fun p hp => by
        refine ⟨kk _ _ ?_ (N' p hp).1, (N' p hp).2⟩
        rcases List.mem_cons.mp hp with rfl | hp
        · exact hID.symm
        · exact off p hp
      have F₂ : Fr h₀ L h₂ m := LCg.fr_but F' hk₂ hIL hI₀
      obtain ⟨t, ot, v₁, v₂, nt, rfl, hmt, hct, hdt, R⟩ := turn i ys v hlt hJ hPv
      have ht : IsTup h₂ t #[v₁, v₂] := ⟨ot, (N₂ _ (.tail _ hmt)).1, hct, nt, hdt⟩
      refine wpAny_letOwnedTupleGo_listiter st₂.1 ?_
      refine kcp_assign (env := compEnvC scope cl C env) hh ht (lookup_relabel_local hx) (lookup_relabel_local hx₂) (by simp [compEnvC, relabel, hkind]) (hn'.at' fun o e => kk _ o hIC.symm e) fun h₃ tk₃ hn₃ up₃ => ?_
      have up₃ : ∀ b o, b ≠ C → h₂.get? b = some o → h₃.get? b = some o := up₃
      have F₃ : Fr h₀ L h₃ m := LCg.fr_but F₂ (fun b o hb e => up₃ b o (by simpa using hb) e) hLC hC₀
      obtain ⟨oC, eC, hoC⟩ := LCg.ns_obj hn₃
      obtain ⟨oI, eI, hIc', hId'⟩ := st₂.1
      have eI₃ := up₃ _ _ hIC eI
      have N₃ : News h₀ L h₃ ((I, oI) :: (C, oC) :: (D, LCg.lst ys) :: news) := fun p hp => by
        rcases List.mem_cons.mp hp with rfl | hp
        · exact ⟨eI₃, hIL.symm, hI₀⟩
        rcases List.mem_cons.mp hp with rfl | hp
        · exact ⟨eC, hLC.symm, hC₀⟩
        refine ⟨up₃ _ _ ?_ (N₂ p hp).1, (N₂ p hp).2⟩
        rcases List.mem_cons.mp hp with rfl | hp
        · exact hDC
        · exact (off3 p hp).2.1
      refine wpAny_mono (R I oI C oC D _ h₃ tk₃ _ hoC (by simp [hxx]) (by simp) F₃ N₃ off₀ ⟨hIC, hID, hDC.symm⟩) (fun ok s₄ h₄ => ?_) fun _ _ e => e
      cases ok with
      | true =>
        rw [if_pos rfl] at h₄ ⊢
        refine wpAny_mono h₄ (fun y s₅ h₅ => ?_) fun _ _ e => e
        obtain ⟨h₆, tk₆, news₆, rfl, F₆, N₆, -, -, rfl, hJ₆⟩ := h₅
        have zD := (N₆ _ (.tail _ (.tail _ (.head _)))).1
        refine append_at (hsz := by show ys.toArray.size ≤ sizeLine; rw [List.size_toArray]; exact Nat.le_trans (Nat.le_trans hyl hi) hsz) zD fun h₇ hs₇ hD₇ => ?_
        refine ⟨its.size + 1 - (i + 1), by omega, h₇, tk₆, i + 1, ys ++ [y], _, rfl, hlt, rfl, by rw [List.length_append, List.length_singleton]; exact Nat.succ_le_succ hyl, ⟨oI, hs₇.extBut _ _ hID (N₆ _ (.head _)).1, hIc', hId'⟩, F₆.change hs₇ hLD.symm hD₀, (hoC.ns (N₆ _ (.tail _ (.head _))).1).sameBut hs₇ hDC.symm, fun p hp => ?_, hJ₆⟩
        rcases List.mem_cons.mp hp with rfl | hp
        · exact ⟨hD₇.trans (congrArg some (LCg.lst_snoc ys y)), hLD.symm, hD₀⟩
        · have z := N₆ p (.tail _ (.tail _ (.tail _ hp)))
          exact ⟨hs₇.extBut _ _ (off3 p hp).2.2 z.1, z.2⟩
      | false =>
        rw [if_neg (by decide)] at h₄ ⊢
        obtain ⟨h₆, tk₆, news₆, rfl, F₆, N₆, -, -, rfl, hJ₆⟩ := h₄
        exact ⟨its.size + 1 - (i + 1), by omega, h₆, tk₆, i + 1, ys, _, rfl, hlt, rfl, Nat.le_succ_of_le hyl, ⟨oI, (N₆ _ (.head _)).1, hIc', hId'⟩, F₆, hoC.ns (N₆ _ (.tail _ (.head _))).1, fun p hp => N₆ p (.tail _ (.tail _ hp)), hJ₆⟩
    · obtain rfl : i = its.size := Nat.le_antisymm hi (Nat.not_lt.mp hlt)
      refine W.done _ _ _ ⟨hI', isL N'⟩ fun h₂ tk₂ hk₂ => ?_
      have kk : ∀ b o, b ≠ I → h'.get? b = some o → h₂.get? b = some o := fun b o hb e => hk₂ b o (by simpa using hb) e
      refine hRR _ _ h₂ tk₂ _ ys (LCg.fr_but F' hk₂ hIL hI₀) (fun p hp => ⟨kk _ _ ?_ (N' p hp).1, (N' p hp).2⟩) off₀.one (hn'.at' fun o e => kk _ o hIC.symm e) hC₀ hD₀ hLC.symm hLD.symm hDC.symm (fun p hp => (off3 p hp).2.1) (hfin ys hJ)
      rcases List.mem_cons.mp hp with rfl | hp
      · exact hID.symm
      · exact off p hp
  exact codeAny_compStart_list (loop _ rfl) (W.self 0 _ _ _ ⟨hI₁, isL N₁⟩ (loop _ rfl))
theorem ListComp_PT {ct elt iter : PySem.Expr} {x x₂ : Str} {px px₂ tp : Pos} {tk0 : Nat} {scope : Scope} {cl : List (Str × Addr)} {pos : Pos} {Q : Value → Shared → Prop} (F₀ : Fr h₀ L s.heap m)
    (hclos : closureFor scope env = pure cl) (hcell : ∀ y ∈ scope.names, y.2 ≠ .cell) (hkind : scope.kind = .function)
    (hnames : ∀ y ∈ scope.names, y.2 = .local → scope.names.lookup y.1 = some .local) (hx : scope.names.lookup x = some .local) (hx₂ : scope.names.lookup x₂ = some .local) (hxx : x ≠ x₂)
    (h : wpAny (model prog w) A (eval iter env) (SrcPT prog w A h₀ L m env ct elt x x₂ scope cl Q) E s)
    (hs : ∀ x, foldedSetIterable iter env x = pure x := by intro _; rfl) :
    wpAny (model prog w) A (eval (.ListComp elt [⟨.Tuple [.Name x px, .Name x₂ px₂] tk0 tp, iter, [ct], 0⟩] scope pos) env) Q E s := by
  rw [eval_ListComp]
  refine wpAny_comprehension_free (use := none) rfl hs hclos hkind hnames (wpAny_mono h (fun xv s₁ h₁ => ?_) fun _ _ e => e)
  obtain ⟨ax, its, k, news, rfl, hh, F, N, hax, hsz, J, hJ0, hfin, turn⟩ := h₁
  have hl : s₁.heap.IsList ax its := ⟨_, (N _ hax).1, rfl, k, rfl⟩
  refine wpAny_pyIter_list hl ?_
  have up : ∀ b o, s₁.heap.get? b = some o → (s₁.heap.push { cls := .type "list_iterator", data := .fields #[.ref ax, .int 0 0] }).get? b = some o := fun b o e => Heap.get?_push_of_some _ e
  refine block_PT (Fin := fun ys => LCg.FinE h₀ L m s₁ Q ys news) hh hsz hcell hkind hx hx₂ hxx ⟨_, Heap.get?_push_size _ rfl, rfl, rfl⟩ hax (F.keeps up) (N.grown up) (Nat.ne_of_lt F.ns.lt) (next_is_new F) (fun p hp => Nat.ne_of_lt (Heap.lt_size (N p hp).1)) hJ0 hfin turn ?_
  intro D C h tk m' ys F' N' o1 hn hC₀ hD₀ hCL hDL hCD offC fin
  refine ⟨m', hn, fun h'' hs'' => fin D h'' tk (F'.change hs'' hCL hC₀) (fun p hp => ?_) o1⟩
  refine ⟨hs''.extBut _ _ ?_ (N' p hp).1, (N' p hp).2⟩
  rcases List.mem_cons.mp hp with rfl | hp
  · exact Ne.symm hCD
  · exact offC p hp
end
end Mine
end
section
open PySem PySem.W PyProof.Rows PySem.Calls
namespace Mine
section
variable {prog : Program} {w : World} {A : Around} {E : Value → Shared → Prop} {s : Shared} {h₀ : Heap} {L : Addr} {m : Str → Option Value} {news news' : List (Addr × Obj)}
theorem sliceIdx (n : Nat) : sliceIndices .none .none .none n = pure (0, (n : Int), 1) := rfl
theorem setSlice_K {h : Heap} {l D sl : Addr} {its new : Array Value} {n n2 : Nat} {oD : Obj} {Q : Unit → Shared → Prop} (F : Fr h₀ L h m) (N : News h₀ L h news) (hheap : s.heap = h.push { cls := .type "slice", data := .fields #[.none, .none, .none] }) (hsa : sl = h.objs.size) (U : Upd l (W.listOf its n) (W.listOf new (if (new.size == its.size) = true then n else n + 1)) news news')
    (hD : (D, oD) ∈ news) (hDc : oD.cls = .type "list") (hDd : oD.data = .seq new n2) (hne : l ≠ D) (hz1 : its.size ≤ 1000000) (hz2 : new.size ≤ 1000000) (hQ : ∀ h', Fr h₀ L h' m → News h₀ L h' news' → Q () { s with heap := h' }) :
    wpAny (model prog w) A (setItem (.ref l) (.ref sl) (.ref D)) Q E s := by
  subst hsa
  obtain ⟨pre, post, rfl, rfl, ha, hb⟩ := U.split
  have z := N (l, W.listOf its n) (List.mem_append.mpr (.inr (.head _)))
  have zD := N _ hD
  have ho : s.heap.get? l = some (W.listOf its n) := by rw [hheap]; exact Heap.get?_push_of_some _ z.1
  have hoD : s.heap.get? D = some oD := by rw [hheap]; exact Heap.get?_push_of_some _ zD.1
  have hsl : s.heap.get? h.objs.size = some { cls := .type "slice", data := .fields #[.none, .none, .none] } := by rw [hheap]; exact Heap.get?_push_size _ rfl
  have hl : s.heap.IsList l its := ⟨_, ho, rfl, n, rfl⟩
  have hTs : s.TypeIs (.ref h.objs.size) "slice" := ⟨_, hsl, rfl⟩
  have hTD : s.TypeIs (.ref D) "list" := ⟨_, hoD, hDc⟩
  unfold setItem
  refine wpAny_holding ?_
  refine wpAny_bind (wpAny_sequenceKey hl.typeIs (by decide) ?_)
  refine wpAny_bind (wpAny_callSpecial?_slot (name := Str.ofString "__setitem__") hl.typeIs slot_list_setitem
    (wpAny_call_entry slot_list_setitem hl.typeIs entry_list_setitem ?_ (args_list_setitem _ _ _)))
  show wpAny _ _ (Builtin.List.listSubscript? (.ref h.objs.size) >>= _) _ _ s
  unfold Builtin.List.listSubscript?
  refine wpAny_bind (wpAny_bind (wpAny_specialOf hTs slice_no_index (wpAny_pure ?_)))
  refine wpAny_bind (wpAny_typeOf hTs ?_)
  rw [if_neg (by decide)]
  refine wpAny_bind ?_
  rw [listSliceParts_eq]
  refine wpAny_bind (wpAny_field hsl rfl (x := .none) rfl (wpAny_bind (wpAny_listPart .none ?_)))
  rw [if_neg (by decide)]
  refine wpAny_bind (wpAny_field hsl rfl (x := .none) rfl (wpAny_bind (wpAny_listPart .none ?_)))
  refine wpAny_bind (wpAny_field hsl rfl (x := .none) rfl (wpAny_bind (wpAny_listPart .none ?_)))
  refine wpAny_pure ?_
  dsimp only
  rw [if_neg (show ¬ (Builtin.List.listSameRef (.ref l) (.ref D) = true) from by show ¬ ((l == D) = true); simpa using hne)]
  refine wpAny_bind ?_
  unfold Builtin.List.listAllItems
  refine wpAny_bind (wpAny_typeOf hTD ?_)
  rw [if_pos (by decide)]
  refine wpAny_listItems hoD hDd ?_
  refine wpAny_bind (wpAny_listItems ho rfl ?_)
  refine wpAny_bind (wpAny_of_eq (sliceIdx _) ?_)
  dsimp only
  rw [if_pos (by decide)]
  refine wpAny_bind (wpAny_rule ?_)
  rw [if_neg (by show ¬ (decide (its.size + new.size > sizeLine) = true); rw [sizeLine_eq]; simp; omega)]
  have hf : ∀ xs : Array Value, xs = its → xs.extract 0 (Int.toNat 0) ++ new ++ xs.extract (max 0 (its.size : Int)).toNat xs.size = new := by
    rintro xs rfl
    have e1 : (max 0 (xs.size : Int)).toNat = xs.size := by omega
    rw [e1]
    simp
  have hz3 : its.size ≤ sizeLine := by rw [sizeLine_eq]; omega
  have hz4 : new.size ≤ sizeLine + 1 := by rw [sizeLine_eq]; omega
  show wpAny _ _ (updateSeq l _ >>= _) _ _ _
  refine wpAny_bind (wpAny_updateSeq ho rfl ?_ hz3 (by rw [hf its rfl]; exact hz4))
  refine wpAny_bind (wpAny_letGo ?_)
  refine wpAny_bind (wpAny_pure (wpAny_pure ⟨_, rfl, ?_⟩))
  generalize hg : (fun xs : Array Value => xs.extract 0 (Int.toNat 0) ++ new ++ xs.extract (max 0 (its.size : Int)).toNat xs.size) = f
  have hfi : f its = new := by rw [← hg]; exact hf its rfl
  refine wpAny_pure ?_
  have F2 : Fr h₀ L s.heap m := by rw [hheap]; exact F.push _
  have N2 : News h₀ L s.heap (pre ++ (l, W.listOf its n) :: post) := by
    intro p hp
    rw [hheap]
    exact ⟨Heap.get?_push_of_some _ (N p hp).1, (N p hp).2⟩
  obtain ⟨F3, N3⟩ := news_upd (f := Obj.mapSeq f) (o' := W.listOf new (if (new.size == its.size) = true then n else n + 1)) F2 N2 ha hb (by show Obj.mapSeq f _ = _; unfold Obj.mapSeq; dsimp only; rw [hfi]) rfl
  exact hQ _ F3 N3
end
end Mine
end
section
open PySem PySem.W PyProof.Rows
namespace Mine
theorem datall_cons {R : List (Addr × Obj)} {v : Value} {r : List Value} {T : List (Str × Str)} (h : DatAll R (v :: r) (T.map pairD)) :
    ∃ p T', T = p :: T' ∧ ∃ a t1 t2 n, v = .ref a ∧ (a, ({ cls := .type "tuple", data := .seq [Value.str p.1 t1, Value.str p.2 t2].toArray n } : Obj)) ∈ R ∧ DatAll R r (T'.map pairD) := by
  cases T with
  | nil => cases h
  | cons p T' =>
    refine ⟨p, T', rfl, ?_⟩
    rw [List.map_cons] at h
    generalize hd : pairD p = d at h
    cases h with
    | cons hv hr =>
      unfold pairD at hd
      subst hd
      cases hv with
      | tuple hm ha =>
        cases ha with
        | cons h1 ha =>
          cases ha with
          | cons h2 ha =>
            cases ha
            cases h1
            cases h2
            exact ⟨_, _, _, _, rfl, hm, hr⟩
theorem datall_nil {R : List (Addr × Obj)} {T : List (Str × Str)} (h : DatAll R [] (T.map pairD)) : T = [] := by
  cases T with
  | nil => rfl
  | cons p T' => cases h
theorem get1_snoc {T : List (Str × Str)} {p : Str × Str} {ln : Str} (hg : get1 T ln = none) (hne : ¬ (low p.1 == ln) = true) : get1 (T ++ [p]) ln = none := by
  unfold get1 at *
  rw [Option.map_eq_none_iff] at *
  rw [List.find?_append, hg, Option.none_or, List.find?_cons]
  rw [Bool.not_eq_true] at hne
  rw [hne]
  rfl
theorem get1_hit {T T' : List (Str × Str)} {p : Str × Str} {ln : Str} (hg : get1 T ln = none) (he : (low p.1 == ln) = true) : get1 (T ++ p :: T') ln = some p.2 := by
  unfold get1 at *
  rw [Option.map_eq_none_iff] at hg
  rw [List.find?_append, hg, Option.none_or, List.find?_cons, he]
  rfl
theorem datall_drop {hs : List Value} {i : Nat} {v : Value} (h : hs.toArray[i]? = some v) : hs.drop i = v :: hs.drop (i + 1) := by
  have h' : hs[i]? = some v := by simpa using h
  have hi : i < hs.length := (List.getElem?_eq_some_iff.mp h').1
  rw [List.drop_eq_getElem_cons hi]
  congr 1
  exact Option.some.inj ((List.getElem?_eq_getElem hi).symm.trans h')
theorem datin_pair {R : List (Addr × Obj)} {a : Addr} {p : Str × Str} {t1 t2 : Tok} {n : Nat} (h : (a, ({ cls := .type "tuple", data := .seq [Value.str p.1 t1, Value.str p.2 t2].toArray n } : Obj)) ∈ R) : DatIn R (.ref a) (pairD p) :=
  .tuple h (.cons (.str _ _) (.cons (.str _ _) .nil))
theorem dropN_snoc (T : List (Str × Str)) (p : Str × Str) (ln : Str) : dropN (T ++ [p]) ln = if (low p.1 != ln) = true then dropN T ln ++ [p] else dropN T ln := by
  unfold dropN
  rw [List.filter_append]
  by_cases h : (low p.1 != ln) = true
  · rw [if_pos h, List.filter_cons, if_pos h]; rfl
  · rw [if_neg h, List.filter_cons, if_neg h]; simp
theorem compJ_keep {R : List (Addr × Obj)} {ys hs : List Value} {T T1 T2 T3 : List (Str × Str)} {p : Str × Str} {a : Addr} {t1 t2 : Tok} {n i : Nat} {ln : Str} (hT : T = T1 ++ T2) (hT3 : T2 = p :: T3)
    (hma : (a, ({ cls := .type "tuple", data := .seq [Value.str p.1 t1, Value.str p.2 t2].toArray n } : Obj)) ∈ R) (h1 : DatAll R ys ((dropN T1 ln).map pairD)) (h3 : DatAll R (hs.drop (i + 1)) (T3.map pairD)) (hb : (low p.1 != ln) = true) :
    ∃ T1 T2, T = T1 ++ T2 ∧ DatAll R (ys ++ [.ref a]) ((dropN T1 ln).map pairD) ∧ DatAll R (hs.drop (i + 1)) (T2.map pairD) :=
  ⟨T1 ++ [p], T3, by rw [hT, hT3]; simp, by rw [dropN_snoc, if_pos hb, List.map_append]; exact h1.append (DatAll.one (datin_pair hma)), h3⟩
theorem compJ_skip {R : List (Addr × Obj)} {ys hs : List Value} {T T1 T2 T3 : List (Str × Str)} {p : Str × Str} {i : Nat} {ln : Str} (hT : T = T1 ++ T2) (hT3 : T2 = p :: T3)
    (h1 : DatAll R ys ((dropN T1 ln).map pairD)) (h3 : DatAll R (hs.drop (i + 1)) (T3.map pairD)) (hb : (low p.1 != ln) = false) :
    ∃ T1 T2, T = T1 ++ T2 ∧ DatAll R ys ((dropN T1 ln).map pairD) ∧ DatAll R (hs.drop (i + 1)) (T2.map pairD) :=
  ⟨T1 ++ [p], T3, by rw [hT, hT3]; simp, by rw [dropN_snoc, hb, if_neg (by decide)]; exact h1, h3⟩
theorem news_reord {h₀ h : Heap} {L : Addr} {t a b x d l : Addr × Obj} {R : List (Addr × Obj)} (N : News h₀ L h (t :: a :: b :: x :: d :: l :: R)) : News h₀ L h (x :: d :: l :: t :: R) := by
  intro p hp
  refine N p ?_
  simp only [List.mem_cons] at hp ⊢
  rcases hp with h | h | h | h | h <;> simp [h]
theorem led_sub6 {t a b x d l : Addr × Obj} {R : List (Addr × Obj)} : ∀ q ∈ x :: d :: l :: R, q ∈ t :: a :: b :: x :: d :: l :: R := fun _ h => .tail _ (.tail _ (.tail _ h))
theorem led_sub4 {t x d l : Addr × Obj} {R : List (Addr × Obj)} : ∀ q ∈ x :: d :: l :: R, q ∈ t :: x :: d :: l :: R := fun _ h => .tail _ h
def RaiseTo (T : List (Str × Str)) (fn fv : Str) (T' : List (Str × Str)) : Prop := (nameBad (low fn) = true ∧ T' = T) ∨ (nameBad (low fn) = false ∧ valBad (newVal T fn fv) = true ∧ T' = dropN T (low fn))
theorem newVal_none {T : List (Str × Str)} {fn fv : Str} (h : get1 T (low fn) = none) : newVal T fn fv = fv := by unfold newVal; rw [h]
theorem newVal_some {T : List (Str × Str)} {fn fv o : Str} (h : get1 T (low fn) = some o) : newVal T fn fv = o ++ Str.ofString "," ++ fv := by unfold newVal; rw [h]
abbrev laidScope : Scope := { kind := ScopeKind.function, names := [(Str.ofString "table", NameKind.local), (Str.ofString "field", NameKind.local), (Str.ofString "old", NameKind.local)], isGenerator := false, isCoroutine := false }
theorem delItem_own {M : Model} {A : Around} {E : Value → Shared → Prop} {s : Shared} {K : Frag} {x C L f : Addr} {h₀ : Heap} {m : Str → Option Value} {ox : Obj} {od : Option Obj} {i : Value} {Q : Unit → Shared → Prop} (F : Fr h₀ L s.heap m) (X₀ : K.In h₀) (I : InstAt s.heap x ox C od) (hq : noSeq K C = true) (hs : findIn K (.ref C) "__delitem__" = some (some (.ref f))) (hf : isFn K (.ref f) = true)
    (h : wpAny M A (call (.ref f) [.ref x, i]) (fun _ s' => Q () s') E s) : wpAny M A (delItem (.ref x) i) Q E s := by
  have X := X₀.keeps F.keep
  unfold delItem sequenceKey
  refine wpAny_holding (wpAny_bind (wpAny_bind (I.type.here ?_)))
  refine wpAny_bind ((anyM_none X hq).here ?_)
  rw [if_pos (show (!false) = true from rfl)]
  exact wpAny_pure (wpAny_bind (special_fn X I hs (beq_iff_eq.mp hf) (wpAny_mono h (fun _ _ z => wpAny_pure z) fun _ _ z => z)))
end Mine
end
section
open PySem PySem.W PyProof.Rows
namespace Mine
local macro_rules | `(tactic| k_mem) => `(tactic| first | assumption | exact List.mem_append_right _ (by assumption) | exact List.mem_append_left _ (by assumption))
local macro_rules | `(tactic| k_all) => `(tactic| exact fun p hp => Nat.ne_of_lt (Nat.lt_of_lt_of_le (kst_ltOf (by first | assumption | exact And.right (by assumption) | exact And.right (And.right (by assumption)) | exact And.right (And.right (And.right (by assumption))) | exact And.right (And.right (And.right (And.right (by assumption)))) | exact And.right (And.right (And.right (And.right (And.right (by assumption))))) | exact And.right (And.right (And.right (And.right (And.right (And.right (by assumption)))))) | exact And.right (And.right (And.right (And.right (And.right (And.right (And.right (by assumption)))))))) p hp) (by omega)))
local macro_rules | `(tactic| walk_at "getMethod ref") => `(tactic| (k_here; first
  | ((with_reducible show wpAny _ _ (getMethod (Value.ref 43) _ _) _ _ _); (refine' method43 ?zq1 ?zq2 ?_; (case zq1 => k_asm); (case zq2 => k_asm)))
  | ((with_reducible show wpAny _ _ (getMethod (Value.ref 48) _ _) _ _ _); (refine' method48 ?zq1 ?zq2 ?_; (case zq1 => k_asm); (case zq2 => k_asm)))))
local macro_rules | `(tactic| walk_at "call builtin:re.Pattern.search") => `(tactic| (k_here; first
  | (refine' search43_ok ?zq1 ?zq2 ?zq3 ?zq4 ?_; (case zq3 => assumption); (case zq1 => k_asm); (case zq2 => k_asm); (case zq4 => omega))
  | (refine' search48_ok ?zq1 ?zq2 ?zq3 ?zq4 ?_; (case zq3 => assumption); (case zq1 => k_asm); (case zq2 => k_asm); (case zq4 => omega))
  | (refine' search43_hit ?zq1 ?zq2 ?zq0 ?zq3 ?zq4 ?_; (case zq3 => assumption); (case zq1 => k_asm); (case zq2 => k_asm); (case zq0 => k_asm); (case zq4 => omega); intro D' o' h' hc' hd' F' N' l1; (try k_lt l1))
  | (refine' search48_hit ?zq1 ?zq2 ?zq0 ?zq3 ?zq4 ?_; (case zq3 => assumption); (case zq1 => k_asm); (case zq2 => k_asm); (case zq0 => k_asm); (case zq4 => omega); intro D' o' h' hc' hd' F' N' l1; (try k_lt l1))))
local macro_rules | `(tactic| walk_at "truthy ref") => `(tactic| (k_here; (refine' truthy_match ?zq1 ?zq2 ?zq3 ?_; (case zq1 => k_asm); (case zq2 => k_mem); (case zq3 => assumption))))
local macro_rules | `(tactic| walk_at "delItem ref str") => `(tactic| (k_here; (with_reducible show wpAny _ _ (delItem (Value.ref _) _) _ _ _); k_dflt (refine' delItem_own ?zq1 ?zq2 ?zq3 ?zq4 ?zq5 ?zq6 ?_; (case zq1 => k_asm); (case zq2 => k_asm); (case zq3 => k_inst); (case zq5 => k_is); (case zq6 => k_is); (case zq4 => k_is); k_whole)))

theorem set_call : ∀ (w : World) (mean : ExcName → Option Value) (mg mb : Str → Option Value) (base h₀ : Heap) (L0 a0 : Addr) (c0 : Value) (L1 L L2 : Addr) (m : Str → Option Value) (s : Shared) (Q : Value → Shared → Prop) (E : Value → Shared → Prop)
     (x d lh : Addr) (tk0 : Tok) (hs : List Value) (n : Nat) (R : List (Addr × Obj)) (T : List (Str × Str)) (fn nv : Str) (t1 t3 : Tok),
   Below (((callerA.deeper (envOf (Str.ofString "law") lawScope L0 a0 c0)).deeper (envOf (Str.ofString "_law_told") toldScope L1 205 (Value.ref 204))).deeper (envOf (Str.ofString "reduce") redScope L 184 (Value.ref 183))) base [(envOf (Str.ofString "reduce") redScope L 184 (Value.ref 183)), (envOf (Str.ofString "_law_told") toldScope L1 205 (Value.ref 204)), (envOf (Str.ofString "law") lawScope L0 a0 c0)] h₀ → Fr h₀ L2 s.heap m → (hd.heap_39 w.params).In h₀ →
   News h₀ L2 s.heap ((x, instObj 171 d) :: (d, dictOf [⟨PyData.keyHash w.params (Str.ofString "_headers"), Value.str (Str.ofString "_headers") tk0, Value.ref lh⟩] 1) :: (lh, W.listOf hs.toArray n) :: R) →
   Top hd.view_39 loose4 mean mg mb h₀ →
   DatAll R hs (T.map pairD) → OwnOff R [x, d, lh] → @LT.lt Nat _ d x → @LT.lt Nat _ lh d →
   fn.length ≤ 64 → nv.length ≤ 65536 → T.length ≤ 64 → (∀ p ∈ T, p.1.length ≤ 64 ∧ p.2.length ≤ 65536) → nameBad (low fn) = false → nameBad fn = false →
   (valBad nv = false → ∀ (hs' : List Value) (n' : Nat) (tn : Addr) (h' : Heap) (tk' : Nat), Fr h₀ L2 h' m → News h₀ L2 h' ((x, instObj 171 d) :: (d, dictOf [⟨PyData.keyHash w.params (Str.ofString "_headers"), Value.str (Str.ofString "_headers") tk0, Value.ref lh⟩] 1) :: (lh, W.listOf hs'.toArray n') :: (tn, ({ cls := .type "tuple", data := .seq [Value.str fn t1, Value.str nv t3].toArray } : Obj)) :: R) →
     DatAll ((tn, ({ cls := .type "tuple", data := .seq [Value.str fn t1, Value.str nv t3].toArray } : Obj)) :: R) hs' ((dropN T (low fn) ++ [(fn, nv)]).map pairD) → AllLt tn R → @LT.lt Nat _ x tn → Q .none { s with heap := h', toks := tk' }) →
   (valBad nv = true → ∀ (g : Heap) (e t : Addr) (us : List Value) (hs' : List Value) (n' : Nat) (led : List (Addr × Obj)) (h' : Heap) (tk' : Nat), Fr h₀ L2 g m → RaisedS base g [(envOf (Str.ofString "_law_laid") laidScope L2 198 (Value.ref 197)), (envOf (Str.ofString "reduce") redScope L 184 (Value.ref 183)), (envOf (Str.ofString "_law_told") toldScope L1 205 (Value.ref 204)), (envOf (Str.ofString "law") lawScope L0 a0 c0)] e (.type "ValueError") t us led h' → RaisedK base [(envOf (Str.ofString "_law_laid") laidScope L2 198 (Value.ref 197)), (envOf (Str.ofString "reduce") redScope L 184 (Value.ref 183)), (envOf (Str.ofString "_law_told") toldScope L1 205 (Value.ref 204)), (envOf (Str.ofString "law") lawScope L0 a0 c0)] e (.type "ValueError") t us led h' → g.UpToSlots h' →
     (∀ q ∈ ((x, instObj 171 d) :: (d, dictOf [⟨PyData.keyHash w.params (Str.ofString "_headers"), Value.str (Str.ofString "_headers") tk0, Value.ref lh⟩] 1) :: (lh, W.listOf hs'.toArray n') :: R), q ∈ led) → DatAll R hs' ((dropN T (low fn)).map pairD) → E (.ref e) { s with heap := h', toks := tk' }) →
   wpAny (model PySem.Challenge.rw_mr0261_01.row.prog w) ((((callerA.deeper (envOf (Str.ofString "law") lawScope L0 a0 c0)).deeper (envOf (Str.ofString "_law_told") toldScope L1 205 (Value.ref 204))).deeper (envOf (Str.ofString "reduce") redScope L 184 (Value.ref 183))).deeper (envOf (Str.ofString "_law_laid") laidScope L2 198 (Value.ref 197))) (call (.ref 84) [.ref x, .str fn t1, .str nv t3]) Q E s := by
  k_with_none; w_on; w_top on; k_fill
  intro w mean mg mb base h₀ L0 a0 c0 L1 L L2 m s Q E x d lh tk0 hs n R T fn nv t1 t3 B F X N Tp hD hoff hdx hld hfn hnv hT hTs hnb1 hnb2 hok hraise
  have KD : KtsDicts [] h₀ := ktsDicts_nil
  k_with "eval ListComp" =>
    k_dflt (refine LCt.ListComp_T (F₀ := by k_asm) (by with_unfolding_all rfl) (by decide) (by rfl) (by decide) (by rfl) ?_)
  k_with "CompSrcT" =>
    rename Fr _ _ _ _ => lF'
    rename News _ _ _ _ => lN'
    k_dflt (refine' LCt.CompSrcT.ledger (its := hs.toArray) (k := n) ?cs1 lF' lN' ?cs2 ?cs3 ?_)
    case cs1 => rfl
    case cs2 => k_mem
    case cs3 => exact (by rw [List.size_toArray, hD.length, List.length_map, sizeLine_eq]; omega)
    intro g'
    refine' restT_ind (fun i ys => ∃ T1 T2, T = T1 ++ T2 ∧ DatAll R ys ((dropN T1 (low fn)).map pairD) ∧ DatAll R (hs.drop i) (T2.map pairD)) ?cs4 ?cs5 ?cs6
    case cs6 => exact ⟨[], T, rfl, .nil, hD⟩
    case' cs4 =>
      intro ys' hJ'
      obtain ⟨T1', T2', hT', hD1', hD2'⟩ := hJ'
      rw [List.drop_eq_nil_of_le (by simp), ] at hD2'
      have hT2' := datall_nil hD2'
      rw [hT2', List.append_nil] at hT'
      rw [← hT'] at hD1'
    case' cs5 =>
      intro i' ys' v' I' oI' C' oC' D' m' h' tk' E' hi' hJ' hv' hC' hx' F' N' off' ne'
      obtain ⟨T1', T2', hT', hD1', hD2'⟩ := hJ'
      rw [datall_drop hv'] at hD2'
      obtain ⟨p', T3', hT3', a', t1', t2', n', hv2', hma', hD3'⟩ := datall_cons hD2'
      subst hv2'
      have hpl' := hTs p' (by rw [hT', hT3']; simp)
  k_with "CompEnd" =>
    refine' compEnd_same ?ce1 ?ce2 ?ce3 ?ce4 ?ce5 ?ce6
    case ce1 => k_asm
    case ce2 => k_asm
    case ce3 => exact fun p hp => hp
    case ce4 => exact off'
    case ce5 => exact srcAt_led (by k_mem)
    case ce6 => first | exact compJ_keep hT' hT3' hma' hD1' hD3' (by assumption) | exact compJ_skip hT' hT3' hD1' hD3' (by assumption)
  k_with "setItem ref ref" =>
    dsimp only
    rename Fr _ _ _ _ => lF'
    rename News _ _ _ _ => lN'
    k_dflt (refine' setSlice_K lF' lN' ?ss8 ?ss9 ?ss1 ?ss2 ?ss3 ?ss4 ?ss5 ?ss6 ?ss7 ?_)
    case ss8 => rfl
    case ss9 => rfl
    case ss1 => k_upd
    case ss2 => k_mem
    case ss3 => rfl
    case ss4 => rfl
    case ss5 => (refine neN ?_; omega)
    case ss6 => exact (by rw [List.size_toArray, hD.length, List.length_map]; omega)
    case ss7 => exact (by rw [List.size_toArray, hD1'.length, List.length_map]; exact Nat.le_trans (List.length_filter_le _ _) (by omega))
    intro h' F' N'
  k_with "call builtin:re.Pattern.search" =>
    show wpAny _ _ (call _ [Value.ref 48, Value.str nv _]) _ _ _
    rcases hvb : valBad nv with _ | _
  k_with "call builtin:list.append" =>
    rename Fr _ _ _ _ => lF'
    rename News _ _ _ _ => lN'
    k_dflt (refine' append_K lF' lN' ?ap1 ?_ ?ap2)
    case ap1 => k_upd
    case ap2 => exact (by rw [List.size_toArray, hD1'.length, List.length_map, sizeLine_eq]; exact Nat.le_trans (List.length_filter_le _ _) (by omega))
    rw [List.push_toArray]
    intro h' F' N'
  k_steps
  · rename News _ _ _ _ => lN'
    refine hok hvb _ _ _ _ _ (by k_asm) (news_reord lN') ?_ ?_ ?_
    · rw [List.map_append]
      exact (hD1'.mono fun p hp => .tail _ hp).append (DatAll.one (datin_pair (p := (fn, nv)) (.head _)))
    · first | assumption | exact And.right (And.right (And.right (And.right (And.right (by assumption)))))
    · omega
  · exact hraise hvb _ _ _ _ ys' _ _ _ _ (by assumption) (by assumption) (by assumption) (by assumption) led_sub6 hD1'
end Mine
end
section
open PySem PySem.W PyProof.Rows
namespace Mine
local macro_rules | `(tactic| k_mem) => `(tactic| first | assumption | exact List.mem_append_right _ (by assumption) | exact List.mem_append_left _ (by assumption))

local macro_rules | `(tactic| walk_at "getMethod ref") => `(tactic| (k_here; first
  | ((with_reducible show wpAny _ _ (getMethod (Value.ref 43) _ _) _ _ _); (refine' method43 ?zq1 ?zq2 ?_; (case zq1 => k_asm); (case zq2 => k_asm)))
  | ((with_reducible show wpAny _ _ (getMethod (Value.ref 48) _ _) _ _ _); (refine' method48 ?zq1 ?zq2 ?_; (case zq1 => k_asm); (case zq2 => k_asm)))))
local macro_rules | `(tactic| walk_at "call builtin:re.Pattern.search") => `(tactic| (k_here; first
  | (refine' search43_ok ?zq1 ?zq2 ?zq3 ?zq4 ?_; (case zq3 => assumption); (case zq1 => k_asm); (case zq2 => k_asm); (case zq4 => omega))
  | (refine' search48_ok ?zq1 ?zq2 ?zq3 ?zq4 ?_; (case zq3 => assumption); (case zq1 => k_asm); (case zq2 => k_asm); (case zq4 => omega))
  | (refine' search43_hit ?zq1 ?zq2 ?zq0 ?zq3 ?zq4 ?_; (case zq3 => assumption); (case zq1 => k_asm); (case zq2 => k_asm); (case zq0 => k_asm); (case zq4 => omega); intro D' o' h' hc' hd' F' N' l1; (try k_lt l1))
  | (refine' search48_hit ?zq1 ?zq2 ?zq0 ?zq3 ?zq4 ?_; (case zq3 => assumption); (case zq1 => k_asm); (case zq2 => k_asm); (case zq0 => k_asm); (case zq4 => omega); intro D' o' h' hc' hd' F' N' l1; (try k_lt l1))))
local macro_rules | `(tactic| walk_at "truthy ref") => `(tactic| (k_here; (refine' truthy_match ?zq1 ?zq2 ?zq3 ?_; (case zq1 => k_asm); (case zq2 => k_mem); (case zq3 => assumption))))

theorem laid_call : ∀ (w : World) (mean : ExcName → Option Value) (mg mb : Str → Option Value) (base h₀ : Heap) (L0 a0 : Addr) (c0 : Value) (L1 L : Addr) (m : Str → Option Value) (s : Shared) (Q : Value → Shared → Prop) (E : Value → Shared → Prop)
     (x d lh : Addr) (tk0 : Tok) (hs : List Value) (n : Nat) (R : List (Addr × Obj)) (T : List (Str × Str)) (ta : Addr) (fn fv : Str) (t1 t2 : Tok) (n2 : Nat),
   Below ((callerA.deeper (envOf (Str.ofString "law") lawScope L0 a0 c0)).deeper (envOf (Str.ofString "_law_told") toldScope L1 205 (Value.ref 204))) base [(envOf (Str.ofString "_law_told") toldScope L1 205 (Value.ref 204)), (envOf (Str.ofString "law") lawScope L0 a0 c0)] h₀ → Fr h₀ L s.heap m → (hd.heap_39 w.params).In h₀ →
   News h₀ L s.heap ((x, instObj 171 d) :: (d, dictOf [⟨PyData.keyHash w.params (Str.ofString "_headers"), Value.str (Str.ofString "_headers") tk0, Value.ref lh⟩] 1) :: (lh, W.listOf hs.toArray n) :: R) →
   Top hd.view_39 loose4 mean mg mb h₀ →
   DatAll R hs (T.map pairD) → (ta, ({ cls := .type "tuple", data := .seq [Value.str fn t1, Value.str fv t2].toArray n2 } : Obj)) ∈ R → OwnOff R [x, d, lh] → @LT.lt Nat _ d x → @LT.lt Nat _ lh d →
   fn.length ≤ 64 → fv.length ≤ 64 → T.length ≤ 64 → (∀ p ∈ T, p.1.length ≤ 64 ∧ p.2.length ≤ 60000) → nameBad (low fn) = nameBad fn →
   (nameBad (low fn) = false → valBad (newVal T fn fv) = false → ∀ (hs' : List Value) (n' : Nat) (tn : Addr) (t3 : Tok) (h' : Heap) (tk' : Nat), Fr h₀ L h' m → News h₀ L h' ((x, instObj 171 d) :: (d, dictOf [⟨PyData.keyHash w.params (Str.ofString "_headers"), Value.str (Str.ofString "_headers") tk0, Value.ref lh⟩] 1) :: (lh, W.listOf hs'.toArray n') :: (tn, ({ cls := .type "tuple", data := .seq [Value.str fn t1, Value.str (newVal T fn fv) t3].toArray } : Obj)) :: R) →
     DatAll ((tn, ({ cls := .type "tuple", data := .seq [Value.str fn t1, Value.str (newVal T fn fv) t3].toArray } : Obj)) :: R) hs' ((dropN T (low fn) ++ [(fn, newVal T fn fv)]).map pairD) → AllLt tn R → @LT.lt Nat _ x tn → Q (.ref x) { s with heap := h', toks := tk' }) →
   (∀ (T' : List (Str × Str)) (g : Heap) (e t : Addr) (us : List Value) (hs' : List Value) (n' : Nat) (led : List (Addr × Obj)) (h' : Heap) (tk' : Nat), RaiseTo T fn fv T' → Fr h₀ L g m → RaisedS base g [(envOf (Str.ofString "reduce") redScope L 184 (Value.ref 183)), (envOf (Str.ofString "_law_told") toldScope L1 205 (Value.ref 204)), (envOf (Str.ofString "law") lawScope L0 a0 c0)] e (.type "ValueError") t us led h' → RaisedK base [(envOf (Str.ofString "reduce") redScope L 184 (Value.ref 183)), (envOf (Str.ofString "_law_told") toldScope L1 205 (Value.ref 204)), (envOf (Str.ofString "law") lawScope L0 a0 c0)] e (.type "ValueError") t us led h' → g.UpToSlots h' →
     (∀ q ∈ ((x, instObj 171 d) :: (d, dictOf [⟨PyData.keyHash w.params (Str.ofString "_headers"), Value.str (Str.ofString "_headers") tk0, Value.ref lh⟩] 1) :: (lh, W.listOf hs'.toArray n') :: R), q ∈ led) → DatAll R hs' (T'.map pairD) → E (.ref e) { s with heap := h', toks := tk' }) →
   wpAny (model PySem.Challenge.rw_mr0261_01.row.prog w) (((callerA.deeper (envOf (Str.ofString "law") lawScope L0 a0 c0)).deeper (envOf (Str.ofString "_law_told") toldScope L1 205 (Value.ref 204))).deeper (envOf (Str.ofString "reduce") redScope L 184 (Value.ref 183))) (call (.ref 198) [.ref x, .ref ta]) Q E s := by
  k_with_none; w_on; w_top on; k_fill
  intro w mean mg mb base h₀ L0 a0 c0 L1 L m s Q E x d lh tk0 hs n R T ta fn fv t1 t2 n2 B F X N Tp hD hta hoff hdx hld hfn hfv hT hTs hnb hok hraise
  have KD : KtsDicts [] h₀ := ktsDicts_nil
  rcases hnb1 : nameBad (low fn) with _ | _
  · have hnb2 : nameBad fn = false := hnb ▸ hnb1
    k_with "exec For Tuple Attribute cons nil" =>
      rename Fr _ _ _ _ => lF'
      with_unfolding_all refine' For_turns lF' ?_
      k_whole
    k_with "pyIter ref" =>
      rename Fr _ _ _ _ => lF'
      rename News _ _ _ _ => lN'
      with_unfolding_all refine' iter_listTurns (lo := W.listOf hs.toArray n) (vs := hs) (n := n) ?pi1 lF' lN' ?pi2 ?pi3 ?pi4 ?_
      case pi1 => rfl
      case pi2 => k_mem
      case pi3 => rfl
      case pi4 => rfl
      intro I' hI'
      refine' rest_names [Str.ofString "k", Str.ofString "v"] (fun rem => ∃ T1 T2, T = T1 ++ T2 ∧ get1 T1 (low fn) = none ∧ DatAll R rem (T2.map pairD)) hs ?pi5 ?pi6 ?pi7 ?pi8
      case pi5 => exact ⟨by k_mem, trivial⟩
      case pi8 => exact ⟨[], T, rfl, rfl, hD⟩
      case' pi6 =>
        intro hJ' u' h' tk' F' N'
        obtain ⟨T1', T2', hT', hg', hD'⟩ := hJ'
        have hT2' := datall_nil hD'
        rw [hT2', List.append_nil] at hT'
        have hg2' : get1 T (low fn) = none := hT' ▸ hg'
        have hnv' := newVal_none (fv := fv) hg2'
        try dsimp only
      case' pi7 =>
        intro v' r' u' h' tk' o' hJ' F' ho' N'
        obtain ⟨T1', T2', hT', hg', hD'⟩ := hJ'
        obtain ⟨p', T3', hT3', a', t1', t2', n', hv', hma', hD3'⟩ := datall_cons hD'
        subst hv'
        have hpl' := hTs p' (by rw [hT', hT3']; simp)
    k_with "UnrEndW" =>
      refine' namesEnd_intro ?ue1 ?ue2 ?ue3 ?ue4 ?ue5 ?ue6 ?ue7
      case ue1 => k_asm
      case ue2 => k_asm
      case ue3 => exact List.Mem.head _
      case ue4 => exact fun p hp => .tail _ hp
      case ue5 => exact fun p hp => Nat.ne_of_lt (hI' p hp)
      case ue6 =>
        intro z hz
        have z1 : z ≠ Str.ofString "k" := by rintro rfl; exact absurd hz (by decide)
        have z2 : z ≠ Str.ofString "v" := by rintro rfl; exact absurd hz (by decide)
        simp only [if_neg z1, if_neg z2]
        rw [if_neg (by rw [hz]; decide)]
      case ue7 => exact ⟨T1' ++ [p'], T3', by rw [hT', hT3']; simp, get1_snoc hg' (by rw [show (low p'.1 == low fn) = false from by assumption]; decide), hD3'⟩
    k_with "call ref cons nil" =>
      show wpAny _ _ (call (Value.ref 84) [Value.ref x, Value.str fn _, Value.str _ _]) _ _ _
      rename Fr _ _ _ _ => lF'
      rename News _ _ _ _ => lN'
      try have hnv' : newVal T fn fv = p'.2 ++ Str.ofString "," ++ fv := newVal_some (by rw [hT', hT3']; exact get1_hit hg' (by assumption))
      refine set_call _ _ _ _ _ _ _ _ _ _ _ _ _ _ _ _ x d lh tk0 hs n R T fn _ t1 _ (by k_asm) lF' (by k_asm) (by first | exact lN' | exact fun p hp => lN' p (.tail _ hp)) (by k_asm) hD hoff hdx hld hfn
        (by first | omega | (simp only [Str.length_append]; have hc1 : (Str.ofString ",").length = 1 := (by decide); omega)) hT (fun p hp => ⟨(hTs p hp).1, by have := (hTs p hp).2; omega⟩) hnb1 hnb2 ?_ ?_
      all_goals first | intro hv' g' e' t' us' hs2' n2' led' h' tk' F' S' R' U' hsub' hD2' | intro hv' hs2' n2' tn' h' tk' F' N' hD2' hlt' hxt'
      all_goals try dsimp only
    k_steps
    all_goals first
      | exact hok hnb1 (by rw [hnv']; exact hv') hs2' n2' tn' _ _ _ (by k_asm) (by rw [hnv']; k_asm) (by rw [hnv']; exact hD2') hlt' hxt'
      | exact hraise _ _ _ _ _ hs2' n2' _ _ _ (.inr ⟨hnb1, by rw [hnv']; exact hv', rfl⟩) (by assumption) (by assumption) (by assumption) (by assumption) hsub' hD2'
  · k_steps
    exact hraise T _ _ _ _ hs n _ _ _ (.inl ⟨hnb1, rfl⟩) (by assumption) (by assumption) (by assumption) (by assumption) led_sub4 hD
end Mine
end
section
open PySem PySem.W PyProof.Rows
namespace Mine
section
variable {prog : Program} {w : World} {A : Around} {E : Value → Shared → Prop} {s : Shared} {env : Env} {h₀ : Heap} {target : PySem.Expr} {body : List Stmt} {Q : Flow → Shared → Prop} {I : Addr} {keep : List (Addr × Obj)} {m₀ : Str → Option Value}
structure LedEnd (names : List Str) (m₀ : Str → Option Value) (P : List (Addr × Obj) → Prop) (m' : Str → Option Value) (n' : List (Addr × Obj)) : Prop where
  map : ∀ z, names.contains z = false → m' z = m₀ z
  inv : P n'
/-- a loop over a list that turns the ledger; the names it stores are forgotten -/
theorem rest_led (names : List Str) (J : (Str → Option Value) → List Value → List (Addr × Obj) → Prop) (rem : List Value) {news : List (Addr × Obj)} (hk : ∀ rem n, J m₀ rem n → SubL keep n)
    (h0 : ∀ n (u : Str → Option Value) h tk, J m₀ [] n → Fr h₀ env.locals h (fun y => if names.contains y = true then u y else m₀ y) → News h₀ env.locals h n → Q .next { s with heap := h, toks := tk })
    (h1 : ∀ v r n (u : Str → Option Value) h tk (o : Obj), J m₀ (v :: r) n → (∀ p ∈ n, p.1 ≠ I) → Fr h₀ env.locals h (fun y => if names.contains y = true then u y else m₀ y) → o.cls = .type "list_iterator" → News h₀ env.locals h ((I, o) :: n) →
      wpAny (model prog w) A (assign target env v) (fun _ s₂ => wpAny (model prog w) A (execs body env) (UnrPostW h₀ env.locals { s with heap := h, toks := tk } [(I, o)] (LedEnd names m₀ (J m₀ r)) Q) E s₂) E { s with heap := h, toks := tk })
    (hoff : ∀ p ∈ news, p.1 ≠ I) (hJ : J m₀ rem news) : ItemsRest prog w A E h₀ env target body Q s [(I, "list_iterator")] keep (rem.map .val) m₀ news := by
  have key : ∀ (rem : List Value) (u : Str → Option Value) (n : List (Addr × Obj)), (∀ p ∈ n, p.1 ≠ I) → J m₀ rem n → ItemsRest prog w A E h₀ env target body Q s [(I, "list_iterator")] keep (rem.map .val) (fun y => if names.contains y = true then u y else m₀ y) n := by
    intro rem
    induction rem with
    | nil => intro u n _ hJ; exact fun h tk F N => h0 n u h tk hJ F N
    | cons v r ih =>
      intro u n hoff hJ
      refine ItemsRest.val fun h tk F o ho N => ?_
      refine wpAny_mono (h1 v r n u h tk o hJ hoff F ho N) (fun _ s₂ p => wpAny_mono p (fun f s₃ q => ?_) fun _ _ e => e) fun _ _ e => e
      have fin : UnrEndW h₀ env.locals { s with heap := h, toks := tk } [(I, o)] (LedEnd names m₀ (J m₀ r)) s₃ → UnrEndW h₀ env.locals { s with heap := h, toks := tk } [(I, o)] (fun m' n' => SubL keep n' ∧ ItemsRest prog w A E h₀ env target body Q s [(I, "list_iterator")] keep (r.map .val) m' n') s₃ := by
        rintro ⟨h', tk', m', n', e, F', N', off, ⟨hm, hP⟩⟩
        refine ⟨h', tk', m', n', e, F', N', off, hk _ _ hP, ?_⟩
        rw [mix_names hm]
        exact ih m' n' (fun p hp => off p hp _ (List.mem_singleton.mpr rfl)) hP
      cases f with
      | ret v => exact q
      | brk => exact q
      | next => exact fin q
      | cont => exact fin q
  have e : m₀ = fun y => if names.contains y = true then m₀ y else m₀ y := by funext y; split <;> rfl
  rw [e]
  exact key rem m₀ news hoff hJ
theorem ledEnd_intro {names : List Str} {P : List (Addr × Obj) → Prop} {L : Addr} {o : Obj} {s₁ : Shared} {h' : Heap} {tk : Nat} {m' : Str → Option Value} {all n' : List (Addr × Obj)} (F : Fr h₀ L h' m') (N : News h₀ L h' all) (hI : (I, o) ∈ all) (sub : ∀ p ∈ n', p ∈ all) (off : ∀ p ∈ n', p.1 ≠ I)
    (hm : ∀ z, names.contains z = false → m' z = m₀ z) (hP : P n') : UnrEndW h₀ L s₁ [(I, o)] (LedEnd names m₀ P) { s₁ with heap := h', toks := tk } :=
  ⟨h', tk, m', n', rfl, F, fun p hp => by
    rcases List.mem_append.mp hp with hp | hp
    · rw [List.mem_singleton.mp hp]; exact N _ hI
    · exact N p (sub p hp), fun p hp q hq => by rw [List.mem_singleton.mp hq]; exact off p hp, ⟨hm, hP⟩⟩
end
def stepT (T : List (Str × Str)) (f : Str × Str) : Option (List (Str × Str)) :=
  if nameBad (low f.1) = true then none else if valBad (newVal T f.1 f.2) = true then none else some (dropN T (low f.1) ++ [(f.1, newVal T f.1 f.2)])
def runT (fs : List (Str × Str)) : Option (List (Str × Str)) := fs.foldl (fun o f => o.bind (stepT · f)) (some [])
theorem runT_snoc (fs : List (Str × Str)) (f : Str × Str) : runT (fs ++ [f]) = (runT fs).bind (stepT · f) := by
  unfold runT
  rw [List.foldl_append]
  rfl
theorem stepT_ok {T : List (Str × Str)} {f : Str × Str} (h1 : nameBad (low f.1) = false) (h2 : valBad (newVal T f.1 f.2) = false) : stepT T f = some (dropN T (low f.1) ++ [(f.1, newVal T f.1 f.2)]) := by
  unfold stepT
  rw [h1, h2]
  rfl
def ToldIs (fs : List (Str × Str)) (b : Bool) (T' : List (Str × Str)) : Prop :=
  (b = true ∧ runT fs = some T') ∨ (b = false ∧ ∃ fs1 f fs3 T, fs = fs1 ++ f :: fs3 ∧ runT fs1 = some T ∧ RaiseTo T f.1 f.2 T')
theorem newVal_len {T : List (Str × Str)} {fn fv : Str} {b : Nat} (h : ∀ p ∈ T, p.2.length ≤ b) (hv : fv.length ≤ 64) : (newVal T fn fv).length ≤ b + 65 := by
  unfold newVal
  cases hg : get1 T (low fn) with
  | none => dsimp only; omega
  | some o =>
    dsimp only
    unfold get1 at hg
    obtain ⟨p, hp, rfl⟩ := Option.map_eq_some_iff.mp hg
    have h1 := h p (List.mem_of_find?_eq_some hp)
    have hc1 : (Str.ofString ",").length = 1 := by decide
    simp only [Str.length_append]
    omega
/-- what the loop of reduce keeps -/
structure RedInv (P : Params) (x : Addr) (fs : List (Str × Str)) (news : List (Addr × Obj)) (rem : List Value) (n : List (Addr × Obj)) : Prop where
  is : ∃ (fs1 fs2 T : List (Str × Str)) (d lh : Addr) (tk0 : Tok) (hs : List Value) (nn : Nat) (Rx : List (Addr × Obj)), fs = fs1 ++ fs2 ∧ DatAll news rem (fs2.map pairD) ∧ runT fs1 = some T ∧
    n = ((x, instObj 171 d) :: (d, dictOf [⟨PyData.keyHash P (Str.ofString "_headers"), Value.str (Str.ofString "_headers") tk0, Value.ref lh⟩] 1) :: (lh, W.listOf hs.toArray nn) :: (Rx ++ news)) ∧
    DatAll (Rx ++ news) hs (T.map pairD) ∧ OwnOff (Rx ++ news) [x, d, lh] ∧ @LT.lt Nat _ d x ∧ @LT.lt Nat _ lh d ∧ T.length ≤ fs1.length ∧ (∀ p ∈ T, p.1.length ≤ 64 ∧ p.2.length ≤ 65 * fs1.length)
theorem datall_cut {t i : Addr × Obj} {R : List (Addr × Obj)} (hi : i.2.cls = .type "list_iterator") : ∀ {hs : List Value} {T : List (Str × Str)}, DatAll (t :: i :: R) hs (T.map pairD) → DatAll (t :: R) hs (T.map pairD) := by
  intro hs
  induction hs with
  | nil => intro T h; rw [datall_nil h]; exact .nil
  | cons v r ih =>
    intro T h
    obtain ⟨p, T', rfl, a, t1, t2, n, rfl, hm, hr⟩ := datall_cons h
    refine .cons (datin_pair (t1 := t1) (t2 := t2) (n := n) ?_) (ih hr)
    rcases List.mem_cons.mp hm with h1 | h1
    · rw [h1]; exact .head _
    · rcases List.mem_cons.mp h1 with h2 | h2
      · rw [← h2] at hi; exact absurd (show Value.type "tuple" = Value.type "list_iterator" from hi) (by decide)
      · exact .tail _ h2
theorem redInv_step {P : Params} {x d lh tn I : Addr} {fs fs1 fs2 fs3 T : List (Str × Str)} {p : Str × Str} {news Rx : List (Addr × Obj)} {r hs2 : List Value} {o : Obj} {t1 t3 : Tok} {n2 : Nat} {tk0 : Tok} (hfs : fs = fs1 ++ fs2) (hfs2 : fs2 = p :: fs3) (hD3 : DatAll news r (fs3.map pairD)) (hrun : runT fs1 = some T)
    (hnb : nameBad (low p.1) = false) (hvb : valBad (newVal T p.1 p.2) = false) (ho : o.cls = .type "list_iterator")
    (hD : DatAll ((tn, ({ cls := .type "tuple", data := .seq [Value.str p.1 t1, Value.str (newVal T p.1 p.2) t3].toArray } : Obj)) :: (I, o) :: (Rx ++ news)) hs2 ((dropN T (low p.1) ++ [(p.1, newVal T p.1 p.2)]).map pairD))
    (hoff : OwnOff (Rx ++ news) [x, d, lh]) (hdx : @LT.lt Nat _ d x) (hld : @LT.lt Nat _ lh d) (hxt : @LT.lt Nat _ x tn) (hTl : T.length ≤ fs1.length) (hTs : ∀ p ∈ T, p.1.length ≤ 64 ∧ p.2.length ≤ 65 * fs1.length) (hp : p.1.length ≤ 64 ∧ p.2.length ≤ 64) :
    RedInv P x fs news r ((x, instObj 171 d) :: (d, dictOf [⟨PyData.keyHash P (Str.ofString "_headers"), Value.str (Str.ofString "_headers") tk0, Value.ref lh⟩] 1) :: (lh, W.listOf hs2.toArray n2) ::
      (((tn, ({ cls := .type "tuple", data := .seq [Value.str p.1 t1, Value.str (newVal T p.1 p.2) t3].toArray } : Obj)) :: Rx) ++ news)) := by
  refine ⟨fs1 ++ [p], fs3, dropN T (low p.1) ++ [(p.1, newVal T p.1 p.2)], d, lh, tk0, hs2, n2, _ :: Rx, by rw [hfs, hfs2]; simp, hD3, ?_, rfl, datall_cut ho hD, ?_, hdx, hld, ?_, ?_⟩
  · rw [runT_snoc, hrun]
    exact stepT_ok hnb hvb
  · intro q hq b hb
    rcases List.mem_cons.mp hq with rfl | hq
    · have hb' : b = x ∨ b = d ∨ b = lh := by simpa using hb
      rcases hb' with rfl | rfl | rfl <;> (refine neN ?_; omega)
    · exact hoff q hq b hb
  · rw [List.length_append, List.length_append]
    have := List.length_filter_le (fun q : Str × Str => low q.1 != low p.1) T
    show (dropN T (low p.1)).length + 1 ≤ fs1.length + 1
    unfold dropN
    omega
  · intro q hq
    have hl : (fs1 ++ [p]).length = fs1.length + 1 := by simp
    rw [hl]
    rcases List.mem_append.mp hq with hq | hq
    · have := hTs q (List.mem_filter.mp hq).1
      exact ⟨this.1, by omega⟩
    · rw [List.mem_singleton.mp hq]
      exact ⟨hp.1, by have := newVal_len (fn := p.1) (fun q hq => (hTs q hq).2) hp.2; dsimp only; omega⟩
theorem subL_of {k : Addr × Obj} {n : List (Addr × Obj)} (h : k ∈ n) : SubL [k] n := ⟨h, trivial⟩
theorem news_rot {h₀ h : Heap} {L : Addr} {a x d l : Addr × Obj} {R : List (Addr × Obj)} (N : News h₀ L h (a :: x :: d :: l :: R)) : News h₀ L h (x :: d :: l :: a :: R) := by
  intro p hp
  refine N p ?_
  simp only [List.mem_cons] at hp ⊢
  rcases hp with h | h | h | h | h <;> simp [h]
theorem raiseTo_len {T T' : List (Str × Str)} {fn fv : Str} (h : RaiseTo T fn fv T') : T'.length ≤ T.length := by
  rcases h with ⟨_, rfl⟩ | ⟨_, _, rfl⟩
  · exact Nat.le_refl _
  · exact List.length_filter_le _ _
theorem raisedS_sub {base G : Heap} {l : List Env} {e t : Addr} {cls : Value} {vs : List Value} {led led2 : List (Addr × Obj)} {h : Heap} (R : RaisedS base G l e cls t vs led h) (hs : ∀ q ∈ led2, q ∈ led) : RaisedS base G l e cls t vs led2 h := by
  obtain ⟨⟨B, h1, h2, h3, h4⟩, h5⟩ := R
  exact ⟨⟨B, h1, h2, fun q hq => h3 q (hs q hq), h4⟩, h5⟩
theorem raisedK_sub {base : Heap} {l : List Env} {e t : Addr} {cls : Value} {vs : List Value} {led led2 : List (Addr × Obj)} {h : Heap} (R : RaisedK base l e cls t vs led h) (hs : ∀ q ∈ led2, q ∈ led) : RaisedK base l e cls t vs led2 h := by
  obtain ⟨⟨B, h1, h2, h4⟩, h5⟩ := R
  exact ⟨⟨B, h1, fun q hq => h2 q (hs q hq), h4⟩, h5⟩
theorem sliceK {prog : Program} {w : World} {A : Around} {E : Value → Shared → Prop} {s : Shared} {h₀ : Heap} {L : Addr} {m : Str → Option Value} {news : List (Addr × Obj)} {h : Heap} {l sl : Addr} {value slice : PySem.Expr} {its zs : Array Value} {n : Nat} {vl vu : Value} {lo hi : Option Int} {Q : Value → Shared → Prop}
    (F : Fr h₀ L h m) (N : News h₀ L h news) (hheap : s.heap = h.push { cls := .type "slice", data := .fields #[vl, vu, .none] }) (hsa : sl = h.objs.size) (hm : (l, W.listOf its n) ∈ news) (pl : IsPart vl lo) (pu : IsPart vu hi) (e : slicePick its lo hi none = zs)
    (hq : ∀ D h', Fr h₀ L h' m → News h₀ L h' ((D, W.listOf zs 0) :: news) → (∀ p ∈ news, p.1 < D) → Q (.ref D) { s with heap := h' })
    (hs : ∀ k, subscripted slice false (.ref l) (.ref k) = operate [.ref k, .ref l] (getItem (.ref l) (.ref k))) (ht : ∀ r, letTemporaryGo value (.ref l) r = pure ()) (hz : its.size ≤ sizeLine) :
    wpAny (model prog w) A (subscriptTail value slice (.ref l) (.ref sl)) Q E s := by
  subst hsa
  subst e
  have hl : h.IsList l its := ⟨_, (N _ hm).1, rfl, n, rfl⟩
  have es : s = { ({ s with heap := h } : Shared) with heap := h.push { cls := .type "slice", data := .fields #[vl, vu, .none] } } := by
    obtain ⟨hp, g, dr, tk, os⟩ := s
    simp only at hheap
    rw [hheap]
  have := kmk_slice (prog := prog) (w := w) (A := A) (E := E) (s := { s with heap := h }) (value := value) (slice := slice) (Q := Q) F N hl pl pu hq (hs _) ht hz
  rw [es]
  exact this
end Mine
end
section
open PySem PySem.W PyProof.Rows
namespace Mine
local macro_rules | `(tactic| k_mem) => `(tactic| first | assumption | exact List.mem_append_right _ (by assumption) | exact List.mem_append_left _ (by assumption))
local macro_rules | `(tactic| k_all) => `(tactic| exact fun p hp => Nat.ne_of_lt (Nat.lt_of_lt_of_le (kst_ltOf (by first | assumption | exact And.right (by assumption) | exact And.right (And.right (by assumption)) | exact And.right (And.right (And.right (by assumption))) | exact And.right (And.right (And.right (And.right (by assumption)))) | exact And.right (And.right (And.right (And.right (And.right (by assumption))))) | exact And.right (And.right (And.right (And.right (And.right (And.right (by assumption)))))) | exact And.right (And.right (And.right (And.right (And.right (And.right (And.right (by assumption)))))))) p hp) (by omega)))
local macro_rules | `(tactic| walk_at "mine unused 1") => `(tactic| fail)
local macro_rules | `(tactic| walk_at "mine unused 2") => `(tactic| fail)
local macro_rules | `(tactic| walk_at "exec For Tuple Name cons nil") => `(tactic| (k_here; (rename Fr _ _ _ _ => lF'); (with_unfolding_all refine' For_turns lF' ?_; k_whole)))
local macro_rules | `(tactic| walk_at "pyIter ref") => `(tactic| (k_here; (with_reducible show wpAny _ _ (pyIter (Value.ref _)) (fun it s₂ => TurnsAt _ _ _ _ _ _ _ _ _ it s₂) _ _); (rename Fr _ _ _ _ => lF'); (rename News _ _ _ _ => lN'); (with_unfolding_all refine iter_listTurns (vs := []) (n := 0) (by rfl) lF' lN' (by k_mem) (by rfl) (by rfl) ?_); clear lF'; intro i' l1; (with_unfolding_all refine ItemsRest.zero (fun h' tk' F' N' => ?_))))
local macro_rules | `(tactic| walk_at "call builtin:iter") => `(tactic| (k_here; (with_reducible show wpAny _ _ (call (Value.builtin "iter") [Value.ref _]) _ _ _); k_dflt (refine' iterL ?zq1 ?zq2 ?zq3 ?zq4 ?zq5 ?_; (case zq1 => k_asm); (case zq2 => k_asm); (case zq3 => k_mem); (case zq4 => exact rfl); (case zq5 => exact rfl)); intro D' h' F' N' l1; (try k_lt l1)))

theorem told_step : ∀ (w : World) (mean : ExcName → Option Value) (mg mb : Str → Option Value) (h₀ : Heap) (L a : Addr) (ccd : Value) (m : Str → Option Value) (news : List (Addr × Obj)) (s : Shared) (Q : Value → Shared → Prop) (E : Value → Shared → Prop) (l : Addr) (n : Nat) (vs : List Value) (fs : List (Str × Str)),
   Below callerA h₀ [] h₀ → Fr h₀ L s.heap m → (hd.heap_39 w.params).In h₀ → News h₀ L s.heap news → Top hd.view_39 loose4 mean mg mb h₀ → (l, W.listOf vs.toArray n) ∈ news → DatAll news vs (fs.map pairD) →
   fs.length ≤ 20 → (∀ p ∈ fs, (p.1.length ≤ 64 ∧ p.2.length ≤ 64) ∧ nameBad (low p.1) = nameBad p.1) →
   (∀ (b : Bool) (T' : List (Str × Str)) (r l2 : Addr) (hs2 : List Value) (n2 n3 : Nat) (led : List (Addr × Obj)) (h' : Heap) (tk' : Nat), ToldIs fs b T' → Fr h₀ L h' m → News h₀ L h' ((r, W.listOf #[.bool b, .ref l2] n3) :: (l2, W.listOf hs2.toArray n2) :: led) → DatAll led hs2 (T'.map pairD) → (∀ p ∈ news, p ∈ led) → Q (.ref r) { s with heap := h', toks := tk' }) →
   wpAny (model PySem.Challenge.rw_mr0261_01.row.prog w) (callerA.deeper (envOf (Str.ofString "law") lawScope L a ccd)) (call (.ref 205) [.ref l]) Q E s := by
  k_with_none; w_on; w_top on; k_fill
  intro w mean mg mb h₀ L a ccd m news s Q E l n vs fs B F X N T hm hD hfl hfp hret
  k_with "exec For Name Name cons nil" =>
    rename Fr _ _ _ _ => lF'
    with_unfolding_all refine' For_turns lF' ?_
    k_whole
  k_with "pyIter ref" =>
    rename Fr _ _ _ _ => lF'
    rename News _ _ _ _ => lN'
    with_unfolding_all refine iter_iterTurns (vs := vs) (n := n) (lo := W.listOf vs.toArray n) (by rfl) lF' lN' (List.Mem.head _) (by rfl) (by rfl) (fun p hp => List.Mem.tail _ hp) (by k_all) (by k_mem) (by rfl) (by rfl) ?_
    refine rest_led [Str.ofString "element"] (fun m₀ rem n => ∃ x, m₀ (Str.ofString "value") = some (Value.ref x) ∧ RedInv w.params x fs news rem n) vs
      (fun rem n' hJ => by
        obtain ⟨x', hx', ⟨fs1', fs2', T', d', lh', tk0', hs', nn', Rx', hfs', hD1', hrun', hn', hD2', hoff', hdx', hld', hTl', hTs'⟩⟩ := hJ
        subst hn'
        exact subL_of (.tail _ (.tail _ (.tail _ (List.mem_append_right _ hm)))))
      ?_ ?_ (by k_all) ⟨_, rfl, ⟨[], fs, [], _, _, _, [], _, [], rfl, hD, rfl, rfl, .nil, (by
        intro p hp b hb
        have q := (show ∀ p ∈ news, @LT.lt Nat _ p.1 _ from by assumption) p hp
        have hb' := List.mem_cons.mp hb
        simp only [List.mem_cons, List.not_mem_nil, or_false] at hb'
        rcases hb' with rfl | rfl | rfl <;> (refine neN ?_; omega)), (by omega), (by omega), Nat.le_refl _, fun _ hp => nomatch hp⟩⟩
    all_goals first
      | (intro v' r' n' u' h' tk' o' hJ' hoI' F' ho' N'
         obtain ⟨x', hx', ⟨fs1', fs2', T', d', lh', tk0', hs', nn', Rx', hfs', hD1', hrun', hn', hD2', hoff', hdx', hld', hTl', hTs'⟩⟩ := hJ'
         obtain ⟨p', fs3', hfs2', a', t1', t2', nt', hv', hma', hD3'⟩ := datall_cons hD1'
         injection hx' with hx'
         injection hx' with hx'
         subst hx'
         subst hv'
         subst hn'
         have hp' := hfp p' (by rw [hfs', hfs2']; simp)
         have hl1' : fs1'.length ≤ 19 := by rw [hfs', hfs2'] at hfl; simp at hfl; omega)
      | (intro n' u' h' tk' hJ' F' N'
         obtain ⟨x', hx', ⟨fs1', fs2', T', d', lh', tk0', hs', nn', Rx', hfs', hD1', hrun', hn', hD2', hoff', hdx', hld', hTl', hTs'⟩⟩ := hJ'
         injection hx' with hx'
         injection hx' with hx'
         subst hx'
         subst hn'
         have hf2' := datall_nil hD1'
         rw [hf2', List.append_nil] at hfs'
         have hb' : ToldIs fs true T' := .inl ⟨rfl, hfs' ▸ hrun'⟩
         have hlen' : hs'.length ≤ sizeLine := by rw [hD2'.length, List.length_map, sizeLine_eq]; rw [hfs'] at hfl; omega
         try dsimp only)
  k_with "subscriptTail Name Slice ref ref" =>
    dsimp only
    rename Fr _ _ _ _ => lF'
    rename News _ _ _ _ => lN'
    refine sliceK lF' lN' rfl rfl (by k_mem) .none .none (slicePick_all _) ?_ (by intros; with_unfolding_all rfl) (by intros; with_unfolding_all rfl) (by rw [List.size_toArray]; exact hlen')
    intro D' h' F' N' l1
    try k_lt l1
  k_with "call ref cons nil" =>
    show wpAny _ _ (call (Value.ref 198) [Value.ref _, Value.ref _]) _ _ _
    rename Fr _ _ _ _ => lF'
    rename News _ _ _ _ => lN'
    refine laid_call _ _ _ _ _ _ _ _ _ _ _ _ _ _ _ _ _ _ _ _ _ _ T' a' p'.1 p'.2 t1' t2' nt' (by k_asm) lF' (by k_asm) (news_rot lN') (by k_asm) (hD2'.mono fun q hq => .tail _ hq) (.tail _ (List.mem_append_right _ hma')) (by
        intro q hq b hb
        rcases List.mem_cons.mp hq with rfl | hq
        · simp only [List.mem_cons, List.not_mem_nil, or_false] at hb
          rcases hb with rfl | rfl | rfl
          · exact Ne.symm (hoI' _ (.head _))
          · exact Ne.symm (hoI' _ (.tail _ (.head _)))
          · exact Ne.symm (hoI' _ (.tail _ (.tail _ (.head _))))
        · exact hoff' q hq b hb) hdx' hld' hp'.1.1 hp'.1.2 (by omega) (fun q hq => ⟨(hTs' q hq).1, by have := (hTs' q hq).2; omega⟩) hp'.2 ?_ ?_
    all_goals first
      | (intro T2' g' e' t' us' hs2' n2' led' h' tk' hR' F' S0' R0' U' hsub' hD4'
         have S' := raisedS_sub S0' hsub'
         have R' := raisedK_sub R0' hsub'
         clear S0' R0'
         have hlen' : hs2'.length ≤ sizeLine := by rw [hD4'.length, List.length_map, sizeLine_eq]; exact Nat.le_trans (raiseTo_len hR') (by omega)
         have hb' : ToldIs fs false T2' := .inr ⟨rfl, fs1', p', fs3', T', by rw [hfs', hfs2'], hrun', hR'⟩
         try dsimp only)
      | (intro hnb' hvb' hs2' n2' tn' t3' h' tk' F' N' hD4' hlt' hxt'
         try dsimp only)
  k_steps
  · rename Fr _ _ _ _ => lF'
    rename News _ _ _ _ => lN'
    exact hret true T' _ _ hs' _ _ _ _ _ hb' lF' lN' (hD2'.mono fun q hq => .tail _ (.tail _ (.tail _ hq))) (fun q hq => .tail _ (.tail _ (.tail _ (List.mem_append_right _ hq))))
  · rename News _ _ _ _ => lN'
    refine ledEnd_intro (by k_asm) lN' (.tail _ (.tail _ (.tail _ (.tail _ (.head _))))) ?_ ?_ ?_ ⟨_, rfl, redInv_step (n2 := n2') (tk0 := tk0') hfs' hfs2' hD3' hrun' hnb' hvb' ho' hD4' hoff' hdx' hld' hxt' hTl' hTs' hp'.1⟩
    · intro q hq
      simp only [List.mem_cons, List.cons_append] at hq ⊢
      rcases hq with h | h | h | h | h <;> simp [h]
    · intro q hq
      rcases List.mem_cons.mp hq with rfl | hq
      · exact hoI' _ (.head _)
      rcases List.mem_cons.mp hq with rfl | hq
      · exact hoI' _ (.tail _ (.head _))
      rcases List.mem_cons.mp hq with rfl | hq
      · exact hoI' (lh', W.listOf hs'.toArray nn') (.tail _ (.tail _ (.head _)))
      rcases List.mem_cons.mp hq with rfl | hq
      · exact Ne.symm (Nat.ne_of_lt hlt'.1)
      · exact hoI' _ (.tail _ (.tail _ (.tail _ hq)))
    · intro z hz
      have z1 : z ≠ Str.ofString "element" := by rintro rfl; exact absurd hz (by decide)
      by_cases z2 : z = Str.ofString "value"
      · rw [z2]; rfl
      · simp only [if_neg z1, if_neg z2]
        rw [if_neg (by rw [hz]; decide)]
  · rename Fr _ _ _ _ => lF'
    rename News _ _ _ _ => lN'
    exact hret false T2' _ _ hs2' _ _ _ _ _ hb' lF' lN' (hD4'.mono fun q hq => .tail _ (.tail _ (.tail _ hq))) (fun q hq => .tail _ (.tail _ (.tail _ (.tail _ (List.mem_append_right _ hq)))))
end Mine
end
section
open PySem PySem.W PyProof.Rows
namespace Mine
def Stuck (P : Prop) : Prop := P
theorem stuck {P : Prop} (h : Stuck P) : P := h
section
variable {prog : Program} {w : World} {A : Around} {E : Value → Shared → Prop} {s : Shared} {h₀ : Heap} {L : Addr} {m : Str → Option Value} {news : List (Addr × Obj)}
theorem lenK {l : Addr} {vs : List Value} {n : Nat} {Q : Value → Shared → Prop} (N : News h₀ L s.heap news) (hm : (l, W.listOf vs.toArray n) ∈ news) (hz : vs.length ≤ 1000) (h : Q (.int (vs.length : Int) (s.toks + 1)) { s with toks := s.toks + 1 + 1 }) :
    wpAny (model prog w) A (call (.builtin "len") [.ref l]) Q E s :=
  kun_lenL (items := vs.toArray) ⟨_, (N _ hm).1, rfl, n, rfl⟩ (by rw [List.size_toArray]) (by omega) h
end
def inS (y x : Str) : Bool := !(Builtin.Str.occurrences x y 0 x.length 1).isEmpty
def faulty (p : Str × Str) : Bool := inS (Str.ofString "\n") p.1 || inS (Str.ofString "\r") p.2
def faultAt (fs : List (Str × Str)) (k : Nat) : Bool := match fs[k]? with
  | some p => faulty p
  | none => false
/-- the faults below i -/
def flt (fs : List (Str × Str)) (i : Nat) : List Int := ((List.range i).filter (faultAt fs)).map fun k : Nat => (k : Int)
theorem flt_succ (fs : List (Str × Str)) (i : Nat) : flt fs (i + 1) = if faultAt fs i = true then flt fs i ++ [(i : Int)] else flt fs i := by
  unfold flt
  rw [List.range_succ, List.filter_append, List.map_append]
  by_cases h : faultAt fs i = true
  · rw [if_pos h, List.filter_cons, if_pos h]; rfl
  · rw [if_neg h, List.filter_cons, if_neg h]; simp
theorem faultAt_of {fs : List (Str × Str)} {i : Nat} (h : i < fs.length) : faultAt fs i = faulty fs[i] := by
  unfold faultAt
  rw [List.getElem?_eq_getElem h]
theorem flt_keep1 {fs : List (Str × Str)} {i : Nat} {ys : List Value} {t : Tok} (h : i < fs.length) (hi : IntsAre ys (flt fs i)) (hb' : (Builtin.Str.occurrences fs[i].1 (Str.ofString "\n") 0 fs[i].1.length 1).isEmpty = false) : IntsAre (ys ++ [.int (0 + (i : Int)) t]) (flt fs (i + 1)) := by
  have hb : inS (Str.ofString "\n") fs[i].1 = true := by unfold inS; rw [hb']; rfl
  rw [flt_succ, if_pos (by rw [faultAt_of h]; unfold faulty; rw [hb]; rfl), Int.zero_add]
  exact hi.append (.cons _ _ .nil)
theorem flt_keep2 {fs : List (Str × Str)} {i : Nat} {ys : List Value} {t : Tok} (h : i < fs.length) (hi : IntsAre ys (flt fs i)) (hb' : (Builtin.Str.occurrences fs[i].2 (Str.ofString "\r") 0 fs[i].2.length 1).isEmpty = false) : IntsAre (ys ++ [.int (0 + (i : Int)) t]) (flt fs (i + 1)) := by
  have hb : inS (Str.ofString "\r") fs[i].2 = true := by unfold inS; rw [hb']; rfl
  rw [flt_succ, if_pos (by rw [faultAt_of h]; unfold faulty; rw [hb, Bool.or_true]), Int.zero_add]
  exact hi.append (.cons _ _ .nil)
theorem flt_skip {fs : List (Str × Str)} {i : Nat} {ys : List Value} (h : i < fs.length) (hi : IntsAre ys (flt fs i)) (hb' : (Builtin.Str.occurrences fs[i].1 (Str.ofString "\n") 0 fs[i].1.length 1).isEmpty = true) (hb2' : (Builtin.Str.occurrences fs[i].2 (Str.ofString "\r") 0 fs[i].2.length 1).isEmpty = true) : IntsAre ys (flt fs (i + 1)) := by
  have hb : inS (Str.ofString "\n") fs[i].1 = false := by unfold inS; rw [hb']; rfl
  have hb2 : inS (Str.ofString "\r") fs[i].2 = false := by unfold inS; rw [hb2']; rfl
  rw [flt_succ, if_neg (by rw [faultAt_of h]; unfold faulty; rw [hb, hb2]; decide)]
  exact hi
theorem itemK {prog : Program} {w : World} {A : Around} {E : Value → Shared → Prop} {s : Shared} {h₀ : Heap} {L : Addr} {news : List (Addr × Obj)} {value slice : PySem.Expr} {l : Addr} {vs : List Value} {n i : Nat} {k : Int} {u : Tok} {x : Value} {Q : Value → Shared → Prop} (N : News h₀ L s.heap news) (hm : (l, W.listOf vs.toArray n) ∈ news)
    (hk : k = (i : Int)) (hi : i < 1000) (hx : vs[i]? = some x) (h : Q x s)
    (hs : subscripted slice false (.ref l) (.int k u) = operate [.ref l, .int k u] (getItem (.ref l) (.int k u))) (hg : ∀ r, letTemporaryGo value (.ref l) r = pure ()) :
    wpAny (model prog w) A (subscriptTail value slice (.ref l) (.int k u)) Q E s := by
  subst hk
  exact item_list (items := vs.toArray) ⟨_, (N _ hm).1, rfl, n, rfl⟩ (by omega) (by omega) (by simpa using hx) h hs hg
theorem datall_get {R : List (Addr × Obj)} : ∀ {vs : List Value} {fs : List (Str × Str)}, DatAll R vs (fs.map pairD) → ∀ (i : Nat) (h : i < fs.length), ∃ a t1 t2 n, vs[i]? = some (.ref a) ∧ (a, ({ cls := .type "tuple", data := .seq [Value.str fs[i].1 t1, Value.str fs[i].2 t2].toArray n } : Obj)) ∈ R := by
  intro vs
  induction vs with
  | nil => intro fs h i hi; cases fs with
    | nil => exact absurd hi (Nat.not_lt_zero _)
    | cons p T => cases h
  | cons v r ih =>
    intro fs h i hi
    obtain ⟨p, T', rfl, a, t1, t2, n, rfl, hm, hr⟩ := datall_cons h
    cases i with
    | zero => exact ⟨a, t1, t2, n, rfl, hm⟩
    | succ i => exact ih hr i (by simpa using hi)
theorem flt_len (fs : List (Str × Str)) (n : Nat) : (flt fs n).length ≤ n := by
  unfold flt
  rw [List.length_map]
  exact Nat.le_trans (List.length_filter_le _ _) (by rw [List.length_range]; exact Nat.le_refl _)
theorem flt_nil {fs : List (Str × Str)} : ∀ {n : Nat}, flt fs n = [] → ∀ k < n, faultAt fs k = false := by
  intro n
  induction n with
  | zero => intro _ k hk; exact absurd hk (Nat.not_lt_zero _)
  | succ n ih =>
    intro h k hk
    rw [flt_succ] at h
    by_cases hf : faultAt fs n = true
    · rw [if_pos hf] at h
      simp at h
    · rw [if_neg hf] at h
      by_cases e : k = n
      · rw [e]; simpa using hf
      · exact ih h k (by omega)
theorem flt_head {fs : List (Str × Str)} : ∀ {n : Nat} {j : Int} {js : List Int}, flt fs n = j :: js → ∃ jn : Nat, j = (jn : Int) ∧ jn < n ∧ faultAt fs jn = true ∧ ∀ k < jn, faultAt fs k = false := by
  intro n
  induction n with
  | zero => intro j js h; cases h
  | succ n ih =>
    intro j js h
    rw [flt_succ] at h
    by_cases hf : faultAt fs n = true
    · rw [if_pos hf] at h
      cases hq : flt fs n with
      | nil =>
        rw [hq] at h
        simp only [List.nil_append, List.cons.injEq] at h
        exact ⟨n, h.1.symm, by omega, hf, flt_nil hq⟩
      | cons j' js' =>
        rw [hq] at h
        simp only [List.cons_append, List.cons.injEq] at h
        obtain ⟨jn, e, h1, h2, h3⟩ := ih hq
        exact ⟨jn, by rw [← h.1]; exact e, by omega, h2, h3⟩
    · rw [if_neg hf] at h
      obtain ⟨jn, e, h1, h2, h3⟩ := ih h
      exact ⟨jn, e, by omega, h2, h3⟩
end Mine
end
section
open PySem PySem.W PyProof.Rows PySem.Calls
namespace Mine
/-- the end of a turn that may change the ledger; the names it stores are forgotten -/
structure RngEnd (names : List Str) (m₀ : Str → Option Value) (P : List (Addr × Obj) → Prop) (m' : Str → Option Value) (n' : List (Addr × Obj)) : Prop where
  map : ∀ z, names.contains z = false → m' z = m₀ z
  inv : P n'
section
variable {prog : Program} {w : World} {A : Around} {E : Value → Shared → Prop} {s : Shared} {env : Env} {h₀ : Heap} {target : PySem.Expr} {body : List Stmt} {Q : Flow → Shared → Prop} {I : Addr} {m₀ : Str → Option Value}
theorem letGo_rng {I : Addr} {a b c : Int} {v : Value} {Q' : Unit → Shared → Prop} {s' : Shared} (hit : IsRangeIter s'.heap I a b c) (h : Q' () s') :
    wpAny (model prog w) A (letOwnedTupleGo target (.ref I) v) Q' E s' := by
  unfold letOwnedTupleGo
  cases target <;> first
    | exact wpAny_pure h
    | (cases v <;> first
        | exact wpAny_pure h
        | (refine wpAny_bind (wpAny_load hit ?_)
           exact wpAny_pure h))
theorem rest_rng (names : List Str) (J : Nat → List (Addr × Obj) → Prop) (n : Nat) {news : List (Addr × Obj)}
    (h0 : ∀ nx (u : Str → Option Value) h tk, J n nx → Fr h₀ env.locals h (fun y => if names.contains y = true then u y else m₀ y) → News h₀ env.locals h nx → Q .next { s with heap := h, toks := tk })
    (h1 : ∀ (i : Nat) t nx (u : Str → Option Value) h tk (o : Obj), i < n → J i nx → (∀ p ∈ nx, p.1 ≠ I) → Fr h₀ env.locals h (fun y => if names.contains y = true then u y else m₀ y) → o.cls = .type "range_iterator" → News h₀ env.locals h ((I, o) :: nx) →
      wpAny (model prog w) A (assign target env (.int (i : Int) t)) (fun _ s₂ => wpAny (model prog w) A (execs body env) (UnrPostW h₀ env.locals { s with heap := h, toks := tk } [(I, o)] (RngEnd names m₀ (J (i + 1))) Q) E s₂) E { s with heap := h, toks := tk })
    (hoff : ∀ p ∈ news, p.1 ≠ I) (hJ : J 0 news) : ItemsRest prog w A E h₀ env target body Q s [(I, "range_iterator")] [] ((List.range n).map fun i : Nat => .tok fun t => .int (i : Int) t) m₀ news := by
  have key : ∀ (k i : Nat) (u : Str → Option Value) (nx : List (Addr × Obj)), i + k = n → (∀ p ∈ nx, p.1 ≠ I) → J i nx → ItemsRest prog w A E h₀ env target body Q s [(I, "range_iterator")] [] ((List.range' i k).map fun i : Nat => .tok fun t => .int (i : Int) t) (fun y => if names.contains y = true then u y else m₀ y) nx := by
    intro k
    induction k with
    | zero => intro i u nx hi _ hJ; exact fun h tk F N => h0 nx u h tk (by rw [← hi]; exact hJ) F N
    | succ k ih =>
      intro i u nx hi hoff hJ
      rw [List.range'_succ, List.map_cons]
      refine ItemsRest.tok fun t h tk F o ho N => ?_
      refine wpAny_mono (h1 i t nx u h tk o (by omega) hJ hoff F ho N) (fun _ s₂ p => wpAny_mono p (fun f s₃ q => ?_) fun _ _ e => e) fun _ _ e => e
      have fin : UnrEndW h₀ env.locals { s with heap := h, toks := tk } [(I, o)] (RngEnd names m₀ (J (i + 1))) s₃ → UnrEndW h₀ env.locals { s with heap := h, toks := tk } [(I, o)] (fun m' n' => SubL [] n' ∧ ItemsRest prog w A E h₀ env target body Q s [(I, "range_iterator")] [] ((List.range' (i + 1) k).map fun i : Nat => .tok fun t => .int (i : Int) t) m' n') s₃ := by
        rintro ⟨h', tk', m', n', e, F', N', off, ⟨hm, hP⟩⟩
        refine ⟨h', tk', m', n', e, F', N', off, trivial, ?_⟩
        rw [mix_names hm]
        exact ih (i + 1) m' n' (by omega) (fun p hp => off p hp _ (List.mem_singleton.mpr rfl)) hP
      cases f with
      | ret v => exact q
      | brk => exact q
      | next => exact fin q
      | cont => exact fin q
  have e : m₀ = fun y => if names.contains y = true then m₀ y else m₀ y := by funext y; split <;> rfl
  rw [e, List.range_eq_range']
  exact key n 0 m₀ news (by omega) hoff hJ
theorem rngEnd_intro {names : List Str} {P : List (Addr × Obj) → Prop} {L : Addr} {o : Obj} {s₁ : Shared} {h' : Heap} {tk : Nat} {m' : Str → Option Value} {all n' : List (Addr × Obj)} (F : Fr h₀ L h' m') (N : News h₀ L h' all) (hI : (I, o) ∈ all) (sub : ∀ p ∈ n', p ∈ all) (off : ∀ p ∈ n', p.1 ≠ I)
    (hm : ∀ z, names.contains z = false → m' z = m₀ z) (hP : P n') : UnrEndW h₀ L s₁ [(I, o)] (RngEnd names m₀ P) { s₁ with heap := h', toks := tk } :=
  ⟨h', tk, m', n', rfl, F, fun p hp => by
    rcases List.mem_append.mp hp with hp | hp
    · rw [List.mem_singleton.mp hp]; exact N _ hI
    · exact N p (sub p hp), fun p hp q hq => by rw [List.mem_singleton.mp hq]; exact off p hp, ⟨hm, hP⟩⟩
theorem iter_rangeTurns {r : Addr} {b₀ : Int} {t₀ u₀ v₀ : Tok} {n : Nat} {news : List (Addr × Obj)}
    (hh : A.handled = none) (hr : IsRange s.heap r 0 b₀ 1 t₀ u₀ v₀) (hsmall : Builtin.Range.small 0 b₀ 1 = true) (hsz : Builtin.Range.rangeSize 0 b₀ 1 = (n : Int)) (F : Fr h₀ env.locals s.heap m₀) (N : News h₀ env.locals s.heap news)
    (rest₀ : ∀ I : Addr, (∀ p ∈ news, p.1 < I) → ItemsRest prog w A E h₀ env target body Q s [(I, "range_iterator")] [] ((List.range n).map fun i : Nat => .tok fun t => .int (i : Int) t) m₀ news) :
    wpAny (model prog w) A (pyIter (.ref r)) (fun it s₂ => TurnsAt prog w A h₀ env target body Q E it s₂) E s := by
  refine wpAny_pyIter_range hr hsmall ?_
  have W : Walks prog w A s.heap.objs.size [s.heap.objs.size] [s.heap.objs.size] n (fun i v => i < n ∧ ∃ t, v = .int (0 + i * 1) t)
      (fun i h => IsRangeIter h s.heap.objs.size (0 + (i : Nat) * 1) ((n : Int) - (i : Nat)) 1) := (Walks.range hh _ 0 1 n).bound
  refine ktu_core (tk0 := s.toks) (keep := []) (KTurns.ofWalks W fun i v s Q E st q => letGo_rng st q) (by simp) (fun i v h hp => ?_) (fun i h st => ?_) (fun b hb => ?_) (fun b hb => by simpa using hb) (fun b hb => ?_) ?_ (fun p hp hI => ?_) ?_ (F.push _) (fun p hp => ⟨Heap.get?_push_of_some _ (N p hp).1, (N p hp).2⟩) trivial (rest₀ _ fun p hp => Heap.lt_size (N p hp).1)
  · obtain ⟨hi, t, rfl⟩ := hp
    refine ⟨.tok fun t => .int (i : Int) t, by simp [hi], t, ?_⟩
    show Value.int _ _ = Value.int _ _
    congr 1
    omega
  · exact ⟨[(s.heap.objs.size, _)], ⟨⟨rfl, rfl⟩, trivial⟩, fun p hp => by rw [List.mem_singleton.mp hp]; exact st⟩
  · have hb' : b = s.heap.objs.size := by simpa using hb
    rw [hb']
    exact ⟨List.mem_cons_self .., next_is_new F⟩
  · exact .inl (by simpa using hb)
  · intro hI
    exact absurd F.ns.lt ((List.mem_singleton.mp hI) ▸ Nat.lt_irrefl _)
  · exact absurd (Heap.lt_size (N p hp).1) ((List.mem_singleton.mp hI) ▸ Nat.lt_irrefl _)
  · show IsRangeIter _ _ _ _ _
    rw [hsz]
    simpa using Heap.get?_push_size _ rfl
end
end Mine
end
section
open PySem PySem.W PyProof.Rows PySem.Calls
namespace Mine
def dueAt (G : List (Str × Str)) (lost : List Str) (k : Nat) : List (Str × Str) := match G[k]? with
  | none => []
  | some p => if (!(((G.drop (k + 1)).map (fun q => low q.1) ++ lost).any (· == low p.1))) = true then [(p.1, Txt.join (Str.ofString ",") ((G.filter fun q => low q.1 == low p.1).map (·.2)))] else []
def dueT (G : List (Str × Str)) (lost : List Str) (i : Nat) : List (Str × Str) := (List.range i).flatMap (dueAt G lost)
theorem dueT_succ (G : List (Str × Str)) (lost : List Str) (i : Nat) : dueT G lost (i + 1) = dueT G lost i ++ dueAt G lost i := by
  unfold dueT
  rw [List.range_succ, List.flatMap_append]
  simp
theorem dueT_keep {G : List (Str × Str)} {lost : List Str} {i : Nat} (h : i < G.length) (hb : (((G.drop (i + 1)).map (fun q => low q.1) ++ lost).any (· == low G[i].1)) = false) :
    dueT G lost (i + 1) = dueT G lost i ++ [(G[i].1, Txt.join (Str.ofString ",") ((G.filter fun q => low q.1 == low G[i].1).map (·.2)))] := by
  rw [dueT_succ]
  unfold dueAt
  rw [List.getElem?_eq_getElem h]
  dsimp only
  rw [hb]
  rfl
theorem dueT_skip {G : List (Str × Str)} {lost : List Str} {i : Nat} (h : i < G.length) (hb : (((G.drop (i + 1)).map (fun q => low q.1) ++ lost).any (· == low G[i].1)) = true) : dueT G lost (i + 1) = dueT G lost i := by
  rw [dueT_succ]
  unfold dueAt
  rw [List.getElem?_eq_getElem h]
  dsimp only
  rw [hb]
  simp
/-- one entry taken out of the ledger -/
inductive Pick (c : Addr) (o : Obj) : List (Addr × Obj) → List (Addr × Obj) → Prop
  | head {r} : Pick c o ((c, o) :: r) r
  | tail {p l r} : Pick c o l r → Pick c o (p :: l) (p :: r)
theorem Pick.mem {c : Addr} {o : Obj} {l r : List (Addr × Obj)} (h : Pick c o l r) : (c, o) ∈ l ∧ ∀ p ∈ r, p ∈ l := by
  induction h with
  | head => exact ⟨.head _, fun p hp => .tail _ hp⟩
  | tail h ih =>
    refine ⟨.tail _ ih.1, fun p hp => ?_⟩
    rcases List.mem_cons.mp hp with rfl | hp
    · exact .head _
    · exact .tail _ (ih.2 p hp)
structure DueJ (la c : Addr) (R₀ : List (Addr × Obj)) (G : List (Str × Str)) (lost : List Str) (i : Nat) (nx : List (Addr × Obj)) : Prop where
  is : ∃ (hs : List Value) (nn : Nat) (oc : Obj) (v₀ : Option Value) (R : List (Addr × Obj)), nx = (la, W.listOf hs.toArray nn) :: (c, oc) :: R ∧ oc.data = .cell v₀ ∧ (∀ p ∈ R₀, p ∈ R) ∧ DatAll R hs ((dueT G lost i).map pairD) ∧ OwnOff R [la, c] ∧ hs.length ≤ i
section
variable {prog : Program} {w : World} {A : Around} {E : Value → Shared → Prop} {s : Shared} {env : Env} {h₀ : Heap} {target : PySem.Expr} {body : List Stmt} {Q : Flow → Shared → Prop} {m₀ : Str → Option Value}
theorem due_loop {r : Addr} {b₀ : Int} {t₀ u₀ w₀ : Tok} {la c : Addr} {nn₀ : Nat} {oc₀ : Obj} {v₀ : Option Value} {R₀ news : List (Addr × Obj)} (G : List (Str × Str)) (lost : List Str) (names : List Str)
    (hh : A.handled = none) (hr : IsRange s.heap r 0 b₀ 1 t₀ u₀ w₀) (hsmall : Builtin.Range.small 0 b₀ 1 = true) (hsz : Builtin.Range.rangeSize 0 b₀ 1 = (G.length : Int)) (F : Fr h₀ env.locals s.heap m₀) (N : News h₀ env.locals s.heap ((la, W.listOf #[] nn₀) :: news))
    (pk : Pick c oc₀ news R₀) (hoc : oc₀.data = .cell v₀) (hoff : OwnOff R₀ [la, c])
    (turn : ∀ (I : Addr) (i : Nat) t (hs : List Value) (nn : Nat) (oc : Obj) (v₀ : Option Value) (R : List (Addr × Obj)) (u : Str → Option Value) h tk (o : Obj), i < G.length → oc.data = .cell v₀ → (∀ p ∈ R₀, p ∈ R) → DatAll R hs ((dueT G lost i).map pairD) → OwnOff R [la, c] → hs.length ≤ i → @LT.lt Nat _ la I → @LT.lt Nat _ c I → (∀ p ∈ R, p.1 ≠ I) → Fr h₀ env.locals h (fun y => if names.contains y = true then u y else m₀ y) → o.cls = .type "range_iterator" → News h₀ env.locals h ((I, o) :: (la, W.listOf hs.toArray nn) :: (c, oc) :: R) →
      wpAny (model prog w) A (assign target env (.int (i : Int) t)) (fun _ s₂ => wpAny (model prog w) A (execs body env) (UnrPostW h₀ env.locals { s with heap := h, toks := tk } [(I, o)] (RngEnd names m₀ (DueJ la c R₀ G lost (i + 1))) Q) E s₂) E { s with heap := h, toks := tk })
    (done : ∀ (hs : List Value) (nn : Nat) (oc : Obj) (v₀ : Option Value) (R : List (Addr × Obj)) (u : Str → Option Value) h tk, oc.data = .cell v₀ → (∀ p ∈ R₀, p ∈ R) → DatAll R hs ((dueT G lost G.length).map pairD) → OwnOff R [la, c] → Fr h₀ env.locals h (fun y => if names.contains y = true then u y else m₀ y) → News h₀ env.locals h ((la, W.listOf hs.toArray nn) :: (c, oc) :: R) → Q .next { s with heap := h, toks := tk }) :
    wpAny (model prog w) A (pyIter (.ref r)) (fun it s₂ => TurnsAt prog w A h₀ env target body Q E it s₂) E s := by
  have hsub : ∀ p ∈ (la, W.listOf #[] nn₀) :: (c, oc₀) :: R₀, p ∈ (la, W.listOf #[] nn₀) :: news := by
    intro p hp
    rcases List.mem_cons.mp hp with rfl | hp
    · exact .head _
    rcases List.mem_cons.mp hp with rfl | hp
    · exact .tail _ pk.mem.1
    · exact .tail _ (pk.mem.2 p hp)
  have N₁ : News h₀ env.locals s.heap ((la, W.listOf #[] nn₀) :: (c, oc₀) :: R₀) := fun p hp => N p (hsub p hp)
  refine iter_rangeTurns hh hr hsmall hsz F N₁ fun I hI => ?_
  refine rest_rng names (DueJ la c R₀ G lost) G.length ?_ ?_ (fun p hp => Nat.ne_of_lt (hI p hp)) ⟨[], nn₀, oc₀, v₀, R₀, rfl, hoc, fun _ h => h, .nil, hoff, Nat.le_refl _⟩
  · intro nx u h tk hJ F' N'
    obtain ⟨hs, nn, oc, v₁, R, rfl, h1, h2, h3, h4, h5⟩ := hJ.is
    exact done hs nn oc v₁ R u h tk h1 h2 h3 h4 F' N'
  · intro i t nx u h tk o hi hJ hne F' ho N'
    obtain ⟨hs, nn, oc, v₁, R, rfl, h1, h2, h3, h4, h5⟩ := hJ.is
    exact turn I i t hs nn oc v₁ R u h tk o hi h1 h2 h3 h4 h5 (hI _ (.head _)) (hI _ (.tail _ (.head _))) (fun p hp => hne p (.tail _ (.tail _ hp))) F' ho N'
end
section
variable {prog : Program} {w : World} {A : Around} {E : Value → Shared → Prop} {s : Shared} {h₀ : Heap} {L : Addr} {m : Str → Option Value} {env : Env}
theorem dat_tup {R : List (Addr × Obj)} {zs : List Value} {Z : List (Str × Str)} (hD : DatAll R zs (Z.map pairD)) {i : Nat} {v : Value} (hv : zs.toArray[i]? = some v) :
    ∃ (hi : i < Z.length) (t : Addr) (t1 t2 : Tok) (n : Nat), v = .ref t ∧ (t, ({ cls := .type "tuple", data := .seq [Value.str (Z[i]'hi).1 t1, Value.str (Z[i]'hi).2 t2].toArray n } : Obj)) ∈ R := by
  have hv' : zs[i]? = some v := by simpa using hv
  have hi : i < Z.length := by
    have := (List.getElem?_eq_some_iff.mp hv').1
    rw [hD.length, List.length_map] at this
    exact this
  obtain ⟨a, t1, t2, n, h1, h2⟩ := datall_get hD i hi
  refine ⟨hi, a, t1, t2, n, ?_, h2⟩
  rw [hv'] at h1
  exact Option.some.inj h1
theorem restP_ind {elt : PySem.Expr} {x x₂ : Str} {scope : Scope} {cl : List (Str × Addr)} {S : List (Addr × Obj) → Prop} {P : Nat → Value → Prop} {Fin : List Value → List (Addr × Obj) → Prop} {news : List (Addr × Obj)} {n : Nat} (J : Nat → List Value → Prop)
    (h0 : ∀ ys, J n ys → Fin ys news)
    (h1 : ∀ i ys v, i < n → J i ys → P i v → ∃ (t : Addr) (ot : Obj) (v₁ v₂ : Value) (nt : Nat), v = .ref t ∧ (t, ot) ∈ news ∧ ot.cls = .type "tuple" ∧ ot.data = .seq #[v₁, v₂] nt ∧
      ∀ I oI C oC D m₂ h tk (E' : Value → Shared → Prop), LCg.NsObj oC m₂ → m₂ x = some v₁ → m₂ x₂ = some v₂ → Fr h₀ L h m → News h₀ L h ((I, oI) :: (C, oC) :: (D, LCg.lst ys) :: news) → LCg.Off3 I C D news → ((@Ne Nat I C) ∧ (@Ne Nat I D) ∧ (@Ne Nat C D)) →
        wpAny (model prog w) A (eval elt (compEnvC scope cl C env)) (LCg.CompEnd h₀ L m { s with heap := h, toks := tk } I oI C oC D (LCg.lst ys) S (fun y news' => news' = news ∧ J (i + 1) (ys ++ [y]))) E' { s with heap := h, toks := tk })
    (hJ : J 0 []) : LCp.CompRestP prog w A h₀ L m env elt x x₂ scope cl s S P Fin n 0 [] news := by
  have key : ∀ k i ys, i + k = n → J i ys → LCp.CompRestP prog w A h₀ L m env elt x x₂ scope cl s S P Fin k i ys news := by
    intro k
    induction k with
    | zero => intro i ys hi hj; exact h0 ys (by rw [← hi]; exact hj)
    | succ k ih =>
      intro i ys hi hj
      refine LCp.CompRestP.succ fun v hP => ?_
      obtain ⟨t, ot, v₁, v₂, nt, e1, e2, e3, e4, R⟩ := h1 i ys v (by omega) hj hP
      refine ⟨t, ot, v₁, v₂, nt, e1, e2, e3, e4, fun I oI C oC D m₂ h tk E' hC hx hx₂ F N off ne => ?_⟩
      refine wpAny_mono (R I oI C oC D m₂ h tk E' hC hx hx₂ F N off ne) (fun y s₂ q => ?_) fun _ _ e => e
      obtain ⟨h', tk', news', e, F', N', off', hS', rfl, hj'⟩ := q
      exact ⟨h', tk', news', e, F', N', off', hS', ih (i + 1) _ (by omega) hj'⟩
  exact key n 0 [] (by omega) hJ
theorem srcP_dat {elt : PySem.Expr} {x x₂ : Str} {scope : Scope} {cl : List (Str × Addr)} {Fin : Shared → List Value → List (Addr × Obj) → Prop} {ax : Addr} {zs : List Value} {Z : List (Str × Str)} {k : Nat} {news : List (Addr × Obj)} {s₁ : Shared} (J : Nat → List Value → Prop)
    (hh : A.handled = none) (F : Fr h₀ L s₁.heap m) (N : News h₀ L s₁.heap news) (hm : (ax, W.listOf zs.toArray k) ∈ news) (hD : DatAll news zs (Z.map pairD)) (hz : Z.length ≤ 1000) (hJ : J 0 [])
    (fin : ∀ g ys, J Z.length ys → Fin { s₁ with heap := g } ys news)
    (turn : ∀ g i (hi : i < Z.length) ys t1 t2 I oI C oC D m₂ h tk (E' : Value → Shared → Prop), J i ys → LCg.NsObj oC m₂ → m₂ x = some (.str Z[i].1 t1) → m₂ x₂ = some (.str Z[i].2 t2) → Fr h₀ L h m → News h₀ L h ((I, oI) :: (C, oC) :: (D, LCg.lst ys) :: news) → LCg.Off3 I C D news → ((@Ne Nat I C) ∧ (@Ne Nat I D) ∧ (@Ne Nat C D)) →
      wpAny (model prog w) A (eval elt (compEnvC scope cl C env)) (LCg.CompEnd h₀ L m { ({ s₁ with heap := g } : Shared) with heap := h, toks := tk } I oI C oC D (LCg.lst ys) (LCg.SrcAt h₀ ax zs.toArray) (fun y news' => news' = news ∧ J (i + 1) (ys ++ [y]))) E' { ({ s₁ with heap := g } : Shared) with heap := h, toks := tk }) :
    LCp.SrcLP prog w A h₀ L m env elt x x₂ scope cl Fin (.ref ax) s₁ := by
  have hzl : zs.toArray.size = Z.length := by rw [List.size_toArray, hD.length, List.length_map]
  refine LCp.SrcLP.ledger (its := zs.toArray) hh F N hm (by rw [hzl, sizeLine_eq]; omega) fun g => ?_
  rw [hzl]
  refine restP_ind J (fun ys hj => fin g ys hj) (fun i ys v hi hj hv => ?_) hJ
  obtain ⟨hi', t, t1, t2, n, rfl, hm'⟩ := dat_tup hD hv
  exact ⟨t, _, _, _, n, rfl, hm', rfl, rfl, fun I oI C oC D m₂ h tk E' hC hx hx₂ F N off ne => turn g i hi' ys t1 t2 I oI C oC D m₂ h tk E' hj hC hx hx₂ F N off ne⟩
theorem srcPT_dat {ct elt : PySem.Expr} {x x₂ : Str} {scope : Scope} {cl : List (Str × Addr)} {Q : Value → Shared → Prop} {ax : Addr} {zs : List Value} {Z : List (Str × Str)} {k : Nat} {news : List (Addr × Obj)} {s₁ : Shared} (J : Nat → List Value → Prop)
    (hh : A.handled = none) (F : Fr h₀ L s₁.heap m) (N : News h₀ L s₁.heap news) (hm : (ax, W.listOf zs.toArray k) ∈ news) (hD : DatAll news zs (Z.map pairD)) (hz : Z.length ≤ 1000) (hJ : J 0 [])
    (fin : ∀ ys, J Z.length ys → LCg.FinE h₀ L m s₁ Q ys news)
    (turn : ∀ i (hi : i < Z.length) ys t1 t2 I oI C oC D m₂ h tk (E' : Value → Shared → Prop), J i ys → LCg.NsObj oC m₂ → m₂ x = some (.str Z[i].1 t1) → m₂ x₂ = some (.str Z[i].2 t2) → Fr h₀ L h m → News h₀ L h ((I, oI) :: (C, oC) :: (D, LCg.lst ys) :: news) → LCg.Off3 I C D news → ((@Ne Nat I C) ∧ (@Ne Nat I D) ∧ (@Ne Nat C D)) →
      wpAny (model prog w) A (isTrue ct (compEnvC scope cl C env) (eval ct (compEnvC scope cl C env))) (fun ok s' => if ok = true then
        wpAny (model prog w) A (eval elt (compEnvC scope cl C env)) (LCg.CompEnd h₀ L m { s₁ with heap := h, toks := tk } I oI C oC D (LCg.lst ys) (fun _ => True) (fun y news' => news' = news ∧ J (i + 1) (ys ++ [y]))) E' s'
        else LCg.CompEnd h₀ L m { s₁ with heap := h, toks := tk } I oI C oC D (LCg.lst ys) (fun _ => True) (fun _ news' => news' = news ∧ J (i + 1) ys) Value.none s') E' { s₁ with heap := h, toks := tk }) :
    SrcPT prog w A h₀ L m env ct elt x x₂ scope cl Q (.ref ax) s₁ := by
  have hzl : zs.toArray.size = Z.length := by rw [List.size_toArray, hD.length, List.length_map]
  refine ⟨ax, zs.toArray, k, news, rfl, hh, F, N, hm, by rw [hzl, sizeLine_eq]; omega, J, hJ, fun ys hj => fin ys (by rw [← hzl]; exact hj), fun i ys v hi hj hv => ?_⟩
  obtain ⟨hi', t, t1, t2, n, rfl, hm'⟩ := dat_tup hD hv
  exact ⟨t, _, _, _, n, rfl, hm', rfl, rfl, fun I oI C oC D m₂ h tk E' hC hx hx₂ F N off ne => turn i hi' ys t1 t2 I oI C oC D m₂ h tk E' hj hC hx hx₂ F N off ne⟩
end
theorem datall_take {R : List (Addr × Obj)} : ∀ {vs : List Value} {fs : List (Str × Str)}, DatAll R vs (fs.map pairD) → ∀ k, DatAll R (vs.take k) ((fs.take k).map pairD) := by
  intro vs
  induction vs with
  | nil => intro fs h k; rw [datall_nil h]; simp; exact .nil
  | cons v r ih =>
    intro fs h k
    obtain ⟨p, T', rfl, a, t1, t2, n, rfl, hm, hr⟩ := datall_cons h
    cases k with
    | zero => exact .nil
    | succ k => exact .cons (datin_pair hm) (ih hr k)
theorem datall_dropk {R : List (Addr × Obj)} : ∀ {vs : List Value} {fs : List (Str × Str)}, DatAll R vs (fs.map pairD) → ∀ k, DatAll R (vs.drop k) ((fs.drop k).map pairD) := by
  intro vs
  induction vs with
  | nil => intro fs h k; rw [datall_nil h]; simp; exact .nil
  | cons v r ih =>
    intro fs h k
    obtain ⟨p, T', rfl, a, t1, t2, n, rfl, hm, hr⟩ := datall_cons h
    cases k with
    | zero => exact h
    | succ k => exact ih hr k
/-- the lowered names of the first i -/
def lows (Z : List (Str × Str)) (i : Nat) : List Str := (Z.take i).map fun q => low q.1
theorem lows_snoc {Z : List (Str × Str)} {i : Nat} (h : i < Z.length) {ys : List Value} {t : Tok} (hs : StrsAre ys (lows Z i)) : StrsAre (ys ++ [.str (low Z[i].1) t]) (lows Z (i + 1)) := by
  unfold lows at *
  rw [List.take_add_one, List.getElem?_eq_getElem h, List.map_append]
  exact hs.append' (.cons _ _ .nil)
theorem lows_all (Z : List (Str × Str)) : lows Z Z.length = Z.map fun q => low q.1 := by
  unfold lows
  rw [List.take_length]
def vals (Z : List (Str × Str)) (ln : Str) (i : Nat) : List Str := ((Z.take i).filter fun q => low q.1 == ln).map (·.2)
theorem vals_keep {Z : List (Str × Str)} {ln : Str} {i : Nat} (h : i < Z.length) {ys : List Value} {t : Tok} (hs : StrsAre ys (vals Z ln i)) (hb : (low Z[i].1 == ln) = true) : StrsAre (ys ++ [.str Z[i].2 t]) (vals Z ln (i + 1)) := by
  unfold vals at *
  rw [List.take_add_one, List.getElem?_eq_getElem h, List.filter_append, List.map_append]
  simp only [Option.toList_some, List.filter_cons, hb, if_true, List.filter_nil, List.map_cons, List.map_nil]
  exact hs.append' (.cons _ _ .nil)
theorem vals_skip {Z : List (Str × Str)} {ln : Str} {i : Nat} (h : i < Z.length) {ys : List Value} (hs : StrsAre ys (vals Z ln i)) (hb : (low Z[i].1 == ln) = false) : StrsAre ys (vals Z ln (i + 1)) := by
  unfold vals at *
  rw [List.take_add_one, List.getElem?_eq_getElem h, List.filter_append, List.map_append]
  simp only [Option.toList_some, List.filter_cons, hb, List.filter_nil, List.map_nil]
  simpa using hs
theorem vals_all (Z : List (Str × Str)) (ln : Str) : vals Z ln Z.length = (Z.filter fun q => low q.1 == ln).map (·.2) := by
  unfold vals
  rw [List.take_length]
theorem vals_len {Z : List (Str × Str)} (ln : Str) (h : ∀ p ∈ Z, p.2.length ≤ 64) (hz : Z.length ≤ 20) : (((Z.filter fun q => low q.1 == ln).map (·.2)).map (·.length)).sum + ((Z.filter fun q => low q.1 == ln).map (·.2)).length * 64 ≤ 16777216 := by
  have h1 : ∀ l : List (Str × Str), (∀ p ∈ l, p.2.length ≤ 64) → ((l.map (·.2)).map (·.length)).sum ≤ 64 * l.length := by
    intro l
    induction l with
    | nil => intro _; simp
    | cons p r ih =>
      intro hl
      have a := hl p (.head _)
      have b := ih fun q hq => hl q (.tail _ hq)
      simp only [List.map_cons, List.sum_cons, List.length_cons]
      omega
  have h2 := h1 (Z.filter fun q => low q.1 == ln) fun p hp => h p (List.mem_filter.mp hp).1
  have h3 := List.length_filter_le (fun q : Str × Str => low q.1 == ln) Z
  rw [List.length_map]
  omega
def DueIs (fs : List (Str × Str)) (b : Bool) (T' : List (Str × Str)) : Prop :=
  (b = true ∧ (∀ k < fs.length, faultAt fs k = false) ∧ T' = dueT fs [] fs.length) ∨
  (b = false ∧ ∃ (jn : Nat) (hj : jn < fs.length), faultAt fs jn = true ∧ (∀ k < jn, faultAt fs k = false) ∧ T' = dueT (fs.take jn) [low fs[jn].1] (fs.take jn).length)
def LnIs (_ : Str) : Prop := True
section
variable {prog : Program} {w : World} {A : Around} {E : Value → Shared → Prop} {s : Shared} {h₀ : Heap} {L : Addr} {m : Str → Option Value} {env : Env} {news : List (Addr × Obj)}
theorem srcP_lows {elt : PySem.Expr} {x x₂ : Str} {scope : Scope} {cl : List (Str × Addr)} {Fin : Shared → List Value → List (Addr × Obj) → Prop} {ax : Addr} {zs : List Value} {Z : List (Str × Str)} {k : Nat} {s₁ : Shared}
    (hh : A.handled = none) (F : Fr h₀ L s₁.heap m) (N : News h₀ L s₁.heap news) (hm : (ax, W.listOf zs.toArray k) ∈ news) (hD : DatAll news zs (Z.map pairD)) (hz : Z.length ≤ 1000)
    (fin : ∀ g ys, StrsAre ys (Z.map fun q => low q.1) → Fin { s₁ with heap := g } ys news)
    (turn : ∀ g i (hi : i < Z.length) ys t1 t2 I oI C oC D m₂ h tk (E' : Value → Shared → Prop), StrsAre ys (lows Z i) → LCg.NsObj oC m₂ → m₂ x = some (.str Z[i].1 t1) → m₂ x₂ = some (.str Z[i].2 t2) → Fr h₀ L h m → News h₀ L h ((I, oI) :: (C, oC) :: (D, LCg.lst ys) :: news) → LCg.Off3 I C D news → ((@Ne Nat I C) ∧ (@Ne Nat I D) ∧ (@Ne Nat C D)) →
      wpAny (model prog w) A (eval elt (compEnvC scope cl C env)) (LCg.CompEnd h₀ L m { ({ s₁ with heap := g } : Shared) with heap := h, toks := tk } I oI C oC D (LCg.lst ys) (LCg.SrcAt h₀ ax zs.toArray) (fun y news' => news' = news ∧ StrsAre (ys ++ [y]) (lows Z (i + 1)))) E' { ({ s₁ with heap := g } : Shared) with heap := h, toks := tk }) :
    LCp.SrcLP prog w A h₀ L m env elt x x₂ scope cl Fin (.ref ax) s₁ :=
  srcP_dat (fun i ys => StrsAre ys (lows Z i)) hh F N hm hD hz .nil (fun g ys hj => fin g ys (by rw [lows_all] at hj; exact hj)) turn
theorem srcPT_vals {ct elt : PySem.Expr} {x x₂ : Str} {scope : Scope} {cl : List (Str × Addr)} {Q : Value → Shared → Prop} {ax : Addr} {zs : List Value} {Z : List (Str × Str)} {k : Nat} {s₁ : Shared} {ln : Str} (_ : LnIs ln)
    (hh : A.handled = none) (F : Fr h₀ L s₁.heap m) (N : News h₀ L s₁.heap news) (hm : (ax, W.listOf zs.toArray k) ∈ news) (hD : DatAll news zs (Z.map pairD)) (hz : Z.length ≤ 1000)
    (fin : ∀ ys, StrsAre ys ((Z.filter fun q => low q.1 == ln).map (·.2)) → LCg.FinE h₀ L m s₁ Q ys news)
    (turn : ∀ i (hi : i < Z.length) ys t1 t2 I oI C oC D m₂ h tk (E' : Value → Shared → Prop), StrsAre ys (vals Z ln i) → LCg.NsObj oC m₂ → m₂ x = some (.str Z[i].1 t1) → m₂ x₂ = some (.str Z[i].2 t2) → Fr h₀ L h m → News h₀ L h ((I, oI) :: (C, oC) :: (D, LCg.lst ys) :: news) → LCg.Off3 I C D news → ((@Ne Nat I C) ∧ (@Ne Nat I D) ∧ (@Ne Nat C D)) →
      wpAny (model prog w) A (isTrue ct (compEnvC scope cl C env) (eval ct (compEnvC scope cl C env))) (fun ok s' => if ok = true then
        wpAny (model prog w) A (eval elt (compEnvC scope cl C env)) (LCg.CompEnd h₀ L m { s₁ with heap := h, toks := tk } I oI C oC D (LCg.lst ys) (fun _ => True) (fun y news' => news' = news ∧ StrsAre (ys ++ [y]) (vals Z ln (i + 1)))) E' s'
        else LCg.CompEnd h₀ L m { s₁ with heap := h, toks := tk } I oI C oC D (LCg.lst ys) (fun _ => True) (fun _ news' => news' = news ∧ StrsAre ys (vals Z ln (i + 1))) Value.none s') E' { s₁ with heap := h, toks := tk }) :
    SrcPT prog w A h₀ L m env ct elt x x₂ scope cl Q (.ref ax) s₁ :=
  srcPT_dat (fun i ys => StrsAre ys (vals Z ln i)) hh F N hm hD hz .nil (fun ys hj => fin ys (by rw [vals_all] at hj; exact hj)) turn
theorem addK {a b : Addr} {us ws : List Value} {n1 n2 : Nat} {Q : Value → Shared → Prop} (F : Fr h₀ L s.heap m) (N : News h₀ L s.heap news) (ha : (a, W.listOf us.toArray n1) ∈ news) (hb : (b, W.listOf ws.toArray n2) ∈ news) (hz : us.length + ws.length ≤ 1000)
    (h : ∀ D h', Fr h₀ L h' m → News h₀ L h' ((D, W.listOf (us ++ ws).toArray 0) :: news) → (∀ p ∈ news, p.1 < D) → Q (.ref D) { s with heap := h' }) :
    wpAny (model prog w) A (binaryOp .Add (.ref a) (.ref b)) Q E s :=
  kmk_add_lit F N (News.isList N ha) (News.isList N hb) rfl h (by rw [sizeLine_eq]; simpa using Nat.le_trans hz (by decide))
end
theorem notinK {prog : Program} {w : World} {A : Around} {E : Value → Shared → Prop} {s : Shared} {l : Addr} {vs : List Value} {ys : List Str} {k : Str} {t : Tok} {Q : Value → Shared → Prop} (hl : s.heap.IsList l vs.toArray) (hi : StrsAre vs ys)
    (h1 : ys.any (· == k) = false → Q (.bool true) s) (h2 : ys.any (· == k) = true → Q (.bool false) s) : wpAny (model prog w) A (compareOp .NotIn (.str k t) (.ref l)) Q E s := by
  refine notin_list_strs hl hi ?_
  cases hb : ys.any (· == k) with
  | false => exact h1 hb
  | true => exact h2 hb
theorem eqNilK {prog : Program} {w : World} {A : Around} {E : Value → Shared → Prop} {s : Shared} {h₀ : Heap} {L : Addr} {news : List (Addr × Obj)} {a b : Addr} {vs : List Value} {ns : List Int} {n2 : Nat} {Q : Value → Shared → Prop} (N : News h₀ L s.heap news) (ha : (a, LCg.lst vs) ∈ news) (hi : IntsAre vs ns) (hb : (b, W.listOf #[] n2) ∈ news) (hu : A.units + 64 < cLine)
    (h : Q (.bool (decide (ns = []))) s) : wpAny (model prog w) A (compareOp .Eq (.ref a) (.ref b)) Q E s :=
  eq_intsK (us := []) (News.isList N ha) hi (News.isList N hb) IntsAre.nil hu h
theorem dueJ_keep {la c tn : Addr} {R₀ R : List (Addr × Obj)} {G : List (Str × Str)} {lost : List Str} {i nn nt : Nat} {hs : List Value} {oc : Obj} {v₀ : Option Value} {t1 t2 : Tok} (hi : i < G.length) (hoc : oc.data = .cell v₀) (hsub : ∀ p ∈ R₀, p ∈ R) (hD : DatAll R hs ((dueT G lost i).map pairD)) (hoff : OwnOff R [la, c]) (hl : hs.length ≤ i) (h1 : @LT.lt Nat _ la tn) (h2 : @LT.lt Nat _ c tn)
    (hb : (((G.drop (i + 1)).map (fun q => low q.1) ++ lost).any (· == low G[i].1)) = false) :
    DueJ la c R₀ G lost (i + 1) ((la, W.listOf (hs ++ [Value.ref tn]).toArray nn) :: (c, oc) :: (tn, ({ cls := .type "tuple", data := .seq [Value.str G[i].1 t1, Value.str (Txt.join (Str.ofString ",") ((G.filter fun q => low q.1 == low G[i].1).map (·.2))) t2].toArray nt } : Obj)) :: R) := by
  refine ⟨hs ++ [Value.ref tn], nn, oc, v₀, _, rfl, hoc, fun p hp => .tail _ (hsub p hp), ?_, ?_, by simp; exact hl⟩
  · rw [dueT_keep hi hb, List.map_append]
    exact (hD.mono fun p hp => .tail _ hp).append (DatAll.one (datin_pair (p := (G[i].1, _)) (.head _)))
  · intro q hq b hb
    rcases List.mem_cons.mp hq with rfl | hq
    · have hb' : b = la ∨ b = c := by simpa using hb
      rcases hb' with rfl | rfl <;> (refine neN ?_; omega)
    · exact hoff q hq b hb
theorem dueJ_skip {la c : Addr} {R₀ R : List (Addr × Obj)} {G : List (Str × Str)} {lost : List Str} {i nn : Nat} {hs : List Value} {oc : Obj} {v₀ : Option Value} (hi : i < G.length) (hoc : oc.data = .cell v₀) (hsub : ∀ p ∈ R₀, p ∈ R) (hD : DatAll R hs ((dueT G lost i).map pairD)) (hoff : OwnOff R [la, c]) (hl : hs.length ≤ i)
    (hb : (((G.drop (i + 1)).map (fun q => low q.1) ++ lost).any (· == low G[i].1)) = true) :
    DueJ la c R₀ G lost (i + 1) ((la, W.listOf hs.toArray nn) :: (c, oc) :: R) :=
  ⟨hs, nn, oc, v₀, R, rfl, hoc, hsub, by rw [dueT_skip hi hb]; exact hD, hoff, by omega⟩
section
variable {s₁ : Shared} {h₀ h' : Heap} {L la c tn I : Addr} {tk nn nt i : Nat} {names : List Str} {m₀ m' : Str → Option Value} {R₀ R : List (Addr × Obj)} {G : List (Str × Str)} {lost : List Str} {hs : List Value} {o oc : Obj} {v₀ : Option Value} {t1 t2 : Tok} {x1 x2 x3 x4 : Addr × Obj}
theorem dueEnd_keep (F : Fr h₀ L h' m') (hi : i < G.length)
    (N : News h₀ L h' ((tn, ({ cls := .type "tuple", data := .seq [Value.str G[i].1 t1, Value.str (Txt.join (Str.ofString ",") ((G.filter fun q => low q.1 == low G[i].1).map (·.2))) t2].toArray nt } : Obj)) :: x1 :: x2 :: x3 :: x4 :: (I, o) :: (la, W.listOf (hs ++ [Value.ref tn]).toArray nn) :: (c, oc) :: R))
    (hoc : oc.data = .cell v₀) (hsub : ∀ p ∈ R₀, p ∈ R) (hD : DatAll R hs ((dueT G lost i).map pairD)) (hoff : OwnOff R [la, c]) (hl : hs.length ≤ i) (hla : @LT.lt Nat _ la I) (hc : @LT.lt Nat _ c I) (hRI : ∀ p ∈ R, p.1 ≠ I) (htn : @LT.lt Nat _ I tn)
    (hb : (((G.drop (i + 1)).map (fun q => low q.1) ++ lost).any (· == low G[i].1)) = false) (hm : ∀ z, names.contains z = false → m' z = m₀ z) :
    UnrEndW h₀ L s₁ [(I, o)] (RngEnd names m₀ (DueJ la c R₀ G lost (i + 1))) { s₁ with heap := h', toks := tk } := by
  refine rngEnd_intro F N (.tail _ (.tail _ (.tail _ (.tail _ (.tail _ (.head _)))))) ?_ ?_ hm (dueJ_keep (nn := nn) (nt := nt) (t1 := t1) (t2 := t2) (tn := tn) hi hoc hsub hD hoff hl (by omega) (by omega) hb)
  · intro q hq
    simp only [List.mem_cons] at hq ⊢
    rcases hq with h | h | h | h <;> simp [h]
  · intro q hq
    rcases List.mem_cons.mp hq with rfl | hq
    · exact Nat.ne_of_lt hla
    rcases List.mem_cons.mp hq with rfl | hq
    · exact Nat.ne_of_lt hc
    rcases List.mem_cons.mp hq with rfl | hq
    · exact Ne.symm (Nat.ne_of_lt htn)
    · exact hRI q hq
theorem dueEnd_skip (F : Fr h₀ L h' m') (hi : i < G.length)
    (N : News h₀ L h' (x1 :: x2 :: x3 :: (I, o) :: (la, W.listOf hs.toArray nn) :: (c, oc) :: R))
    (hoc : oc.data = .cell v₀) (hsub : ∀ p ∈ R₀, p ∈ R) (hD : DatAll R hs ((dueT G lost i).map pairD)) (hoff : OwnOff R [la, c]) (hl : hs.length ≤ i) (hla : @LT.lt Nat _ la I) (hc : @LT.lt Nat _ c I) (hRI : ∀ p ∈ R, p.1 ≠ I)
    (hb : (((G.drop (i + 1)).map (fun q => low q.1) ++ lost).any (· == low G[i].1)) = true) (hm : ∀ z, names.contains z = false → m' z = m₀ z) :
    UnrEndW h₀ L s₁ [(I, o)] (RngEnd names m₀ (DueJ la c R₀ G lost (i + 1))) { s₁ with heap := h', toks := tk } := by
  refine rngEnd_intro F N (.tail _ (.tail _ (.tail _ (.head _)))) ?_ ?_ hm (dueJ_skip (nn := nn) hi hoc hsub hD hoff hl hb)
  · intro q hq
    exact .tail _ (.tail _ (.tail _ (.tail _ hq)))
  · intro q hq
    rcases List.mem_cons.mp hq with rfl | hq
    · exact Nat.ne_of_lt hla
    rcases List.mem_cons.mp hq with rfl | hq
    · exact Nat.ne_of_lt hc
    · exact hRI q hq
end
end Mine
end
section
open PySem PySem.W PyProof.Rows
namespace Mine
local macro_rules | `(tactic| k_mem) => `(tactic| first | assumption | exact List.mem_append_right _ (by assumption) | exact List.mem_append_left _ (by assumption))
local macro_rules | `(tactic| k_all) => `(tactic| exact fun p hp => Nat.ne_of_lt (Nat.lt_of_lt_of_le (kst_ltOf (by first | assumption | exact And.right (by assumption) | exact And.right (And.right (by assumption)) | exact And.right (And.right (And.right (by assumption))) | exact And.right (And.right (And.right (And.right (by assumption)))) | exact And.right (And.right (And.right (And.right (And.right (by assumption))))) | exact And.right (And.right (And.right (And.right (And.right (And.right (by assumption)))))) | exact And.right (And.right (And.right (And.right (And.right (And.right (And.right (by assumption)))))))) p hp) (by omega)))
local macro_rules | `(tactic| walk_at "CompSrcT") => `(tactic| k_dflt (k_extra "mine CompSrcT"))
local macro_rules | `(tactic| walk_at "exec Assign cons ListComp") => `(tactic| k_dflt (k_extra "mine Assign ListComp"))
local macro_rules | `(tactic| walk_at "CompEnd") => `(tactic| k_dflt (k_extra "mine CompEnd"))
local macro_rules | `(tactic| walk_at "CompSrc") => `(tactic| k_dflt (k_extra "mine CompSrc"))
local macro_rules | `(tactic| walk_at "compareOp NotEq ref ref") => `(tactic| k_dflt (k_extra "mine NotEq"))
local macro_rules | `(tactic| walk_at "subscriptTail Name Slice ref ref") => `(tactic| k_dflt (k_extra "mine slice"))
local macro_rules | `(tactic| walk_at "subscriptTail") => `(tactic| k_dflt (k_extra "mine subscriptTail"))
local macro_rules | `(tactic| walk_at "exec For Name Call cons nil") => `(tactic| k_dflt (k_extra "mine For"))
local macro_rules | `(tactic| walk_at "pyIter ref") => `(tactic| k_dflt (k_extra "mine iter"))
local macro_rules | `(tactic| walk_at "SrcLP") => `(tactic| k_dflt (k_extra "mine SrcLP"))
local macro_rules | `(tactic| walk_at "binaryOp Add ref ref") => `(tactic| k_dflt (k_extra "mine Add"))
local macro_rules | `(tactic| walk_at "compareOp NotIn str ref") => `(tactic| k_dflt (k_extra "mine NotIn"))
local macro_rules | `(tactic| walk_at "eval ListComp") => `(tactic| k_dflt (k_extra "mine ListComp"))
local macro_rules | `(tactic| walk_at "call builtin:str.join") => `(tactic| k_dflt (k_extra "mine join"))
local macro_rules | `(tactic| walk_at "call builtin:list.append") => `(tactic| k_dflt (k_extra "mine append"))
local macro_rules | `(tactic| walk_at "compareOp Eq ref ref") => `(tactic| k_dflt (k_extra "mine Eq"))
theorem due_step : ∀ (w : World) (mean : ExcName → Option Value) (mg mb : Str → Option Value) (h₀ : Heap) (L a : Addr) (ccd : Value) (m : Str → Option Value) (news : List (Addr × Obj)) (s : Shared) (Q : Value → Shared → Prop) (E : Value → Shared → Prop) (l : Addr) (n : Nat) (vs : List Value) (fs : List (Str × Str)),
   Below callerA h₀ [] h₀ → Fr h₀ L s.heap m → (hd.heap_39 w.params).In h₀ → News h₀ L s.heap news → Top hd.view_39 loose4 mean mg mb h₀ → (l, W.listOf vs.toArray n) ∈ news → DatAll news vs (fs.map pairD) →
   fs.length ≤ 20 → (∀ p ∈ fs, (p.1.length ≤ 64 ∧ p.2.length ≤ 64) ∧ nameBad (low p.1) = nameBad p.1) →
   (∀ (b : Bool) (T' : List (Str × Str)) (r l2 : Addr) (hs2 : List Value) (n2 n3 : Nat) (led : List (Addr × Obj)) (h' : Heap) (tk' : Nat), DueIs fs b T' → Fr h₀ L h' m → News h₀ L h' led → (r, W.listOf #[.bool b, .ref l2] n3) ∈ led → (l2, W.listOf hs2.toArray n2) ∈ led → DatAll led hs2 (T'.map pairD) → (∀ p ∈ news, p ∈ led) → Q (.ref r) { s with heap := h', toks := tk' }) →
   wpAny (model PySem.Challenge.rw_mr0261_01.row.prog w) (callerA.deeper (envOf (Str.ofString "law") lawScope L a ccd)) (call (.ref 210) [.ref l]) Q E s := by
  k_with_none; w_on; w_top on; k_fill
  intro w mean mg mb h₀ L a ccd m news s Q E l n vs fs B F X N T hm hD hfl hfp hret
  have hvl : vs.length = fs.length := by rw [hD.length, List.length_map]
  k_with "mine Assign ListComp" =>
    with_reducible show wpAny _ _ (exec (Stmt.Assign [PySem.Expr.Name _ _] (PySem.Expr.ListComp _ [⟨PySem.Expr.Name _ _, _, [_], 0⟩] _ _) _) _) _ _ _
    k_dflt (refine LCt.Assign_ListComp_T (F₀ := by k_asm) (by rfl) (by with_unfolding_all rfl) (by with_unfolding_all rfl) (by decide) (by rfl) (by decide) (by rfl) (by rfl) (by rfl) ?_)
  k_with "mine Assign ListComp" =>
    with_reducible show wpAny _ _ (exec (Stmt.Assign [PySem.Expr.Name _ _] (PySem.Expr.ListComp _ [⟨PySem.Expr.Name _ _, _, [], 0⟩] _ _) _) _) _ _ _
    k_dflt (refine LCg.Assign_ListComp_U (F₀ := by k_asm) (by rfl) (by with_unfolding_all rfl) (by with_unfolding_all rfl) (by decide) (by rfl) (by decide) (by rfl) (by rfl) (by rfl) ?_)
  k_with "mine CompSrcT" =>
    rename Fr _ _ _ _ => lF'
    rename News _ _ _ _ => lN'
    k_dflt (refine LCt.CompSrcT.range (n := vs.length) (by rfl) lF' lN' (by assumption) (small_one (by omega) (by omega) (by omega) (by omega)) (by rw [rangeSize_nat]; simp) (by rw [sizeLine_eq]; omega) ?_)
    intro g'
    refine restT_ind (fun i ys => IntsAre ys (flt fs i)) ?_ ?_ .nil
    all_goals first
      | (intro i' ys' v' I' oI' C' oC' D' m' h' tk' E' hi' hJ' hv' hC' hx' F' N' off' ne'
         obtain ⟨tv', hv2'⟩ := hv'
         subst hv2'
         have hif' : i' < fs.length := by omega
         obtain ⟨a', t1', t2', n', hva', hma'⟩ := datall_get hD i' hif'
         have hpl' := hfp _ (List.getElem_mem hif'))
      | (intro ys' hJ'
         rw [hvl] at hJ'
         rcases hfl0 : flt fs fs.length with _ | ⟨j', js'⟩
         all_goals first
           | (obtain ⟨jn', hj', hjl', hjf', hjb'⟩ := flt_head hfl0
              subst hj'
              have htl' : (List.take jn' vs).length = jn' := by rw [List.length_take]; omega
              rw [hfl0] at hJ'
              rcases hJ' with _ | ⟨_, tj', hJr'⟩)
           | (rw [hfl0] at hJ'
              cases hJ'))
  k_with "mine slice" =>
    with_reducible show wpAny _ _ (subscriptTail _ (PySem.Expr.Slice _ _ _ _) (Value.ref _) (Value.ref _)) _ _ _
    fail_if_success (with_reducible show wpAny _ _ (subscriptTail _ _ (Value.ref l) _) _ _ _)
    dsimp only
    rename Fr _ _ _ _ => lF'
    rename News _ _ _ _ => lN'
    refine sliceK (its := (Value.int (jn' : Int) tj' :: _).toArray) lF' lN' rfl rfl (by k_mem) .none (.int _ _) (slicePick_upto' _ 1) ?_ (by intros; with_unfolding_all rfl) (by intros; with_unfolding_all rfl) (by rw [List.size_toArray, List.length_cons, hJr'.length, sizeLine_eq]; have := congrArg List.length hfl0; have h2 := flt_len fs fs.length; simp only [List.length_cons] at this; omega)
    intro D' h' F' N' l1
    try k_lt l1
  k_with "mine slice" =>
    with_reducible show wpAny _ _ (subscriptTail _ (PySem.Expr.Slice _ _ _ _) (Value.ref l) (Value.ref _)) _ _ _
    dsimp only
    rename Fr _ _ _ _ => lF'
    rename News _ _ _ _ => lN'
    refine sliceK lF' lN' rfl rfl (by k_mem) .none (.int _ _) (slicePick_upto' _ _) ?_ (by intros; with_unfolding_all rfl) (by intros; with_unfolding_all rfl) (by rw [List.size_toArray, sizeLine_eq]; omega)
    intro D' h' F' N' l1
    try k_lt l1
  k_with "mine CompSrc" =>
    rename Fr _ _ _ _ => lF'
    rename News _ _ _ _ => lN'
    have hnil' := flt_nil hfl0
    k_dflt (refine LCg.CompSrc.ledger (its := #[]) (by rfl) lF' lN' (by k_mem) (by decide) ?_)
    intro g'
    refine restU_ind (fun i ys => i = 0 ∧ ys = []) ?_ ?_ ⟨rfl, rfl⟩
    all_goals first
      | (intro i' ys' v' I' oI' C' oC' D' m' h' tk' E' hi' hJ' hv' hC' hx' F' N' off' ne'
         exact absurd hi' (Nat.not_lt_zero _))
      | (intro ys2' hJ'
         obtain ⟨-, rfl⟩ := hJ')
  k_with "mine CompSrc" =>
    rename Fr _ _ _ _ => lF'
    rename News _ _ _ _ => lN'
    obtain ⟨a', t1', t2', n', hva', hma'⟩ := datall_get hD jn' hjl'
    have hpl' := hfp _ (List.getElem_mem hjl')
    k_dflt (refine LCg.CompSrc.ledger (by rfl) lF' lN' (List.Mem.head _) (by simp only [List.size_toArray, List.length_take, List.length_cons]; rw [sizeLine_eq]; omega) ?_)
    intro g'
    refine restU_ind (fun i ys => (i = 0 ∧ ys = []) ∨ (i = 1 ∧ ∃ t, ys = [Value.str (low fs[jn'].1) t])) ?_ ?_ (.inl ⟨rfl, rfl⟩)
    all_goals first
      | (intro i' ys' v' I' oI' C' oC' D' m' h' tk' E' hi' hJ' hv' hC' hx' F' N' off' ne'
         have hi0' : i' = 0 := by simp at hi'; omega
         subst hi0'
         have hv2' : Value.int (jn' : Int) tj' = v' := by simpa using hv'
         subst hv2'
         rcases hJ' with ⟨-, rfl⟩ | ⟨h0', -⟩
         all_goals try exact absurd h0' (by decide))
      | (intro ys2' hJ'
         rcases hJ' with ⟨h0', -⟩ | ⟨-, tl', rfl⟩
         all_goals try exact absurd h0' (by simp))
  k_with "mine CompEnd" =>
    refine compEnd_same (by k_asm) (by k_asm) (fun p hp => hp) off' (by first | exact trivial | exact srcAt_led (List.Mem.head _)) ?_
    first
      | exact lows_snoc hi2' hJ'
      | exact vals_keep hi2' hJ' (by assumption)
      | exact vals_skip hi2' hJ' (by assumption)
      | exact .inr ⟨rfl, _, rfl⟩
      | exact flt_keep1 hif' hJ' (by assumption)
      | exact flt_keep2 hif' hJ' (by assumption)
      | exact flt_skip hif' hJ' (by assumption) (by assumption)
  k_with "mine subscriptTail" =>
    refine itemK (by k_asm) (by k_mem) (by first | exact Int.zero_add _ | rfl) (by omega) hva' ?_ (by with_unfolding_all rfl) (by intros; with_unfolding_all rfl)
  k_with "mine NotEq" =>
    first
      | refine ne_intsK (us := []) (News.isList (by k_asm) (by k_mem)) IntsAre.nil (News.isList (by k_asm) (by k_mem)) IntsAre.nil (by units_room) ?_
      | refine ne_intsK (us := []) (News.isList (by k_asm) (by k_mem)) (IntsAre.cons _ _ hJr') (News.isList (by k_asm) (by k_mem)) IntsAre.nil (by units_room) ?_
    try simp only [reduceCtorEq, decide_false, decide_true, Bool.not_false, Bool.not_true, ne_eq, not_false_eq_true, not_true_eq_false]
    try dsimp only
  k_with "call builtin:len" =>
    refine lenK (by k_asm) (by k_mem) (by omega) ?_
  k_with "mine For" =>
    rename Fr _ _ _ _ => lF'
    with_unfolding_all refine' For_turns lF' ?_
    k_whole
  k_with "mine iter" =>
    with_reducible show wpAny _ _ (pyIter (Value.ref _)) (fun it s₂ => TurnsAt _ _ _ _ _ _ _ _ _ it s₂) _ _
    have hg9 := hnil'; clear hg9
    rename Fr _ _ _ _ => lF'
    rename News _ _ _ _ => lN'
    with_unfolding_all refine due_loop fs [] [Str.ofString "k"] (by rfl) (by assumption) (small_one (by omega) (by omega) (by omega) (by omega)) (by rw [rangeSize_nat]; rw [hvl]; simp) lF' lN' (.tail (.tail (.tail (.tail .head)))) (by assumption) (by
        intro p hp b hb
        simp only [List.mem_cons, List.not_mem_nil, or_false] at hp hb
        rcases hp with rfl | rfl | rfl | rfl | rfl | hp
        all_goals (rcases hb with rfl | rfl)
        all_goals first
          | (refine neN ?_; (try dsimp only); omega)
          | (have q := (show ∀ p ∈ news, @LT.lt Nat _ p.1 _ from by assumption) p hp; refine neN ?_; omega)) ?_ ?_
    all_goals first
      | (intro I' i' t' hs' nn' oc' v0' R' u' h' tk' o' hif' hcd' hsub' hDl' hoff' hhl' hlaI' hcI' hRI' F' ho' N'
         have hgm' : (_, W.listOf (vs).toArray n) ∈ R' := hsub' _ (.tail _ (.tail _ (.tail _ (.tail _ (.tail _ hm)))))
         have hDg' : DatAll R' (vs) ((fs).map pairD) := hD.mono fun q hq => hsub' _ (.tail _ (.tail _ (.tail _ (.tail _ (.tail _ hq)))))
         have hGl' : (fs).length ≤ 20 := by omega
         have hGp' : ∀ p ∈ fs, p.1.length ≤ 64 ∧ p.2.length ≤ 64 := fun p hp => (hfp p hp).1
         have hln' : LnIs (low (fs[i']).1) := trivial
         have hlm' := hsub' _ (.head _); have hls' : StrsAre [] [] := .nil
         obtain ⟨a', t1', t2', n', hva', hma'⟩ := datall_get hDg' i' hif'
         have hpl' := hGp' _ (List.getElem_mem hif'))
      | (intro hs' nn' oc' v0' R' u' h' tk' hcd' hsub' hDl' hoff' F' N'
         have hfm' := hsub' _ (.tail _ (.tail _ (.tail _ (.head _))))
         have hfi' : IntsAre [] [] := .nil
         try dsimp only)
  k_with "mine iter" =>
    with_reducible show wpAny _ _ (pyIter (Value.ref _)) (fun it s₂ => TurnsAt _ _ _ _ _ _ _ _ _ it s₂) _ _
    have hg9 := hjb'; clear hg9
    rename Fr _ _ _ _ => lF'
    rename News _ _ _ _ => lN'
    with_unfolding_all refine due_loop (fs.take jn') [low fs[jn'].1] [Str.ofString "k"] (by rfl) (by assumption) (small_one (by omega) (by omega) (by omega) (by omega)) (by rw [rangeSize_nat]; simp only [List.length_take]; omega) lF' lN' (.tail (.tail (.tail (.tail (.tail .head))))) (by assumption) (by
        intro p hp b hb
        simp only [List.mem_cons, List.not_mem_nil, or_false] at hp hb
        rcases hp with rfl | rfl | rfl | rfl | rfl | rfl | hp
        all_goals (rcases hb with rfl | rfl)
        all_goals first
          | (refine neN ?_; (try dsimp only); omega)
          | (have q := (show ∀ p ∈ news, @LT.lt Nat _ p.1 _ from by assumption) p hp; refine neN ?_; omega)) ?_ ?_
    all_goals first
      | (intro I' i' t' hs' nn' oc' v0' R' u' h' tk' o' hif' hcd' hsub' hDl' hoff' hhl' hlaI' hcI' hRI' F' ho' N'
         have hgm' : (_, W.listOf (vs.take jn').toArray 0) ∈ R' := hsub' _ (.tail _ (.tail _ (.head _)))
         have hDg' : DatAll R' (vs.take jn') (((fs.take jn')).map pairD) := datall_take (hD.mono fun q hq => hsub' _ (.tail _ (.tail _ (.tail _ (.tail _ (.tail _ (.tail _ hq))))))) jn'
         have hGl' : ((fs.take jn')).length ≤ 20 := by rw [List.length_take]; omega
         have hGp' : ∀ p ∈ (fs.take jn'), p.1.length ≤ 64 ∧ p.2.length ≤ 64 := fun p hp => (hfp p (List.mem_of_mem_take hp)).1
         have hln' : LnIs (low ((fs.take jn')[i']).1) := trivial
         have hlm' := hsub' _ (.head _); have hls' : StrsAre [Value.str (low fs[jn'].1) tl'] [low fs[jn'].1] := .cons _ _ .nil
         obtain ⟨a', t1', t2', n', hva', hma'⟩ := datall_get hDg' i' hif'
         have hpl' := hGp' _ (List.getElem_mem hif'))
      | (intro hs' nn' oc' v0' R' u' h' tk' hcd' hsub' hDl' hoff' F' N'
         have hfm' := hsub' _ (.tail _ (.tail _ (.tail _ (.tail _ (.head _)))))
         have hfi' := IntsAre.cons (jn' : Int) tj' (show IntsAre _ js' from by assumption)
         try dsimp only)
  k_with "mine slice" =>
    with_reducible show wpAny _ _ (subscriptTail _ (PySem.Expr.Slice _ _ _ _) (Value.ref _) (Value.ref _)) _ _ _
    have hg9 := hgm'
    clear hg9
    dsimp only
    rename Fr _ _ _ _ => lF'
    rename News _ _ _ _ => lN'
    refine sliceK lF' lN' rfl rfl (by k_mem) (.int _ _) .none (slicePick_from' _ (i' + 1)) ?_ (by intros; with_unfolding_all rfl) (by intros; with_unfolding_all rfl) (by rw [List.size_toArray, hDg'.length, List.length_map, sizeLine_eq]; omega)
    intro D' h' F' N' l1
    try k_lt l1
  k_with "mine SrcLP" =>
    rename Fr _ _ _ _ => lF'
    rename News _ _ _ _ => lN'
    refine srcP_lows (by rfl) lF' lN' (List.Mem.head _) ((datall_dropk hDg' (i' + 1)).mono fun q hq => .tail _ (.tail _ (.tail _ (.tail _ hq)))) (by rw [List.length_drop]; omega) (fun g' ys' hJ' => ?_) (fun g' i2' hi2' ys' tp1' tp2' I' oI' C' oC' D' m' h' tk' E' hJ' hC' hx' hxx' F' N' off' ne' => have hpl2' := hGp' _ (List.mem_of_mem_drop (List.getElem_mem hi2')); ?_)
  k_with "mine ListComp" =>
    with_reducible show wpAny _ _ (eval (PySem.Expr.ListComp _ [⟨PySem.Expr.Tuple [PySem.Expr.Name _ _, PySem.Expr.Name _ _] _ _, _, [_], 0⟩] _ _) _) _ _ _
    refine ListComp_PT (by k_asm) (by with_unfolding_all rfl) (by decide) (by rfl) (by decide) (by rfl) (by rfl) (by decide) ?_
  k_with "SrcPT" =>
    rename Fr _ _ _ _ => lF'
    rename News _ _ _ _ => lN'
    refine srcPT_vals hln' (by rfl) lF' lN' (by k_mem) (hDg'.mono fun q hq => by first | exact .tail _ (.tail _ (.tail _ hq)) | exact .tail _ (.tail _ (.tail _ (.tail _ hq))) | exact .tail _ (.tail _ (.tail _ (.tail _ (.tail _ hq)))) | exact .tail _ (.tail _ (.tail _ (.tail _ (.tail _ (.tail _ hq)))))) (by omega) (fun ys' hJ' => ?_) (fun i2' hi2' ys' tp1' tp2' I' oI' C' oC' D' m' h' tk' E' hJ' hC' hx' hxx' F' N' off' ne' => have hpl2' := hGp' _ (List.getElem_mem hi2'); ?_)
  k_with "mine Add" =>
    with_reducible show wpAny _ _ (binaryOp _ (Value.ref _) (Value.ref _)) _ _ _
    refine addK (us := ys') (by k_asm) (by k_asm) (List.Mem.head _) (by k_mem) (by have q1 := hJ'.length; have q2 := hls'.length; simp only [List.length_map, List.length_drop, List.length_cons, List.length_nil] at q1 q2 ⊢; omega) ?_
    intro D' h' F' N' l1
    try k_lt l1
  k_with "mine NotIn" =>
    refine notinK (News.isList (by k_asm) (List.Mem.head _)) (hJ'.append' hls') (fun hb9' => ?_) (fun hb9' => ?_)
  k_with "mine join" =>
    refine join_listC (News.isList (by k_asm) (List.Mem.head _)) hJ' (by decide) (vals_len _ (fun p hp => (hGp' p hp).2) hGl') (fun tj9' kj9' => ?_)
  k_with "mine append" =>
    rename Fr _ _ _ _ => lF'
    rename News _ _ _ _ => lN'
    k_dflt (refine append_K lF' lN' (by k_upd) ?_ (by rw [List.size_toArray, sizeLine_eq]; omega))
    rw [List.push_toArray]
    intro h' F' N'
  k_with "mine Eq" =>
    with_reducible show wpAny _ _ (compareOp CmpOp.Eq (Value.ref _) (Value.ref _)) _ _ _
    refine eqNilK (by k_asm) (.tail _ (.tail _ (.tail _ hfm'))) (by first | exact hfi' | assumption) (List.Mem.head _) (by units_room) ?_
    try simp only [reduceCtorEq, decide_false, decide_true]
  k_steps
  · rename News _ _ _ _ => lN'
    exact dueEnd_keep (by k_asm) hif' lN' (by assumption) hsub' hDl' hoff' hhl' hlaI' hcI' hRI' (by omega) hb9' (by
        intro z hz
        have z1 : z ≠ Str.ofString "k" := by rintro rfl; exact absurd hz (by decide)
        simp only [if_neg z1]
        rw [if_neg (by rw [hz]; decide)])
  · rename News _ _ _ _ => lN'
    exact dueEnd_skip (by k_asm) hif' lN' (by assumption) hsub' hDl' hoff' hhl' hlaI' hcI' hRI' hb9' (by
        intro z hz
        have z1 : z ≠ Str.ofString "k" := by rintro rfl; exact absurd hz (by decide)
        simp only [if_neg z1]
        rw [if_neg (by rw [hz]; decide)])
  · rename Fr _ _ _ _ => lF'
    rename News _ _ _ _ => lN'
    exact hret true _ _ _ hs' _ _ _ _ _ (.inl ⟨rfl, flt_nil hfl0, rfl⟩) lF' lN' (.head _) (.tail _ (.tail _ (.head _))) (hDl'.mono fun q hq => .tail _ (.tail _ (.tail _ (.tail _ hq)))) (fun q hq => .tail _ (.tail _ (.tail _ (.tail _ (hsub' _ (.tail _ (.tail _ (.tail _ (.tail _ (.tail _ hq))))))))))
  · rename News _ _ _ _ => lN'
    exact dueEnd_keep (by k_asm) hif' lN' (by assumption) hsub' hDl' hoff' hhl' hlaI' hcI' hRI' (by omega) hb9' (by
        intro z hz
        have z1 : z ≠ Str.ofString "k" := by rintro rfl; exact absurd hz (by decide)
        simp only [if_neg z1]
        rw [if_neg (by rw [hz]; decide)])
  · rename News _ _ _ _ => lN'
    exact dueEnd_skip (by k_asm) hif' lN' (by assumption) hsub' hDl' hoff' hhl' hlaI' hcI' hRI' hb9' (by
        intro z hz
        have z1 : z ≠ Str.ofString "k" := by rintro rfl; exact absurd hz (by decide)
        simp only [if_neg z1]
        rw [if_neg (by rw [hz]; decide)])
  · rename Fr _ _ _ _ => lF'
    rename News _ _ _ _ => lN'
    exact hret false _ _ _ hs' _ _ _ _ _ (.inr ⟨rfl, jn', hjl', hjf', hjb', rfl⟩) lF' lN' (.head _) (.tail _ (.tail _ (.head _))) (hDl'.mono fun q hq => .tail _ (.tail _ (.tail _ (.tail _ hq)))) (fun q hq => .tail _ (.tail _ (.tail _ (.tail _ (hsub' _ (.tail _ (.tail _ (.tail _ (.tail _ (.tail _ (.tail _ hq)))))))))))
end Mine
end
section
open PySem PySem.W PyProof.Rows PySem.Calls
namespace Mine
abbrev comma : Str := Str.ofString ","
theorem join_eq (l : List Str) : Txt.join comma l = Str.join comma l := eq_of_beq (join_plain_closes comma l)
theorem sjoin_snoc : ∀ (l : List Str) (x : Str), l ≠ [] → Str.join comma (l ++ [x]) = Str.join comma l ++ comma ++ x
  | [], x, h => absurd rfl h
  | [a], x, _ => rfl
  | a :: b :: r, x, _ => by
    have ih := sjoin_snoc (b :: r) x (List.cons_ne_nil _ _)
    have e1 : Str.join comma (a :: b :: r) = a ++ comma ++ Str.join comma (b :: r) := rfl
    have e2 : Str.join comma ((a :: b :: r) ++ [x]) = a ++ comma ++ Str.join comma ((b :: r) ++ [x]) := rfl
    rw [e1, e2, ih]
    simp only [Str.append_assoc]
theorem join_one (x : Str) : Txt.join comma [x] = x := by rw [join_eq]; rfl
theorem join_snoc (l : List Str) (x : Str) (h : l ≠ []) : Txt.join comma (l ++ [x]) = Txt.join comma l ++ comma ++ x := by
  rw [join_eq, join_eq]; exact sjoin_snoc l x h
theorem valBad_append (a b : Str) : valBad (a ++ b) = (valBad a || valBad b) := by
  unfold valBad
  rw [show (a ++ b).cps = a.cps ++ b.cps from rfl, Array.any_append]
theorem valBad_comma : valBad comma = false := by decide +kernel
theorem valBad_empty : valBad Str.empty = false := by decide +kernel
theorem valBad_sjoin : ∀ l : List Str, valBad (Str.join comma l) = l.any valBad
  | [] => valBad_empty
  | [a] => by simp [Str.join]
  | a :: b :: r => by
    have e1 : Str.join comma (a :: b :: r) = a ++ comma ++ Str.join comma (b :: r) := rfl
    rw [e1, valBad_append, valBad_append, valBad_comma, valBad_sjoin (b :: r), List.any_cons (l := b :: r), Bool.or_false]
theorem valBad_join (l : List Str) : valBad (Txt.join comma l) = l.any valBad := by rw [join_eq]; exact valBad_sjoin l
/-- all the values of one name -/
def valsOf (all : List (Str × Str)) (k : Str) : List Str := (all.filter fun q => low q.1 == k).map (·.2)
def keep1 (r : List (Str × Str)) (lost : List Str) (p : Str × Str) : Bool := !((r.map (fun q => low q.1) ++ lost).any (· == low p.1))
def due' (all : List (Str × Str)) (lost : List Str) : List (Str × Str) → List (Str × Str)
  | [] => []
  | p :: r => (if keep1 r lost p = true then [(p.1, Txt.join comma (valsOf all (low p.1)))] else []) ++ due' all lost r
theorem dueT_due' (G : List (Str × Str)) (lost : List Str) : dueT G lost G.length = due' G lost G := by
  have key : ∀ (B A : List (Str × Str)), G = A ++ B → (List.range' A.length B.length).flatMap (dueAt G lost) = due' G lost B := by
    intro B
    induction B with
    | nil => intro A _; rfl
    | cons p r ih =>
      intro A hG
      rw [List.length_cons, List.range'_succ, List.flatMap_cons]
      have h2 := ih (A ++ [p]) (by rw [hG]; simp)
      rw [List.length_append, List.length_singleton] at h2
      rw [h2]
      show _ = _ ++ _
      congr 1
      have e1 : G[A.length]? = some p := by rw [hG]; simp
      have e2 : G.drop (A.length + 1) = r := by rw [hG]; simp [List.drop_append]
      unfold dueAt keep1 valsOf
      rw [e1]
      dsimp only
      rw [e2]
  unfold dueT
  rw [List.range_eq_range']
  exact key G [] rfl
theorem keep1_more (r : List (Str × Str)) (lost : List Str) (k : Str) (p : Str × Str) : keep1 r (k :: lost) p = (keep1 r lost p && (low p.1 != k)) := by
  unfold keep1
  rw [List.any_append, List.any_append, List.any_cons]
  have e : (k == low p.1) = (low p.1 == k) := by
    rw [Bool.eq_iff_iff]; simp only [beq_iff_eq]; exact ⟨fun h => h.symm, fun h => h.symm⟩
  rw [e]
  show _ = (_ && !(low p.1 == k))
  cases (r.map fun q => low q.1).any (· == low p.1) <;> cases (low p.1 == k) <;> cases lost.any (· == low p.1) <;> rfl
theorem dropN_append (a b : List (Str × Str)) (k : Str) : dropN (a ++ b) k = dropN a k ++ dropN b k := by unfold dropN; exact List.filter_append ..
theorem due'_lost (all : List (Str × Str)) (lost : List Str) (k : Str) : ∀ A, due' all (k :: lost) A = dropN (due' all lost A) k
  | [] => rfl
  | p :: r => by
    show _ ++ _ = dropN (_ ++ _) k
    rw [dropN_append, due'_lost all lost k r, keep1_more]
    congr 1
    cases keep1 r lost p with
    | false => rfl
    | true =>
      by_cases h : (low p.1 != k) = true
      · rw [h]; simp [dropN, List.filter_cons, h]
      · have h' : (low p.1 != k) = false := by simpa using h
        rw [h']
        simp [dropN, List.filter_cons, h']
theorem keep1_snoc (r : List (Str × Str)) (lost : List Str) (f p : Str × Str) : keep1 (r ++ [f]) lost p = keep1 r (low f.1 :: lost) p := by
  unfold keep1
  simp only [List.map_append, List.any_append, List.map_cons, List.map_nil, List.any_cons, List.any_nil, Bool.or_false, Bool.or_assoc]
theorem due'_snoc (all : List (Str × Str)) (lost : List Str) (f : Str × Str) : ∀ A, due' all lost (A ++ [f]) = due' all (low f.1 :: lost) A ++ due' all lost [f]
  | [] => rfl
  | p :: r => by
    show _ ++ due' all lost (r ++ [f]) = (_ ++ _) ++ _
    rw [due'_snoc all lost f r, show r.append [f] = r ++ [f] from rfl, keep1_snoc, List.append_assoc]
theorem valsOf_snoc (all : List (Str × Str)) (f : Str × Str) (k : Str) : valsOf (all ++ [f]) k = if (low f.1 == k) = true then valsOf all k ++ [f.2] else valsOf all k := by
  unfold valsOf
  rw [List.filter_append, List.map_append]
  by_cases h : (low f.1 == k) = true
  · simp [List.filter_cons, h]
  · simp [List.filter_cons, h]
theorem due'_all (all : List (Str × Str)) (lost : List Str) (f : Str × Str) : ∀ A, dropN (due' (all ++ [f]) lost A) (low f.1) = dropN (due' all lost A) (low f.1)
  | [] => rfl
  | p :: r => by
    show dropN (_ ++ _) _ = dropN (_ ++ _) _
    rw [dropN_append, dropN_append, due'_all all lost f r]
    congr 1
    cases keep1 r lost p with
    | false => rfl
    | true =>
      by_cases h : (low f.1 == low p.1) = true
      · have e : low p.1 = low f.1 := (eq_of_beq h).symm
        simp [dropN, List.filter_cons, e]
      · rw [valsOf_snoc, if_neg h]
theorem any_key (r : List (Str × Str)) (k : Str) : (r.map fun q => low q.1).any (· == k) = r.any fun q => low q.1 == k := by
  rw [List.any_map]; rfl
theorem get1_due' (all : List (Str × Str)) (k : Str) : ∀ A, get1 (due' all [] A) k = if (A.any fun q => low q.1 == k) = true then some (Txt.join comma (valsOf all k)) else none
  | [] => rfl
  | p :: r => by
    have ih := get1_due' all k r
    show get1 (_ ++ _) k = _
    rw [List.any_cons]
    unfold keep1
    rw [List.append_nil, any_key]
    by_cases hk : (low p.1 == k) = true
    · have e : low p.1 = k := eq_of_beq hk
      rw [hk, Bool.true_or, if_pos rfl, e]
      cases hr : r.any fun q => low q.1 == k with
      | true =>
        rw [hr, if_pos rfl] at ih
        exact ih
      | false => simp [get1, List.find?_cons, hk]
    · have hk' : (low p.1 == k) = false := by simpa using hk
      rw [hk', Bool.false_or, ← ih]
      cases r.any fun q => low q.1 == low p.1 with
      | true => rfl
      | false => simp [get1, List.find?_cons, hk']
theorem valsOf_none {G : List (Str × Str)} {k : Str} (h : (G.any fun q => low q.1 == k) = false) : valsOf G k = [] := by
  unfold valsOf
  rw [List.filter_eq_nil_iff.mpr]
  · rfl
  · intro q hq hb
    have h9 : (G.any fun q => low q.1 == k) = true := List.any_eq_true.mpr ⟨q, hq, hb⟩
    rw [h] at h9
    cases h9
theorem valsOf_some {G : List (Str × Str)} {k : Str} (h : (G.any fun q => low q.1 == k) = true) : valsOf G k ≠ [] := by
  obtain ⟨q, hq, hb⟩ := List.any_eq_true.mp h
  unfold valsOf
  intro e
  have hm : q.2 ∈ (G.filter fun q => low q.1 == k).map (·.2) := List.mem_map.mpr ⟨q, List.mem_filter.mpr ⟨hq, hb⟩, rfl⟩
  rw [e] at hm
  cases hm
theorem newVal_due (G : List (Str × Str)) (f : Str × Str) : newVal (due' G [] G) f.1 f.2 = Txt.join comma (valsOf (G ++ [f]) (low f.1)) := by
  rw [valsOf_snoc, if_pos (beq_self_eq_true _)]
  unfold newVal
  rw [get1_due']
  cases h : G.any fun q => low q.1 == low f.1 with
  | true =>
    rw [if_pos rfl, join_snoc _ _ (valsOf_some h)]
  | false =>
    rw [if_neg (by decide), valsOf_none h, List.nil_append, join_one]
theorem due_step1 (G : List (Str × Str)) (f : Str × Str) : due' (G ++ [f]) [] (G ++ [f]) = dropN (due' G [] G) (low f.1) ++ [(f.1, newVal (due' G [] G) f.1 f.2)] := by
  rw [due'_snoc, due'_lost, due'_all, newVal_due]
  rfl
def Fine (p : Str × Str) : Prop := nameBad (low p.1) = false ∧ valBad p.2 = false
theorem newVal_bad {G : List (Str × Str)} {f : Str × Str} (h : ∀ p ∈ G, Fine p) : valBad (newVal (due' G [] G) f.1 f.2) = valBad f.2 := by
  rw [newVal_due, valBad_join, valsOf_snoc, if_pos (beq_self_eq_true _), List.any_append]
  have e : (valsOf G (low f.1)).any valBad = false := by
    rw [List.any_eq_false]
    intro v hv
    obtain ⟨q, hq, rfl⟩ := List.mem_map.mp hv
    rw [(h q (List.mem_filter.mp hq).1).2]
    decide
  rw [e]
  simp
theorem runT_fine : ∀ (G : List (Str × Str)), (∀ p ∈ G, Fine p) → runT G = some (due' G [] G) := by
  intro G
  generalize hn : G.length = n
  induction n generalizing G with
  | zero => intro _; rw [List.eq_nil_of_length_eq_zero hn]; rfl
  | succ n ih =>
    intro h
    obtain ⟨A, f, rfl⟩ : ∃ A f, G = A ++ [f] := by
      have hne : G ≠ [] := by intro e; rw [e] at hn; cases hn
      exact ⟨G.dropLast, G.getLast hne, (List.dropLast_concat_getLast hne).symm⟩
    have hA : ∀ p ∈ A, Fine p := fun p hp => h p (List.mem_append_left _ hp)
    have hf : Fine f := h f (List.mem_append_right _ (.head _))
    rw [runT_snoc, ih A (by simpa using hn) hA, due_step1]
    exact stepT_ok hf.1 (by rw [newVal_bad hA]; exact hf.2)
theorem runT_none {fs1 : List (Str × Str)} (h : runT fs1 = none) (r : List (Str × Str)) : runT (fs1 ++ r) = none := by
  unfold runT at *
  rw [List.foldl_append, h]
  clear h
  induction r with
  | nil => rfl
  | cons f r ih => rw [List.foldl_cons]; exact ih
theorem runT_bad {G : List (Str × Str)} {f : Str × Str} (hG : ∀ p ∈ G, Fine p) (hf : ¬ Fine f) (r : List (Str × Str)) : runT (G ++ f :: r) = none := by
  have e : G ++ f :: r = (G ++ [f]) ++ r := by simp
  rw [e]
  refine runT_none ?_ r
  rw [runT_snoc, runT_fine G hG]
  show stepT _ f = none
  unfold stepT
  by_cases h1 : nameBad (low f.1) = true
  · rw [if_pos h1]
  · rw [if_neg h1, newVal_bad hG, if_pos]
    have h1' : nameBad (low f.1) = false := by simpa using h1
    cases hv : valBad f.2 with
    | true => rfl
    | false => exact absurd ⟨h1', hv⟩ hf
theorem raise_fine {G : List (Str × Str)} {f : Str × Str} {T' : List (Str × Str)} (hG : ∀ p ∈ G, Fine p) (h : RaiseTo (due' G [] G) f.1 f.2 T') : ¬ Fine f := by
  rintro ⟨h1, h2⟩
  rcases h with ⟨h3, _⟩ | ⟨_, h3, _⟩
  · rw [h1] at h3; cases h3
  · rw [newVal_bad hG, h2] at h3; cases h3
theorem due'_mem {all : List (Str × Str)} {lost : List Str} {q : Str × Str} : ∀ {A : List (Str × Str)}, q ∈ due' all lost A → ∃ p ∈ A, q.1 = p.1
  | [], h => nomatch h
  | p :: r, h => by
    have h' : q ∈ (if keep1 r lost p = true then [(p.1, Txt.join comma (valsOf all (low p.1)))] else []) ++ due' all lost r := h
    rcases List.mem_append.mp h' with h' | h'
    · by_cases hk : keep1 r lost p = true
      · rw [if_pos hk] at h'
        rw [List.mem_singleton.mp h']
        exact ⟨p, .head _, rfl⟩
      · rw [if_neg hk] at h'; cases h'
    · obtain ⟨p', h1, h2⟩ := due'_mem h'
      exact ⟨p', .tail _ h1, h2⟩
theorem first_bad {a1 a2 r1 r2 : List (Str × Str)} {f1 f2 : Str × Str} (h : a1 ++ f1 :: r1 = a2 ++ f2 :: r2) (h1 : ∀ p ∈ a1, Fine p) (h2 : ∀ p ∈ a2, Fine p) (b1 : ¬ Fine f1) (b2 : ¬ Fine f2) : a1 = a2 ∧ f1 = f2 := by
  induction a1 generalizing a2 with
  | nil =>
    cases a2 with
    | nil => simp only [List.nil_append, List.cons.injEq] at h; exact ⟨rfl, h.1⟩
    | cons q a2 =>
      simp only [List.nil_append, List.cons_append, List.cons.injEq] at h
      exact absurd (h.1 ▸ h2 q (.head _)) b1
  | cons p a1 ih =>
    cases a2 with
    | nil =>
      simp only [List.nil_append, List.cons_append, List.cons.injEq] at h
      exact absurd (h.1 ▸ h1 p (.head _)) b2
    | cons q a2 =>
      simp only [List.cons_append, List.cons.injEq] at h
      obtain ⟨e1, e2⟩ := ih h.2 (fun p hp => h1 p (.tail _ hp)) (fun p hp => h2 p (.tail _ hp))
      exact ⟨by rw [h.1, e1], e2⟩
theorem runT_some_fine {T : List (Str × Str)} : ∀ (n : Nat) (G : List (Str × Str)), G.length = n → runT G = some T → ∀ p ∈ G, Fine p := by
  intro n
  induction n generalizing T with
  | zero => intro G hn _ p hp; rw [List.eq_nil_of_length_eq_zero hn] at hp; cases hp
  | succ n ih =>
    intro G hn h
    obtain ⟨A, f, rfl⟩ : ∃ A f, G = A ++ [f] := by
      have hne : G ≠ [] := by intro e; rw [e] at hn; cases hn
      exact ⟨G.dropLast, G.getLast hne, (List.dropLast_concat_getLast hne).symm⟩
    rw [runT_snoc] at h
    obtain ⟨T1, h1, h2⟩ := Option.bind_eq_some_iff.mp h
    have hA := ih A (by simpa using hn) h1
    have e := runT_fine A hA
    rw [h1] at e
    have e' : T1 = due' A [] A := Option.some.inj e
    subst e'
    have hf : Fine f := by
      unfold stepT at h2
      by_cases h3 : nameBad (low f.1) = true
      · rw [if_pos h3] at h2; cases h2
      · rw [if_neg h3, newVal_bad hA] at h2
        by_cases h4 : valBad f.2 = true
        · rw [if_pos h4] at h2; cases h2
        · exact ⟨by simpa using h3, by simpa using h4⟩
    intro p hp
    rcases List.mem_append.mp hp with hp | hp
    · exact hA p hp
    · rw [List.mem_singleton.mp hp]; exact hf
/-- the plain law -/
theorem told_due {fs : List (Str × Str)} (hf : ∀ p ∈ fs, faulty p = (nameBad (low p.1) || valBad p.2)) {b b2 : Bool} {T T2 : List (Str × Str)} (h1 : ToldIs fs b T) (h2 : DueIs fs b2 T2) : b = b2 ∧ T = T2 := by
  have fine_of : ∀ k (hk : k < fs.length), faultAt fs k = false → Fine fs[k] := by
    intro k hk h
    rw [faultAt_of hk, hf _ (List.getElem_mem hk), Bool.or_eq_false_iff] at h
    exact h
  have bad_of : ∀ k (hk : k < fs.length), faultAt fs k = true → ¬ Fine fs[k] := by
    rintro k hk h ⟨g1, g2⟩
    rw [faultAt_of hk, hf _ (List.getElem_mem hk), g1, g2] at h
    cases h
  rcases h2 with ⟨rfl, hn, rfl⟩ | ⟨rfl, jn, hj, hjf, hjb, rfl⟩
  · have hall : ∀ p ∈ fs, Fine p := by
      intro p hp
      obtain ⟨k, hk, rfl⟩ := List.mem_iff_getElem.mp hp
      exact fine_of k hk (hn k hk)
    rw [dueT_due']
    rcases h1 with ⟨rfl, hr⟩ | ⟨rfl, fs1, f, fs3, T0, hfs, hr, hR⟩
    · rw [runT_fine fs hall] at hr
      exact ⟨rfl, (Option.some.inj hr).symm⟩
    · have h1' : ∀ p ∈ fs1, Fine p := fun p hp => hall p (by rw [hfs]; exact List.mem_append_left _ hp)
      rw [runT_fine fs1 h1'] at hr
      have e := Option.some.inj hr
      subst e
      exact absurd (hall f (by rw [hfs]; simp)) (raise_fine h1' hR)
  · have hG : ∀ p ∈ fs.take jn, Fine p := by
      intro p hp
      obtain ⟨k, hk, rfl⟩ := List.mem_iff_getElem.mp hp
      have hk' : k < jn := by rw [List.length_take] at hk; omega
      rw [List.getElem_take]
      exact fine_of k (by omega) (hjb k hk')
    have hb := bad_of jn hj hjf
    have hsplit : fs = fs.take jn ++ fs[jn] :: fs.drop (jn + 1) := by
      conv => lhs; rw [← List.take_append_drop jn fs, List.drop_eq_getElem_cons hj]
    rw [dueT_due']
    rcases h1 with ⟨rfl, hr⟩ | ⟨rfl, fs1, f, fs3, T0, hfs, hr, hR⟩
    · rw [hsplit, runT_bad hG hb] at hr
      cases hr
    · have hf1 := runT_some_fine _ fs1 rfl hr
      rw [runT_fine fs1 hf1] at hr
      have e := Option.some.inj hr
      subst e
      have hbf := raise_fine hf1 hR
      obtain ⟨e1, e2⟩ := first_bad (hfs.symm.trans hsplit) hf1 hG hbf hb
      refine ⟨rfl, ?_⟩
      rw [due'_lost, ← e1, ← e2]
      rcases hR with ⟨hnb, rfl⟩ | ⟨_, _, rfl⟩
      · symm
        unfold dropN
        rw [List.filter_eq_self]
        intro q hq
        obtain ⟨p, hp, e3⟩ := due'_mem hq
        rw [e3]
        have h5 := (hf1 p hp).1
        show (!(low p.1 == low f.1)) = true
        cases h6 : (low p.1 == low f.1) with
        | false => rfl
        | true => rw [eq_of_beq h6, hnb] at h5; cases h5
      · rfl
end Mine
end
section
open PySem PySem.W PyProof.Rows
namespace Mine
def nameTab : List Str := [Str.ofString "Via", Str.ofString "VIA", Str.ofString "via", Str.ofString "Set", Str.ofString "sET", Str.ofString "x-a", Str.ofString "Vi\na"]
def valTab : List Str := [Str.ofString "1", Str.ofString "2", Str.ofString "3", Str.ofString "a", Str.ofString "", Str.ofString "b\tc", Str.ofString "d,e", Str.ofString "b", Str.ofString "c\x0dd"]
def FieldD (d : Dat) : Prop := ∃ p : Str × Str, d = pairD p ∧ p.1 ∈ nameTab ∧ p.2 ∈ valTab
theorem fields_of : ∀ {ds : List Dat}, (∀ d ∈ ds, FieldD d) → ∃ fs : List (Str × Str), ds = fs.map pairD ∧ ∀ p ∈ fs, p.1 ∈ nameTab ∧ p.2 ∈ valTab
  | [], _ => ⟨[], rfl, fun _ h => nomatch h⟩
  | d :: r, h => by
    obtain ⟨p, rfl, h1⟩ := h d (.head _)
    obtain ⟨fs, rfl, h2⟩ := fields_of fun e he => h e (.tail _ he)
    refine ⟨p :: fs, rfl, fun q hq => ?_⟩
    rcases List.mem_cons.mp hq with rfl | hq
    · exact h1
    · exact h2 q hq
theorem nameTab_ok : ∀ x ∈ nameTab, x.length ≤ 64 ∧ nameBad (low x) = nameBad x ∧ nameBad (low x) = inS (Str.ofString "\n") x ∧ PyData.strOk x = true := by decide +kernel
theorem valTab_ok : ∀ x ∈ valTab, x.length ≤ 64 ∧ valBad x = inS (Str.ofString "\x0d") x ∧ PyData.strOk x = true := by decide +kernel
theorem strOk_append (a b : Str) : PyData.strOk (a ++ b) = (PyData.strOk a && PyData.strOk b) := by
  unfold PyData.strOk
  rw [show (a ++ b).cps = a.cps ++ b.cps from rfl, Array.all_append]
theorem strOk_join : ∀ l : List Str, (∀ x ∈ l, PyData.strOk x = true) → PyData.strOk (Str.join comma l) = true
  | [], _ => by decide +kernel
  | [a], h => h a (.head _)
  | a :: b :: r, h => by
    have e1 : Str.join comma (a :: b :: r) = a ++ comma ++ Str.join comma (b :: r) := rfl
    have hc : PyData.strOk comma = true := by decide +kernel
    rw [e1, strOk_append, strOk_append, h a (.head _), hc, strOk_join (b :: r) fun x hx => h x (.tail _ hx)]
    rfl
theorem due'_ok {all : List (Str × Str)} {lost : List Str} (hall : ∀ p ∈ all, PyData.strOk p.2 = true) : ∀ {A : List (Str × Str)}, (∀ p ∈ A, PyData.strOk p.1 = true) → ∀ q ∈ due' all lost A, PyData.strOk q.1 = true ∧ PyData.strOk q.2 = true
  | [], _, _, h => nomatch h
  | p :: r, hA, q, h => by
    have h' : q ∈ (if keep1 r lost p = true then [(p.1, Txt.join comma (valsOf all (low p.1)))] else []) ++ due' all lost r := h
    rcases List.mem_append.mp h' with h' | h'
    · by_cases hk : keep1 r lost p = true
      · rw [if_pos hk] at h'
        rw [List.mem_singleton.mp h']
        refine ⟨hA p (.head _), ?_⟩
        rw [join_eq]
        refine strOk_join _ fun x hx => ?_
        obtain ⟨y, hy, rfl⟩ := List.mem_map.mp hx
        exact hall y (List.mem_filter.mp hy).1
      · rw [if_neg hk] at h'; cases h'
    · exact due'_ok hall (fun p hp => hA p (.tail _ hp)) q h'
theorem dueIs_ok {fs : List (Str × Str)} {b : Bool} {T : List (Str × Str)} (h : DueIs fs b T) (hfs : ∀ p ∈ fs, p.1 ∈ nameTab ∧ p.2 ∈ valTab) : ∀ q ∈ T, PyData.strOk q.1 = true ∧ PyData.strOk q.2 = true := by
  rcases h with ⟨_, _, rfl⟩ | ⟨_, jn, hj, _, _, rfl⟩
  · rw [dueT_due']
    exact due'_ok (fun p hp => (valTab_ok _ (hfs p hp).2).2.2) fun p hp => (nameTab_ok _ (hfs p hp).1).2.2.2
  · rw [dueT_due']
    exact due'_ok (fun p hp => (valTab_ok _ (hfs p (List.mem_of_mem_take hp)).2).2.2) fun p hp => (nameTab_ok _ (hfs p (List.mem_of_mem_take hp)).1).2.2.2
theorem fields_law {fs : List (Str × Str)} (hfs : ∀ p ∈ fs, p.1 ∈ nameTab ∧ p.2 ∈ valTab) : ∀ p ∈ fs, faulty p = (nameBad (low p.1) || valBad p.2) := by
  intro p hp
  unfold faulty
  rw [(nameTab_ok _ (hfs p hp).1).2.2.1, (valTab_ok _ (hfs p hp).2).2.1]
section
variable {prog : Program} {w : World} {A : Around} {E : Value → Shared → Prop} {s : Shared} {h₀ : Heap} {L : Addr} {news : List (Addr × Obj)}
theorem pairs_ok {T : List (Str × Str)} (hT : ∀ q ∈ T, PyData.strOk q.1 = true ∧ PyData.strOk q.2 = true) : ∀ d ∈ T.map pairD, kqdOk 1 d = true := by
  intro d hd
  obtain ⟨q, hq, rfl⟩ := List.mem_map.mp hd
  have := hT q hq
  simp [pairD, kqdOk, this.1, this.2]
theorem reads_ans {r l2 : Addr} {b : Bool} {hs : List Value} {n2 n3 : Nat} {T : List (Str × Str)} (N : News h₀ L s.heap news) (h1 : (r, W.listOf #[.bool b, .ref l2] n3) ∈ news) (h2 : (l2, W.listOf hs.toArray n2) ∈ news) (hD : DatAll news hs (T.map pairD)) (hT : ∀ q ∈ T, PyData.strOk q.1 = true ∧ PyData.strOk q.2 = true) :
    ∃ as, Reads s.heap (.ref r) (.list [.bool b, .list (kqdPs (T.map pairD))]) as := by
  obtain ⟨as, ra⟩ := kqd_all N 1 hD (pairs_ok hT)
  have r2 : Reads s.heap (.ref l2) (.list (kqdPs (T.map pairD))) _ := reads_list_at (N.get h2) rfl rfl (by simpa using ra)
  exact ⟨_, reads_list_at (N.get h1) rfl rfl (ReadsAll.cons (Reads.bool b) (ReadsAll.cons r2 ReadsAll.nil))⟩
theorem shaped_ans {b : Bool} {T : List (Str × Str)} (hT : ∀ q ∈ T, PyData.strOk q.1 = true ∧ PyData.strOk q.2 = true) : SeqAt.shaped (.list [.bool b, .list (kqdPs (T.map pairD))]) = true := by
  have l := kqd_lay 2 (.list (T.map pairD)) (by rw [kqdOk]; exact List.all_eq_true.mpr (pairs_ok hT))
  rw [kqdP] at l
  have l2 := l.2
  unfold SeqAt.shaped
  simp only [PyData.canLay0, PyData.canLayAll0, PyData.depth, PyData.depthAll] at l l2 ⊢
  rw [l.1]
  simp
  omega
theorem eqAns {r1 r2 l1 l2 : Addr} {b : Bool} {hs1 hs2 : List Value} {n1 n2 n3 n4 : Nat} {T : List (Str × Str)} {Q : Value → Shared → Prop} (N : News h₀ L s.heap news) (h1 : (r1, W.listOf #[.bool b, .ref l1] n1) ∈ news) (h2 : (l1, W.listOf hs1.toArray n2) ∈ news) (hD1 : DatAll news hs1 (T.map pairD))
    (h3 : (r2, W.listOf #[.bool b, .ref l2] n3) ∈ news) (h4 : (l2, W.listOf hs2.toArray n4) ∈ news) (hD2 : DatAll news hs2 (T.map pairD)) (hT : ∀ q ∈ T, PyData.strOk q.1 = true ∧ PyData.strOk q.2 = true) (hu : A.units + 64 < cLine)
    (h : Q (.bool true) s) : wpAny (model prog w) A (compareOp .Eq (.ref r1) (.ref r2)) Q E s := by
  obtain ⟨as, ra⟩ := reads_ans N h1 h2 hD1 hT
  obtain ⟨bs, rb⟩ := reads_ans N h3 h4 hD2 hT
  refine eq_dataH ra rb (shaped_ans hT) (shaped_ans hT) hu ?_
  rw [SeqAt.eqv_refl _ (SeqAt.canLay_of_shaped (shaped_ans hT))]
  exact h
end
theorem getD_mem {α : Type} (l : List α) (k : Nat) (d : α) (h : k < l.length) : l.getD k d ∈ l := by
  rw [List.getD_eq_getElem?_getD, List.getElem?_eq_getElem h]
  exact List.getElem_mem h
theorem fld_start : [Dat.tuple [Dat.str (Str.ofString "Via"), Dat.str (Str.ofString "1")], Dat.tuple [Dat.str (Str.ofString "Set"), Dat.str (Str.ofString "2")], Dat.tuple [Dat.str (Str.ofString "via"), Dat.str (Str.ofString "3")]].length = ([] : List Int).length + 3 ∧
    ∀ d ∈ [Dat.tuple [Dat.str (Str.ofString "Via"), Dat.str (Str.ofString "1")], Dat.tuple [Dat.str (Str.ofString "Set"), Dat.str (Str.ofString "2")], Dat.tuple [Dat.str (Str.ofString "via"), Dat.str (Str.ofString "3")]], FieldD d := by
  refine ⟨rfl, fun d hd => ?_⟩
  have hd' : d = Dat.tuple [Dat.str (Str.ofString "Via"), Dat.str (Str.ofString "1")] ∨ d = Dat.tuple [Dat.str (Str.ofString "Set"), Dat.str (Str.ofString "2")] ∨ d = Dat.tuple [Dat.str (Str.ofString "via"), Dat.str (Str.ofString "3")] := by simpa using hd
  rcases hd' with rfl | rfl | rfl
  · exact ⟨(Str.ofString "Via", Str.ofString "1"), rfl, by decide +kernel, by decide +kernel⟩
  · exact ⟨(Str.ofString "Set", Str.ofString "2"), rfl, by decide +kernel, by decide +kernel⟩
  · exact ⟨(Str.ofString "via", Str.ofString "3"), rfl, by decide +kernel, by decide +kernel⟩
theorem valTab_sub : ∀ x ∈ [Str.ofString "a", Str.ofString "", Str.ofString "b\tc", Str.ofString "d,e", Str.ofString "b", Str.ofString "c\x0dd"], x ∈ valTab := fun x h => .tail _ (.tail _ (.tail _ h))
theorem fmod_lt (n : Int) (k : Nat) (hk : 0 < k) : (n.fmod (k : Int)).toNat < k := by
  have h1 := Int.fmod_nonneg_of_pos n (show (0 : Int) < (k : Int) from by omega)
  have h2 := Int.fmod_lt_of_pos n (show (0 : Int) < (k : Int) from by omega)
  omega
theorem fld_turn {ds : List Dat} {pre : List Int} {n : Int} (h : ds.length = pre.length + 3 ∧ ∀ d ∈ ds, FieldD d) :
    (ds ++ [Dat.tuple [Dat.str ([Str.ofString "Via", Str.ofString "VIA", Str.ofString "via", Str.ofString "Set", Str.ofString "sET", Str.ofString "x-a", Str.ofString "Vi\na"].getD (n.fmod 7).toNat Str.empty), Dat.str ([Str.ofString "a", Str.ofString "", Str.ofString "b\tc", Str.ofString "d,e", Str.ofString "b", Str.ofString "c\x0dd"].getD ((n.fdiv 7).fmod 6).toNat Str.empty)]]).length = (pre ++ [n]).length + 3 ∧
    ∀ d ∈ ds ++ [Dat.tuple [Dat.str ([Str.ofString "Via", Str.ofString "VIA", Str.ofString "via", Str.ofString "Set", Str.ofString "sET", Str.ofString "x-a", Str.ofString "Vi\na"].getD (n.fmod 7).toNat Str.empty), Dat.str ([Str.ofString "a", Str.ofString "", Str.ofString "b\tc", Str.ofString "d,e", Str.ofString "b", Str.ofString "c\x0dd"].getD ((n.fdiv 7).fmod 6).toNat Str.empty)]], FieldD d := by
  refine ⟨by rw [List.length_append, List.length_append, h.1]; rfl, fun d hd => ?_⟩
  rcases List.mem_append.mp hd with hd | hd
  · exact h.2 d hd
  · rw [List.mem_singleton.mp hd]
    exact ⟨(_, _), rfl, getD_mem _ _ _ (fmod_lt n 7 (by decide)), valTab_sub _ (getD_mem _ _ _ (fmod_lt (n.fdiv 7) 6 (by decide)))⟩
theorem tab_len {fs : List (Str × Str)} (hfs : ∀ p ∈ fs, p.1 ∈ nameTab ∧ p.2 ∈ valTab) : ∀ p ∈ fs, (p.1.length ≤ 64 ∧ p.2.length ≤ 64) ∧ nameBad (low p.1) = nameBad p.1 :=
  fun p hp => ⟨⟨(nameTab_ok _ (hfs p hp).1).1, (valTab_ok _ (hfs p hp).2).1⟩, (nameTab_ok _ (hfs p hp).1).2.1⟩
end Mine
end
section
open PySem PySem.W PyProof.Rows
namespace Mine
local macro_rules | `(tactic| walk_at "call ref cons nil") => `(tactic| k_dflt (k_extra "mine call"))
local macro_rules | `(tactic| walk_at "compareOp Eq ref ref") => `(tactic| k_dflt (k_extra "mine ans"))
theorem law_holds : PySem.Challenge.rw_mr0261_01.Holds := by
  k_with_none
  refine hd ?_
  k_with "table" => skip
  k_with "pyIter ref" => k_dat (fun (pre : List Int) fields => fields.length = pre.length + 3 ∧ ∀ d ∈ fields, FieldD d) "fields*"
  k_with "state" => first | exact fld_start | exact fld_turn ⟨by assumption, by assumption⟩
  k_with "mine call" =>
    with_reducible show wpAny _ _ (call (Value.ref 205) _) _ _ _
    rename DatAll _ _ _ => kFacts
    rename Fr _ _ _ _ => lF'
    rename News _ _ _ _ => lN'
    obtain ⟨fs9, hfs9, hfp9⟩ := fields_of (by assumption)
    subst hfs9
    have hfl9 : fs9.length ≤ 20 := by
      have e9 : (fs9.map pairD).length = fs9.length := List.length_map ..
      omega
    refine told_step _ _ _ _ _ _ _ _ _ _ _ _ _ _ _ _ fs9 (by k_asm) lF' (by k_asm) lN' (by k_asm) (.head _) (kFacts.mono fun q hq => .tail _ hq) hfl9 (tab_len hfp9) (fun bt' Tt' rt' lt' hst' nt2' nt3' led' h' tk' hto' F' N' hDt' hsubt' => ?_)
    try dsimp only
  k_with "mine call" =>
    with_reducible show wpAny _ _ (call (Value.ref 210) _) _ _ _
    rename Fr _ _ _ _ => lF'
    rename News _ _ _ _ => lN'
    refine due_step _ _ _ _ _ _ _ _ _ _ _ _ _ _ _ _ fs9 (by k_asm) lF' (by k_asm) lN' (by k_asm) (.tail _ (.tail _ (hsubt' _ (.head _)))) (kFacts.mono fun q hq => .tail _ (.tail _ (hsubt' _ (.tail _ hq)))) hfl9 (tab_len hfp9) (fun bd' Td' rd' ld' hsd' nd2' nd3' led2' h' tk' hdu' F' N' hr2' hl2' hDd' hsub2' => ?_)
    try dsimp only
  k_with "mine ans" =>
    with_reducible show wpAny _ _ (compareOp CmpOp.Eq (Value.ref _) (Value.ref _)) _ _ _
    obtain ⟨hbe', hTe'⟩ := told_due (fields_law hfp9) hto' hdu'
    subst hbe'
    subst hTe'
    rename News _ _ _ _ => lN'
    refine eqAns lN' (hsub2' _ (.head _)) (hsub2' _ (.tail _ (.head _))) (hDt'.mono fun q hq => hsub2' _ (.tail _ (.tail _ hq))) hr2' hl2' hDd' (dueIs_ok hdu' hfp9) (by units_room) ?_
  k_go0
  all_goals try k_fold
  k_steps
end Mine
end
theorem PySem.Challenge.cw_mr0261_01_holds : PySem.Challenge.rw_mr0261_01.Holds := by
  exact Mine.law_holds

import PyProof.Rows.All
import Wide.All
import OpenK.AllK
import Wide.FinOn
import PySem.Challenge.RW_dm0159_02
open PySem PySem.W PyProof.Rows
set_option Elab.async false
set_option maxRecDepth 100000
set_option maxHeartbeats 8000000
set_option linter.unusedVariables false
set_option linter.unusedSectionVars false
namespace Mine
open_top hd2 for PySem.Challenge.rw_dm0159_02
end Mine
namespace Mine
open PySem.Sre
/-- a control sign -/
def ctl (c : Nat) : Bool := decide (c ≤ 31) || c == 127
/-- the words of the one set -/
def setCode : Array Nat := #[14, 10, 4, 1, 1, 22, 0, 31, 16, 127, 0, 13, 7, 22, 0, 31, 16, 127, 0, 1]
theorem inSet_at (c : Nat) (seen : Sre.Seen) (i : Nat) (hi : i = 5 ∨ i = 13) : ∃ seen', inSet setCode c setCode.size i true seen = .ok (ctl c, seen') := by
  have h1 : ∀ (f : Nat) (seen : Sre.Seen), inSet setCode c (f + 3) i true seen = if (decide (0 ≤ c) && decide (c ≤ 31)) = true then .ok (true, seen.add 22) else if (c == 127) = true then .ok (true, (seen.add 22).add 16) else .ok (false, ((seen.add 22).add 16).add 0) := by
    intro f seen
    rcases hi with rfl | rfl <;> rfl
  have h2 := h1 17 seen
  show ∃ seen', inSet setCode c (17 + 3) i true seen = _
  rw [h2]
  by_cases c1 : c ≤ 31
  · exact ⟨seen.add 22, by rw [if_pos (by simp [c1])]; simp [ctl, c1]⟩
  · rw [if_neg (by simp; omega)]
    by_cases c2 : c = 127
    · exact ⟨(seen.add 22).add 16, by rw [if_pos (by simp [c2])]; simp [ctl, c2]⟩
    · exact ⟨((seen.add 22).add 16).add 0, by rw [if_neg (by simp [c2])]; simp [ctl, c1, c2]⟩
theorem admitted_at (m : M) (hc : m.code = setCode) : ∀ (fuel s : Nat) (seen : Sre.Seen), m.lim < s + fuel →
    ∃ r seen', m.admitted fuel s seen = .ok (r, seen') ∧ (match r with
      | some t => t < m.lim ∧ s ≤ t ∧ ctl (m.text.getD t 0) = true
      | none => ∀ i, s ≤ i → i < m.lim → ctl (m.text.getD i 0) = false)
  | 0, s, seen, h => ⟨none, seen, rfl, fun i h1 h2 => by omega⟩
  | fuel + 1, s, seen, h => by
    unfold M.admitted
    by_cases hs : s ≥ m.lim
    · rw [if_pos hs]
      exact ⟨none, seen, rfl, fun i h1 h2 => by omega⟩
    · rw [if_neg hs, hc]
      obtain ⟨seen', e⟩ := inSet_at (m.text.getD s 0) seen 5 (.inl rfl)
      rw [e]
      cases hq : ctl (m.text.getD s 0) with
      | true => exact ⟨some s, seen', rfl, by omega, Nat.le_refl _, hq⟩
      | false =>
        obtain ⟨r, s2, e2, h2⟩ := admitted_at m hc fuel (s + 1) seen' (by omega)
        refine ⟨r, s2, e2, ?_⟩
        cases r with
        | some t => exact ⟨h2.1, by have := h2.2.1; omega, h2.2.2⟩
        | none =>
          intro i h3 h4
          by_cases hi : i = s
          · rw [hi]; exact hq
          · exact h2 i (by omega) h4
theorem exec_in (m : M) (hc : m.code = setCode) (hp : m.pc = 11) (hl : m.pos < m.lim) (ht : ctl (m.text.getD m.pos 0) = true) : ∃ seen, m.exec = { m with seen := seen, pc := 19, pos := m.pos + 1 } := by
  obtain ⟨code, text, lim, start, lastStart, wholeText, mustAdvance, pc, pos, handed, outermost, marks, lastmark, lastindex, loops, inner, frames, weight, answer, seen, outcome⟩ := m
  dsimp only at hc hp hl ht
  subst hc hp
  obtain ⟨seen', e⟩ := inSet_at (text.getD pos 0) (seen.add 13) 13 (.inr rfl)
  refine ⟨seen', ?_⟩
  show (if pos ≥ lim then _ else match inSet setCode (text.getD pos 0) setCode.size 13 true (seen.add 13) with
    | .error why => _
    | .ok (false, seen) => _
    | .ok (true, seen) => _) = _
  rw [if_neg (by omega), e, ht]
  rfl
theorem exec_success (m : M) (hc : m.code = setCode) (hp : m.pc = 19) (hw : m.wholeText = false) (hm : m.mustAdvance = false) : ∃ seen, m.exec = { m with seen := seen, handed := m.pos, answer := some true } := by
  obtain ⟨code, text, lim, start, lastStart, wholeText, mustAdvance, pc, pos, handed, outermost, marks, lastmark, lastindex, loops, inner, frames, weight, answer, seen, outcome⟩ := m
  dsimp only at hc hp hw hm
  subst hc hp hw hm
  refine ⟨seen.add 1, ?_⟩
  show (if (outermost && ((false && _) || (false && _))) = true then _ else _) = _
  rw [if_neg (by simp)]
  rfl
theorem step_exec (m : M) (ho : m.outcome = none) (ha : m.answer = none) (hp : m.pc < m.code.size) : m.step = m.exec := by
  unfold M.step
  rw [ho, ha]
  simp [hp]
theorem run_found (m : M) (f : Sre.Frame) (hc : m.code = setCode) (hp : m.pc = 11) (hl : m.pos < m.lim) (ht : ctl (m.text.getD m.pos 0) = true) (ho : m.outcome = none) (ha : m.answer = none) (hf : m.frames = [f]) (hfw : f.wait = .nextStart)
    (hw : m.wholeText = false) (hm : m.mustAdvance = false) :
    (m.runFor 4).outcome = some .matched ∧ (m.runFor 4).start = m.start ∧ (m.runFor 4).lastindex = m.lastindex := by
  obtain ⟨s1, e1⟩ := exec_in m hc hp hl ht
  have g1 : m.step = { m with seen := s1, pc := 19, pos := m.pos + 1 } := (step_exec m ho ha (by rw [hc, hp]; decide)).trans e1
  obtain ⟨s2, e2⟩ := exec_success { m with seen := s1, pc := 19, pos := m.pos + 1 } hc rfl hw hm
  have g2 := (step_exec { m with seen := s1, pc := 19, pos := m.pos + 1 } ho ha (by show 19 < m.code.size; rw [hc]; decide)).trans e2
  have r4 : m.runFor 4 = ({ { m with seen := s1, pc := 19, pos := m.pos + 1 } with seen := s2, handed := m.pos + 1, answer := some true } : M).step.step := by
    have t1 : m.runFor 4 = m.step.runFor 3 := by show (if m.outcome.isSome then m else M.runFor 3 m.step) = _; rw [ho]; rfl
    rw [t1, g1]
    have t2 : ({ m with seen := s1, pc := 19, pos := m.pos + 1 } : M).runFor 3 = ({ m with seen := s1, pc := 19, pos := m.pos + 1 } : M).step.runFor 2 := by
      show (if m.outcome.isSome then _ else _) = _; rw [ho]; rfl
    rw [t2, g2]
    have t3 : ∀ x : M, x.outcome = none → x.step.outcome = none → x.runFor 2 = x.step.step := by
      intro x h1 h2
      show (if x.outcome.isSome then x else (if x.step.outcome.isSome then x.step else x.step.step)) = _
      rw [h1, h2]; rfl
    refine t3 _ ho ?_
    unfold M.step
    simp only [ho, hf, hfw, M.resume]
    simp [M.say]
  rw [r4]
  unfold M.step
  simp only [ho, hf, hfw, M.resume]
  simp [M.say]
end Mine
namespace Mine
open PySem.Builtin.Re
open PySem.Sre
/-- the search's machine, for a text -/
theorem drive_of {prog : Program} {w : World} {A : Around} {E : Value → Shared → Prop} {s : Shared} {Q : Sre.M → Shared → Prop} (m : M) (h : (m.runFor 4).outcome.isSome = true) (hq : Q (m.runFor 4) s) : wpAny (model prog w) A (reDrive (2 ^ 64) m) Q E s := by
  show wpAny _ A (reDrive (18446744073709551615 + 1) m) Q E s
  unfold reDrive
  show wpAny _ A (if (m.runFor 4).outcome.isSome = true then pure (m.runFor 4) else _) Q E s
  rw [if_pos h]
  exact wpAny_pure hq
theorem rules_of {prog : Program} {w : World} {A : Around} {E : Value → Shared → Prop} {s : Shared} {Q : PUnit → Shared → Prop} (c : Nat → Bool) (t : Nat → String) (hq : Q ⟨⟩ s) : ∀ l : List Nat,
    wpAny (model prog w) A (forIn l PUnit.unit fun i _ => if c i = true then do rule (t i); pure (ForInStep.yield PUnit.unit) else pure (ForInStep.yield PUnit.unit)) Q E s
  | [] => wpAny_pure hq
  | i :: l => by
    rw [List.forIn_cons]
    refine wpAny_bind ?_
    cases c i with
    | true => exact wpAny_bind (wpAny_rule (wpAny_pure (rules_of c t hq l)))
    | false => exact wpAny_pure (rules_of c t hq l)
/-- the machine ahead of the first attempt -/
def first (text : Array Nat) : M := { code := setCode, text := text, lim := text.size, start := 0, pc := 11, pos := 0, handed := 0, marks := Array.replicate (2 * 0) none, mustAdvance := false, seen := ({} : Sre.Seen).add 14 }
theorem search_eq (text : Array Nat) : forSearch setCode text 0 0 text.size false = if (0 > text.size || text.size - 0 < 1) = true then (first text).say false else ({ first text with lastStart := text.size } : M).attemptFrom 0 true := by
  unfold forSearch
  rfl
theorem failed_run (m : M) (ho : m.outcome = none) (ha : m.answer = some false) (hf : m.frames = []) : (m.runFor 4).outcome = some .failed := by
  have g : m.step = { m with outcome := some .failed } := by
    unfold M.step
    rw [ho, ha, hf]
    rfl
  have t : m.runFor 4 = m.step.runFor 3 := by show (if m.outcome.isSome then m else M.runFor 3 m.step) = _; rw [ho]; rfl
  rw [t, g]
  rfl
theorem search_run (text : Array Nat) : (((forSearch setCode text 0 0 text.size false).runFor 4).outcome = some .failed ∧ ∀ i, i < text.size → ctl (text.getD i 0) = false) ∨
    (((forSearch setCode text 0 0 text.size false).runFor 4).outcome = some .matched ∧ ∃ i, i < text.size ∧ ctl (text.getD i 0) = true) := by
  rw [search_eq]
  by_cases h0 : text.size = 0
  · rw [if_pos (by simp [h0])]
    exact .inl ⟨failed_run _ rfl rfl rfl, fun i hi => by omega⟩
  · rw [if_neg (by simp only [Bool.or_eq_true, decide_eq_true_eq]; omega)]
    obtain ⟨r, seen', e, h⟩ := admitted_at ({ first text with lastStart := text.size } : M) rfl (text.size + 1 - 0) 0 (({} : Sre.Seen).add 14) (by show text.size < 0 + (text.size + 1 - 0); omega)
    have ea : ({ first text with lastStart := text.size } : M).attemptFrom 0 true = match (Except.ok (r, seen') : Except String (Option Nat × Sre.Seen)) with
        | .ok (some s, seen) => { ({ first text with lastStart := text.size } : M) with mustAdvance := false, seen }.attemptAt s true
        | .ok (none, seen) => { ({ first text with lastStart := text.size } : M) with seen }.say false
        | .error why => ({ first text with lastStart := text.size } : M).stick why := by
      rw [← e]; rfl
    rw [ea]
    cases r with
    | none =>
      refine .inl ⟨failed_run _ rfl rfl rfl, fun i hi => h i (Nat.zero_le _) hi⟩
    | some t =>
      refine .inr ⟨?_, t, h.1, h.2.2⟩
      dsimp only
      have q := run_found (({ ({ first text with lastStart := text.size } : M) with mustAdvance := false, seen := seen' } : M).attemptAt t true) { wait := .nextStart, pc := 11, pos := t, outermost := true } rfl rfl h.1 h.2.2 rfl rfl rfl rfl rfl rfl
      exact q.1
section
variable {prog : Program} {w : World} {A : Around} {E : Value → Shared → Prop} {s : Shared}
/-- some sign of the text is a control sign -/
def hasCtl (x : Str) : Bool := x.cps.any ctl
theorem hasCtl_iff (x : Str) : hasCtl x = true ↔ ∃ i, i < x.cps.size ∧ ctl (x.cps.getD i 0) = true := by
  unfold hasCtl
  rw [Array.any_eq_true]
  constructor
  · rintro ⟨i, hi, h⟩; exact ⟨i, hi, by simpa [hi] using h⟩
  · rintro ⟨i, hi, h⟩; exact ⟨i, hi, by simpa [hi] using h⟩
structure PatAt (h : Heap) (P C : Addr) : Prop where
  pat : ∃ a0 a1 a3 a4, h.get? P = some { cls := .type "re.Pattern", data := .fields #[a0, a1, .int 0 0, a3, a4, .ref C, .int 0 0] }
  code : h.get? C = some { cls := .type "tuple", data := .seq (setCode.map fun (n : Nat) => Value.int (n : Int) 0) }
theorem named_of (v : Value) : reNamed "re.Pattern.search" "search" ["string", "pos", "endpos"] 1 [v] [] = pure [some v, none, none] := rfl
theorem search_meets {P C : Addr} {x : Str} {t : Tok} {Q : Fin → Shared → Prop} (hp : PatAt s.heap P C) (hl : x.length ≤ sizeLine) (h0 : hasCtl x = false → Q (.done (.ret .none)) s)
    (h1 : hasCtl x = true → ∀ h' mt o, (∀ b o, s.heap.get? b = some o → h'.get? b = some o) → h'.get? mt = some o → o.cls = .type "re.Match" → Q (.done (.ret (.ref mt))) { s with heap := h' }) :
    wpAny (model prog w) A (Builtin.«re.Pattern.search» ⟨[.ref P, .str x t], []⟩) Q E s := by
  obtain ⟨⟨a0, a1, a3, a4, hP⟩, hC⟩ := hp
  unfold Builtin.«re.Pattern.search»
  refine wpAny_bind ?_
  unfold reTarget
  dsimp only
  rw [named_of]
  refine wpAny_bind (wpAny_pure ?_)
  dsimp only
  refine wpAny_bind (wpAny_pure (wpAny_bind (wpAny_pure ?_)))
  refine wpAny_bind (wpAny_fieldsOf hP rfl ?_)
  refine wpAny_bind (m := reTextOf (.str x t)) (wpAny_of_eq (a := (x.cps, 0)) rfl ?_)
  dsimp only
  refine wpAny_ite_false rfl ?_
  refine wpAny_ite_false rfl ?_
  refine wpAny_bind (m := reNoCollectionInside _ _) (wpAny_of_eq (a := ()) rfl ?_)
  refine wpAny_bind (m := reRawItems _) ?_
  unfold reRawItems
  refine wpAny_bind (m := seqItems? _) ?_
  show wpAny _ A (seqItems? (.ref C)) _ _ _
  unfold seqItems?
  refine wpAny_bind (wpAny_load hC ?_)
  refine wpAny_pure (wpAny_pure (wpAny_pure ?_))
  have e1 : Array.map (fun x : Int => x.toNat) (Array.map reRawOf ((some (Array.map (fun (n : Nat) => Value.int (n : Int) 0) setCode)).getD #[])) = setCode := by decide +kernel
  have e2 : min (Int.toNat 0) x.cps.size = 0 := by simp
  have e3 : min ((2 ^ 63 - 1 : Int).toNat) x.cps.size = x.cps.size := by
    have : x.cps.size ≤ 16777216 := by rw [← sizeLine_eq]; exact hl
    omega
  dsimp only
  rw [e1, e2, e3]
  unfold reAnswer
  refine wpAny_bind (m := reRunToEnd _) ?_
  unfold reRunToEnd
  have hr := search_run x.cps
  refine wpAny_bind (drive_of _ (by rcases hr with ⟨h, _⟩ | ⟨h, _⟩ <;> (show ((forSearch setCode x.cps 0 0 x.cps.size false).runFor 4).outcome.isSome = true; rw [h]; rfl)) ?_)
  refine wpAny_bind (rules_of _ _ ?_ _)
  show wpAny _ A (match ((forSearch setCode x.cps 0 0 x.cps.size false).runFor 4).outcome with | some .matched => _ | some .failed => _ | some (.stuck why) => _ | none => _) _ _ s
  rcases hr with ⟨h, hn⟩ | ⟨h, hy⟩
  · rw [h]
    refine wpAny_pure (wpAny_pure (h0 ?_))
    cases hq : hasCtl x with
    | false => rfl
    | true =>
      obtain ⟨i, hi, hc⟩ := (hasCtl_iff x).mp hq
      rw [hn i hi] at hc; cases hc
  · rw [h]
    refine wpAny_pure ?_
    dsimp only
    have hq : hasCtl x = true := (hasCtl_iff x).mpr hy
    unfold reNewMatch
    dsimp only
    refine wpAny_bind (wpAny_ite_false rfl ?_)
    unfold newTuple
    refine wpAny_bind (wpAny_newObj_type ?_ ?_)
    · unfold newFields
      refine wpAny_newObj_type ?_ (by size_fits)
      refine wpAny_pure (h1 hq _ _ _ (fun b o e => Heap.get?_push_of_some _ (Heap.get?_push_of_some _ e)) (Heap.get?_push_size _ rfl) rfl)
    · show 2 ≤ sizeLine
      decide
end
end Mine
namespace Mine
theorem slot_search : Slot "re.Pattern" "search" "re.Pattern.search" :=
  .of (owner := "re.Pattern") (n := "search") (by rw [typeLookup_type, builtinLookup_eq_fast]; kernel_rfl) (by decide +kernel) (by decide +kernel) (by decide +kernel)
    (by first | exact .inl (by decide +kernel) | exact .inr (by decide +kernel)) (by rw [isSubtype_type]; kernel_rfl)
theorem type_search : typeOf (.builtin "re.Pattern.search") = pure (.type "method_descriptor") := by show builtinType _ = _; rw [builtinType_eq_fast]; kernel_rfl
theorem entry_search : entryFor table "re.Pattern.search" = some Builtin.«re.Pattern.search» := entryFor_of_tree (by kernel_rfl)
theorem args_search (a b : Value) : argsOk "re.Pattern.search" ⟨[a, b], []⟩ := by kernel_rfl
theorem attrs_pattern : PlainAttrs "re.Pattern" :=
  ⟨⟨"object.__getattribute__", by rw [typeLookup_type, builtinLookup_eq_fast]; kernel_rfl, by decide +kernel⟩, by rw [typeLookup_type, builtinLookup_eq_fast]; kernel_rfl⟩
theorem noBool_match : typeLookup (.type "re.Match") "__bool__" = pure none := by rw [typeLookup_type, builtinLookup_eq_fast]; kernel_rfl
theorem noLen_match : typeLookup (.type "re.Match") "__len__" = pure none := by rw [typeLookup_type, builtinLookup_eq_fast]; kernel_rfl
section
variable {prog : Program} {w : World} {A : Around} {E : Value → Shared → Prop} {s : Shared}
theorem PatAt.type {P C : Addr} (h : PatAt s.heap P C) : s.TypeIs (.ref P) "re.Pattern" := let ⟨⟨_, _, _, _, e⟩, _⟩ := h; ⟨_, e, rfl⟩
theorem call_search {P C : Addr} {x : Str} {t : Tok} {Q : Value → Shared → Prop} (hp : PatAt s.heap P C) (hl : x.length ≤ sizeLine) (h0 : hasCtl x = false → Q .none s)
    (h1 : hasCtl x = true → ∀ h' mt o, (∀ b o, s.heap.get? b = some o → h'.get? b = some o) → h'.get? mt = some o → o.cls = .type "re.Match" → Q (.ref mt) { s with heap := h' }) :
    wpAny (model prog w) A (call (.builtin "re.Pattern.search") [.ref P, .str x t]) Q E s :=
  call_meets (S := fun A R s => PatAt s.heap P C ∧ (hasCtl x = false → R (.ok (.ret .none)) s) ∧ (hasCtl x = true → ∀ h' mt o, (∀ b o, s.heap.get? b = some o → h'.get? b = some o) → h'.get? mt = some o → o.cls = .type "re.Match" → R (.ok (.ret (.ref mt))) { s with heap := h' }))
    slot_search hp.type entry_search (args_search _ _) (fun prog w A R s h => search_meets h.1 hl h.2.1 h.2.2) ⟨hp, h0, h1⟩
theorem truthy_match {mt : Addr} {o : Obj} {Q : Bool → Shared → Prop} (ho : s.heap.get? mt = some o) (hc : o.cls = .type "re.Match") (h : Q true s) : wpAny (model prog w) A (truthy (.ref mt)) Q E s := by
  have hT : s.TypeIs (.ref mt) "re.Match" := ⟨o, ho, hc⟩
  have h1 := noBool_match
  have h2 := noLen_match
  unfold truthy
  obtain ⟨hp, g, d, tk, os⟩ := s
  repeat (any_goals (first | assumption | wp_step))
end
end Mine
namespace Mine
open Sem (wp)
section
variable {prog : Program} {w : World} {A : Around} {E : Value → Shared → Prop} {s : Shared}
/-- what a generator over n₀ items gives, item by item, told of the heap that it leaves -/
def protoS (C : Addr) (fp wr : List Addr) (n₀ : Nat) (F : Nat → Value → Heap → Prop) : Protocol := fun m s₀ v s kap =>
  F (n₀ - 1 - m) v s.heap ∧ GenSince C wr s₀ s ∧ ∀ s'' : Shared, (∀ b ∈ C :: fp, ∀ o, s.heap.get? b = some o → s''.heap.get? b = some o) → kap (.send .none) s''
/-- what one item's term gives -/
def EltS (prog : Program) (w : World) (cenv : Env) (x : Str) (elt : Expr) (fp wr : List Addr) (P : Nat → Value → Prop) (F : Nat → Value → Heap → Prop) (href : Heap) (D U : Nat) : Prop :=
  ∀ (A' : Around) E' i v (s₂ : Shared) m₂, A'.handled = none → A'.guards = some [] → A'.depth ≤ D → A'.units ≤ U → P i v → s₂.heap.Ns cenv.locals m₂ → m₂ x = some v → (∀ b ∈ fp, b ∉ wr → ∀ o, href.get? b = some o → s₂.heap.get? b = some o) →
    wpAny (model prog w) A' (eval elt cenv) (fun y s₃ => F i y s₃.heap ∧ Keeps s₂ s₃) E' s₂
theorem segS_loop {elt iter : Expr} {x : Str} {px : Pos} {scope : Scope} {pos : Pos} {I : Addr} {fp wr : List Addr} {n₀ : Nat} {P : Nat → Value → Prop} {St₀ : Nat → Heap → Prop} {cenv : Env}
    (hh : A.handled = none) (hgu : A.guards = some []) (W₀ : ∀ A' : Around, A'.handled = none → Walks prog w A' I fp wr n₀ P St₀) (F : Nat → Value → Heap → Prop) (href : Heap)
    (hx : cenv.kindOf x = some .local) (hp : (cenv.scope.kind == .class || (cenv.scope.kind == .module && cenv.locals != cenv.globals)) = false)
    (hco : cenv.scope.isCoroutine = false) (hCf : cenv.locals ∉ fp) (hq : EltS prog w cenv x elt fp wr P F href (A.depth + 1) (A.units + 3)) :
    ∀ (k i : Nat) (s₀ s : Shared) (m : Str → Option Value), n₀ - i = k → i ≤ n₀ → St₀ i s.heap → s.heap.Ns cenv.locals m → GenSince cenv.locals wr s₀ s →
      (∀ b ∈ fp, b ∉ wr → ∀ o, href.get? b = some o → s.heap.get? b = some o) →
      Seg (model prog w) A (fun n s₀ r s₁ => r = .ok .next ∧ (n = 0 ∧ GenSince cenv.locals wr s₀ s₁)) (protoS cenv.locals fp wr n₀ F) k s₀
        (.compLoop (.GeneratorExp elt [⟨.Name x px, iter, [], 0⟩] scope pos) 0 (.ref I) .none cenv)
        ((model prog w).den (.compLoop (.GeneratorExp elt [⟨.Name x px, iter, [], 0⟩] scope pos) 0 (.ref I) .none cenv)) [] s := by
  have hh' : (A.over (.compLoop (.GeneratorExp elt [⟨.Name x px, iter, [], 0⟩] scope pos) 0 (.ref I) .none cenv) []).handled = none := hh
  have hgu' : (A.over (.compLoop (.GeneratorExp elt [⟨.Name x px, iter, [], 0⟩] scope pos) 0 (.ref I) .none cenv) []).guards = some [] := by
    show pushGuards [] (pushGuards [] A.guards) = some []
    rw [hgu]; rfl
  have hdep' : (A.over (.compLoop (.GeneratorExp elt [⟨.Name x px, iter, [], 0⟩] scope pos) 0 (.ref I) .none cenv) []).depth ≤ A.depth + 1 := Nat.le_of_eq rfl
  have huni' : (A.over (.compLoop (.GeneratorExp elt [⟨.Name x px, iter, [], 0⟩] scope pos) 0 (.ref I) .none cenv) []).units ≤ A.units + 3 := Nat.le_of_eq rfl
  have hCw : cenv.locals ∉ wr := fun h => hCf ((W₀ A hh).sub _ h)
  intro k
  induction k with
  | zero =>
    intro i s₀ s m hk hi hst hn hsince hkp
    have hin : i = n₀ := by omega
    subst hin
    show Seg _ A _ _ _ s₀ _ ((compTurn (.GeneratorExp elt [⟨.Name x px, iter, [], 0⟩] scope pos) 0 (.ref I) .none cenv).onRaise (leaving cenv)) [] s
    rw [compTurn_gen, Sem.onRaise_eq_wrap]
    refine seg_bind_wrap (wpAny_standAt ?_)
    refine seg_bind_wrap ((W₀ _ hh').done s _ _ hst fun h' tk hk' => ?_)
    exact seg_end (.ok .next) ⟨rfl, rfl, hsince.step fun b o _ hw e => hk' b o hw e⟩
  | succ k ih =>
    intro i s₀ s m hk hi hst hn hsince hkp
    have hlt : i < n₀ := by omega
    show Seg _ A _ _ _ s₀ _ ((compTurn (.GeneratorExp elt [⟨.Name x px, iter, [], 0⟩] scope pos) 0 (.ref I) .none cenv).onRaise (leaving cenv)) [] s
    rw [compTurn_gen, Sem.onRaise_eq_wrap]
    refine seg_bind_wrap (wpAny_standAt ?_)
    refine seg_bind_wrap ((W₀ _ hh').item i s _ _ hlt hst fun v h₁ tk₁ hPv hst₁ hk₁ => ?_)
    refine seg_bind_wrap (wpAny_of_eq (rfl : letOwnedTupleGo (.Name x px) (.ref I) v = pure ()) ?_)
    refine seg_bind_wrap (wpAny_assign_Name (wpAny_storeName_local hx (hn.at' fun o e => hk₁ _ o hCw e) (fun h₂ hn₂ hs₂ => ?_) hp))
    have up₂ : ∀ b o, b ≠ cenv.locals → b ∉ wr → s.heap.get? b = some o → h₂.get? b = some o := fun b o hbC hbw e => hs₂.extBut b o hbC (hk₁ b o hbw e)
    have hst₂ : St₀ (i + 1) h₂ := (W₀ A hh).frame _ _ _ hst₁ fun b hb o e => hs₂.extBut b o (fun h => hCf (h ▸ hb)) e
    have hkp₂ : ∀ b ∈ fp, b ∉ wr → ∀ o, href.get? b = some o → h₂.get? b = some o := fun b hb hbw o e => up₂ b o (fun h => hCf (h ▸ hb)) hbw (hkp b hb hbw o e)
    refine seg_bind_wrap (wpAny_pure ?_)
    have hsince₂ : GenSince cenv.locals wr s₀ { s with heap := h₂, toks := tk₁ + 1 } := hsince.step fun b o hbC hbw e => up₂ b o hbC hbw e
    simp only [if_true]
    have hy : ∀ v, yieldOut cenv v = yieldValue v := fun v => by simp only [yieldOut, hco, Bool.false_eq_true, if_false]
    simp only [hy]
    rw [Sem.bind_eq_wrap', Sem.bind_eq_wrap', Sem.wrap_wrap, Sem.wrap_wrap]
    refine seg_wrap (wpAny_mono (hq _ _ i v _ _ hh' hgu' hdep' huni' hPv hn₂ (by simp) hkp₂) (fun y s₄ h₄ => ?_) fun _ _ e => e)
    obtain ⟨hFy, h₄, tk₄, rfl, hk₄⟩ := h₄
    refine seg_at (seg_yield rfl rfl rfl ⟨?_, hsince₂.step fun b o _ _ e => hk₄ b o e, fun s'' hal => ?_⟩)
    · have e : n₀ - 1 - k = i := by omega
      rw [e]; exact hFy
    refine seg_again rfl (ih (i + 1) s'' s'' _ (by omega) hlt ((W₀ A hh).frame _ _ _ hst₂ fun b hb o e => hal b (List.mem_cons_of_mem _ hb) o (hk₄ b o e))
      ((hn₂.keeps hk₄).at' fun o e => hal _ (List.mem_cons_self ..) o e) (GenSince.refl _ _ _) fun b hb hbw o e => hal b (List.mem_cons_of_mem _ hb) o (hk₄ b o (hkp₂ b hb hbw o e)))
theorem segS_start {elt iter : Expr} {x : Str} {px : Pos} {scope : Scope} {pos : Pos} {I : Addr} {fp wr : List Addr} {n₀ : Nat} {P : Nat → Value → Prop} {St₀ : Nat → Heap → Prop} {cenv : Env}
    (hh : A.handled = none) (hgu : A.guards = some []) (W₀ : ∀ A' : Around, A'.handled = none → Walks prog w A' I fp wr n₀ P St₀) (F : Nat → Value → Heap → Prop) (href : Heap)
    (hx : cenv.kindOf x = some .local) (hp : (cenv.scope.kind == .class || (cenv.scope.kind == .module && cenv.locals != cenv.globals)) = false)
    (hco : cenv.scope.isCoroutine = false) (hCf : cenv.locals ∉ fp) (hq : EltS prog w cenv x elt fp wr P F href (A.depth + 1) (A.units + 3))
    (s₀ s : Shared) (m : Str → Option Value) (hst : St₀ 0 s.heap) (hn : s.heap.Ns cenv.locals m) (hsince : GenSince cenv.locals wr s₀ s)
    (hkp : ∀ b ∈ fp, b ∉ wr → ∀ o, href.get? b = some o → s.heap.get? b = some o) :
    Seg (model prog w) A (fun n s₀ r s₁ => r = .ok .next ∧ (n = 0 ∧ GenSince cenv.locals wr s₀ s₁)) (protoS cenv.locals fp wr n₀ F) n₀ s₀
      (.compStart (.GeneratorExp elt [⟨.Name x px, iter, [], 0⟩] scope pos) 0 (.ref I) .none cenv)
      ((model prog w).den (.compStart (.GeneratorExp elt [⟨.Name x px, iter, [], 0⟩] scope pos) 0 (.ref I) .none cenv)) [] s := by
  have hh' : (A.over (.compStart (.GeneratorExp elt [⟨.Name x px, iter, [], 0⟩] scope pos) 0 (.ref I) .none cenv) []).handled = none := hh
  have loop := segS_loop (iter := iter) (px := px) (scope := scope) (pos := pos) hh hgu W₀ F href hx hp hco hCf hq n₀ 0 s₀ s m (Nat.sub_zero _) (Nat.zero_le _) hst hn hsince hkp
  show Seg _ A _ _ _ s₀ _ ((compStart (.GeneratorExp elt [⟨.Name x px, iter, [], 0⟩] scope pos) 0 (.ref I) .none cenv).onRaise (leaving cenv)) [] s
  unfold compStart
  rw [Sem.onRaise_eq_wrap]
  show Seg _ A _ _ _ s₀ _ ((ask >>= _).wrap _ _ _ _) [] s
  refine seg_bind_wrap (wpAny_askSetting ?_)
  split
  · exact seg_again rfl loop
  · first
      | exact seg_bind_wrap (wpAny_rule (seg_bind_wrap (wpAny_standAt (seg_bind_wrap ((W₀ _ hh').self 0 s _ _ hst (seg_again rfl loop))))))
      | (refine seg_bind_wrap (wpAny_rule ?_); show Seg _ A _ _ _ s₀ _ ((standAt iter.pos >>= _).wrap _ _ _ _) [] s; exact seg_bind_wrap (wpAny_standAt (seg_bind_wrap ((W₀ _ hh').self 0 s _ _ hst (seg_again rfl loop)))))
/-- a generator that has given j of its n₀ items -/
def GenAtS (prog : Program) (w : World) (A : Around) (a : Addr) (g : Nat) (C : Addr) (fp wr : List Addr) (n₀ : Nat) (F : Nat → Value → Heap → Prop) (j : Nat) (s : Shared) : Prop :=
  s.heap.IsGen a g ∧ s.heap.NoLimit ∧ ∃ gs, s.gens[g]? = some gs ∧ ∀ s'' : Shared, (∀ b ∈ C :: fp, ∀ o, s.heap.get? b = some o → s''.heap.get? b = some o) →
    gs.Goes (model prog w) A.in1 (fun n s₀ r s₁ => r = .ok .next ∧ (n = 0 ∧ GenSince C wr s₀ s₁)) (protoS C fp wr n₀ F) (n₀ - j) (.send .none) s''
theorem anyS_loop {a C : Addr} {g : Nat} {fp wr : List Addr} {n₀ : Nat} {F : Nat → Value → Heap → Prop} {R : Result → Shared → Prop} (hh : A.handled = none) (hroom : A.depth < recursionLimit) (haC : a ≠ C) (haf : a ∉ fp) (hsub : ∀ b ∈ wr, b ∈ fp)
    (hcC : cStatics ≠ C) (hcw : cStatics ∉ wr) (tr : Nat → Bool)
    (htr : ∀ (A' : Around) (E' : Value → Shared → Prop) j v (s : Shared) (Q : Bool → Shared → Prop), F j v s.heap → Q (tr j) s → wpAny (model prog w) A' (truthy v) Q E' s) :
    ∀ (k j : Nat) (s : Shared), n₀ - j = k → j ≤ n₀ → GenAtS prog w A.in1 a g C fp wr n₀ F j s →
      (∀ s', Moved (C :: wr) (GenOnlyQ g) s s' → R (.ok (.ret (.bool (((List.range n₀).drop j).any tr)))) s') → codeAny (model prog w) A (.builtin "any.loop" ⟨[.ref a], []⟩) R s := by
  intro k
  induction k with
  | zero =>
    intro j s hk hj st hR
    have hin : j = n₀ := by omega
    subst hin
    refine codeAny_builtin PySem.F.entry_any_loop ?_
    rw [Around.under_plainId PySem.F.plain_any_loop _]
    show wpAny _ A.in1 (pyNext (.ref a) >>= _) _ _ s
    refine wpAny_bind ?_
    obtain ⟨hg, hl, gs, hgs, hgo⟩ := st
    rw [Nat.sub_self] at hgo
    refine wpAny_with_toks (Nat.le_refl s.toks) ?_
    refine wpAny_pyNext_genexpQ (A := A.in1) (P := fun n s₀ s₁ => n = 0 ∧ GenSince C wr s₀ s₁) hh hl hroom hg hgs (hgo _ fun _ _ _ e => e) (fun v s₁ gs' hb hv => ?_) (fun s₁ hp h' hk => ?_)
    · obtain ⟨_, _, hkap⟩ := hv
      exact False.elim (hkap s₁ fun _ _ _ e => e)
    · obtain ⟨_, h₁, tk₁, rfl, hk₁⟩ := hp
      intro htk
      refine wpAny_bind (wpAny_rule (wpAny_pure ?_))
      have hm : Moved (C :: wr) (GenOnlyQ g) s { ({ s.setGen g .running with heap := h₁, toks := tk₁ } : Shared).setGen g .finished with heap := h' } := ⟨fun b o hb e => hk b o (hk₁ b o (fun h => hb (h ▸ List.mem_cons_self ..)) (fun h => hb (List.mem_cons_of_mem _ h)) e), GenOnlyQ.of ((GenOnly.setGen s g .running).trans (GenOnly.setGen _ g .finished)) (setGen_self (gs := .running) (setGen_self hgs)) rfl, rfl, rfl, htk⟩
      have := hR _ hm
      rw [List.drop_of_length_le (by simp)] at this
      exact this
  | succ k ih =>
    intro j s hk hj st hR
    have hlt : j < n₀ := by omega
    have hd : (List.range n₀).drop j = j :: (List.range n₀).drop (j + 1) := by
      rw [List.drop_eq_getElem_cons (by simpa using hlt)]; simp
    refine codeAny_builtin PySem.F.entry_any_loop ?_
    rw [Around.under_plainId PySem.F.plain_any_loop _]
    show wpAny _ A.in1 (pyNext (.ref a) >>= _) _ _ s
    refine wpAny_bind ?_
    obtain ⟨hg, hl, gs, hgs, hgo⟩ := st
    rw [hk] at hgo
    refine wpAny_with_toks (Nat.le_refl s.toks) ?_
    refine wpAny_pyNext_genexpQ (A := A.in1) (P := fun n s₀ s₁ => n = 0 ∧ GenSince C wr s₀ s₁) hh hl hroom hg hgs (hgo _ fun _ _ _ e => e) (fun v s₁ gs' hb hv => ?_) (fun s₁ hp h' hk => ?_)
    · obtain ⟨hF, ⟨h₁, tk₁, rfl, hk₁⟩, hkap⟩ := hv
      have hidx : n₀ - 1 - (k + 1 - 1) = j := by omega
      rw [hidx] at hF
      have haw : a ∉ wr := fun h => haf (hsub a h)
      intro htk
      have hm : Moved (C :: wr) (GenOnlyQ g) s (({ s.setGen g .running with heap := h₁, toks := tk₁ } : Shared).setGen g gs') :=
        ⟨fun b o hb e => hk₁ b o (fun h => hb (h ▸ List.mem_cons_self ..)) (fun h => hb (List.mem_cons_of_mem _ h)) e, GenOnlyQ.of ((GenOnly.setGen s g .running).trans (GenOnly.setGen _ g gs')) (setGen_self (gs := .running) (setGen_self hgs)) hb, rfl, rfl, htk⟩
      refine wpAny_bind (wpAny_holding (htr _ _ j v _ _ hF ?_))
      refine wpAny_bind (wpAny_letGo ?_)
      cases hb' : tr j with
      | true =>
        simp only [if_true]
        refine wpAny_bind (wpAny_rule (wpAny_pure ?_))
        have := hR _ hm
        rw [hd, List.any_cons, hb', Bool.true_or] at this
        exact this
      | false =>
        simp only [Bool.false_eq_true, if_false]
        refine wpAny_pure ⟨plainId_quiet PySem.F.plain_any_loop _, ih (j + 1) _ (by omega) hlt ⟨let ⟨o, nm, qn, ho, r⟩ := hg; ⟨o, nm, qn, hk₁ a o haC haw ho, r⟩, (let ⟨mc, hns, hnn⟩ := hl; ⟨mc, hns.at' fun o e => hk₁ cStatics o hcC hcw e, hnn⟩), gs', setGen_self (gs := .running) (setGen_self hgs), fun s'' hal => ?_⟩ fun s' hm' => ?_⟩
        · have e : n₀ - (j + 1) = k := by omega
          rw [e]
          exact hkap s'' hal
        · have := hR s' (Moved.trans (fun _ _ _ x y => x.trans y) hm hm')
          rw [hd, List.any_cons, hb', Bool.false_or] at this
          exact this
    · exact absurd hp.1 (Nat.succ_ne_zero k)
end
end Mine
namespace Mine
section
variable {prog : Program} {w : World} {A : Around} {E : Value → Shared → Prop} {s : Shared}
theorem evalArgs1 {M : Model} {f : Value} {x : Sem Value} {Q : Args → Shared → Prop} (h : wpAny M A x (fun v s₁ => Q ⟨[v], []⟩ s₁) E s) : wpAny M A (evalArgs f true [(false, x)] []) Q E s :=
  Calls.evalArgs_plain (Calls.spliced_cons (wpAny_mono h (fun _ _ q => Calls.spliced_nil q) fun _ _ e => e))
/-- what one item gives: None, or a match -/
def Found (x : Str) (y : Value) (h : Heap) : Prop := (hasCtl x = false ∧ y = .none) ∨ (hasCtl x = true ∧ ∃ mt o, y = .ref mt ∧ h.get? mt = some o ∧ o.cls = .type "re.Match")
theorem found_truth {x : Str} {y : Value} {Q : Bool → Shared → Prop} (hf : Found x y s.heap) (h : Q (hasCtl x) s) : wpAny (model prog w) A (truthy y) Q E s := by
  rcases hf with ⟨e, rfl⟩ | ⟨e, mt, o, rfl, ho, hc⟩
  · rw [e] at h; exact wpAny_of_eq (a := false) rfl h
  · rw [e] at h; exact truthy_match ho hc h
theorem elt_wp {cenv : Env} {mg mb m₂ : Str → Option Value} {P C : Addr} {v : Value} {x : Str} {p1 p2 p3 p4 p5 p6 : Pos} (hk : cenv.scope.kind = .function) (k1 : cenv.kindOf (Str.ofString "_control_character_re") = some .globalImplicit) (k2 : cenv.kindOf (Str.ofString "str") = some .globalImplicit)
    (k3 : cenv.kindOf (Str.ofString "v") = some .local) (hge : cenv.globals = mainGlobals) (hbe : cenv.builtins = builtinsNs)
    (hg : s.heap.Ns mainGlobals mg) (hre : mg (Str.ofString "_control_character_re") = some (.ref P)) (hms : mg (Str.ofString "str") = none) (hb : s.heap.Ns builtinsNs mb) (hbs : mb (Str.ofString "str") = some (.type "str"))
    (hn : s.heap.Ns cenv.locals m₂) (hv : m₂ (Str.ofString "v") = some v) (hp : PatAt s.heap P C) (hl : x.length ≤ sizeLine) (hline : (p2.endLine == p6.line) = true)
    (hstr : ∀ Q : Value → Shared → Prop, (∀ h' tk t, (∀ b o, s.heap.get? b = some o → h'.get? b = some o) → Q (.str x t) { s with heap := h', toks := tk }) → wpAny (model prog w) A (call (.type "str") [v]) Q E s) :
    wpAny (model prog w) A (eval (.Call (.Attribute (.Name (Str.ofString "_control_character_re") p1) (Str.ofString "search") p2) [.Call (.Name (Str.ofString "str") p3) [.Name (Str.ofString "v") p4] [] p5] [] p6) cenv)
      (fun y s₃ => Found x y s₃.heap ∧ Keeps s s₃) E s := by
  refine wpAny_Call_method rfl rfl hline attrs_pattern slot_search type_search ?_
  refine Calls.Name_function_global hk k1 (Calls.loadGlobal_global (by rw [hge]; exact hg) hre ?_)
  obtain ⟨⟨a0, a1, a3, a4, hP⟩, hC⟩ := id hp
  refine ⟨hp.type, fun a e => by cases e; exact ⟨_, hP, rfl⟩, ?_⟩
  refine Calls.callWith_builtin rfl (evalArgs1 ?_)
  show wpAny _ A (eval (.Call (.Name (Str.ofString "str") p3) [.Name (Str.ofString "v") p4] [] p5) cenv) _ _ _
  refine wpAny_bind (m := eval (.Name (Str.ofString "str") p3) cenv) (Calls.Name_function_global hk k2 (Calls.loadGlobal_builtin (by rw [hge]; exact hg) hms (by rw [hbe]; exact hb) hbs ?_))
  refine PySem.callWith_type rfl (evalArgs1 ?_)
  show wpAny _ A (eval (.Name (Str.ofString "v") p4) cenv) _ _ _
  refine wpAny_Name (wpAny_loadName_local hk k3 hn hv ?_) (by decide)
  refine hstr _ fun h' tk t hkp => ?_
  have hp' : PatAt h' P C := ⟨⟨a0, a1, a3, a4, hkp _ _ hP⟩, hkp _ _ hC⟩
  refine call_search (s := { s with heap := h', toks := tk }) hp' hl (fun e => ?_) fun e h'' mt o hk2 ho hc => ?_
  · exact ⟨.inl ⟨e, rfl⟩, h', tk, rfl, hkp⟩
  · exact ⟨.inr ⟨e, mt, o, rfl, ho, hc⟩, h'', tk, rfl, fun b o q => hk2 b o (hkp b o q)⟩
end
end Mine
namespace Mine
abbrev P2 : Program := PySem.Challenge.rw_dm0159_02.row.prog
/-- all but the table of the one generator stands as it stood -/
def Off (h h' : Heap) : Prop := ∀ b o, b ≠ 51 → h.get? b = some o → h'.get? b = some o
theorem Off.refl (h : Heap) : Off h h := fun _ _ _ e => e
theorem Off.trans {h h' h'' : Heap} (x : Off h h') (y : Off h' h'') : Off h h'' := fun b o n e => y b o n (x b o n e)
theorem Off.of {h h' : Heap} (x : ∀ b o, h.get? b = some o → h'.get? b = some o) : Off h h' := fun b o _ e => x b o e
/-- the table of the one generator, as it stands or as it has grown -/
def TabOk (h : Heap) : Prop := CodeHd h 55 51 ∧ ∃ ps, h.get? 51 = some (tabObj ps) ∧ TriplesOk ps.toList
theorem TabOk.to {h h' : Heap} (x : TabOk h) (k : ∀ o, h.get? 55 = some o → h'.get? 55 = some o) (k' : ∀ o, h.get? 51 = some o → h'.get? 51 = some o) : TabOk h' :=
  let ⟨⟨o, vs, file, tf, flags, tg, inF, text, tt, e, r⟩, ps, a, b⟩ := x; ⟨⟨o, vs, file, tf, flags, tg, inF, text, tt, k _ e, r⟩, ps, k' _ a, b⟩
theorem TabOk.keeps {h h' : Heap} (x : TabOk h) (k : ∀ b o, h.get? b = some o → h'.get? b = some o) : TabOk h' := x.to (k _) (k _)
theorem genCode {M : Model} {A : Around} {E : Value → Shared → Prop} {s : Shared} {env : Env} {pos : Pos} {qualname : Str} {scope : Scope} {Q : Value → Shared → Prop} (hc : env.code = .ref 55) (C : TabOk s.heap)
    (hQ : ∀ code h' tk, Heap.ExtBut 51 s.heap h' → TabOk h' → Q code { s with heap := h', toks := tk }) : wpAny M A (genexprCode env pos qualname scope) Q E s := by
  obtain ⟨x, ps, hP, ht⟩ := id C
  cases hf : codeAmong pos ps.toList with
  | some c' => exact wpAny_genexprCode_hit hc (x.code hP ht) hf (hQ c' s.heap s.toks (Heap.ExtBut.refl _ _) C)
  | none =>
    refine wpAny_genexprCodeX hc (x.code hP ht) (x.tab hP) hf fun c' h' tk hx _ _ hcode _ htab _ => hQ _ _ _ hx ⟨?_, _, htab.2, ?_⟩
    · obtain ⟨o, vs, file, tf, flags, tg, inF, text, tt, e, r⟩ := x
      exact ⟨o, vs, file, tf, flags, tg, inF, text, tt, hx _ _ (by decide) e, r⟩
    · obtain ⟨o, vs, file, tf, flags, tg, inF, text, tt, op, a, r1, r2, r3, r4, r5, r6, b, r7, r8, r9⟩ := hcode
      exact r8
/-- what stands in every state of the law's call -/
structure Gd (w : World) (mg mb : Str → Option Value) (h : Heap) : Prop where
  K : (hd2.heap_39 w.params).In h
  g : h.Ns mainGlobals mg
  b : h.Ns builtinsNs mb
  lim : h.NoLimit
  bm : ∃ bm ob, mg "__builtins__" = some (.ref bm) ∧ bm ≠ builtinsNs ∧ bm ≠ 51 ∧ h.get? bm = some ob ∧ ob.cls = .type "module" ∧ ob.dict = some builtinsNs ∧ ob.data = .plain
  bi : ∀ x : Str, x ≠ "__name__" → mb x = bootBuiltins x
  code : TabOk h
theorem noTab (p : Params) : (hd2.heap_39 p).lookup 51 = none := by rfl
theorem Gd.off {w : World} {mg mb : Str → Option Value} {h h' : Heap} (G : Gd w mg mb h) (k : Off h h') (hc : TabOk h') : Gd w mg mb h' where
  K := fun a o e => k a o (fun q => by rw [q, noTab] at e; cases e) (G.K a o e)
  g := G.g.at' fun o e => k _ _ (by decide) e
  b := G.b.at' fun o e => k _ _ (by decide) e
  lim := let ⟨mc, a, r⟩ := G.lim; ⟨mc, a.at' fun o e => k _ _ (by decide) e, r⟩
  bm := let ⟨bm, ob, a1, a2, a3, a4, r⟩ := G.bm; ⟨bm, ob, a1, a2, a3, k _ _ a3 a4, r⟩
  bi := G.bi
  code := hc
theorem Gd.keeps {w : World} {mg mb : Str → Option Value} {h h' : Heap} (G : Gd w mg mb h) (k : ∀ b o, h.get? b = some o → h'.get? b = some o) : Gd w mg mb h' :=
  G.off (.of k) (G.code.keeps k)
theorem Gd.pat {w : World} {mg mb : Str → Option Value} {h : Heap} (G : Gd w mg mb h) : PatAt h 49 48 :=
  ⟨⟨_, _, _, _, G.K 49 _ rfl⟩, (G.K 48 _ rfl).trans (by with_unfolding_all rfl)⟩
/-- behind a call: what it may have changed -/
structure After (s s' : Shared) : Prop where
  off : Off s.heap s'.heap
  code : TabOk s'.heap
  gens : AllBare s.gens → AllBare s'.gens
  os : s'.os = s.os
  drawn : s'.drawn = s.drawn
/-- str(v) is x, in h and in all that come of it -/
def StrTo (w : World) (h : Heap) (v : Value) (x : Str) : Prop :=
  x.length ≤ sizeLine ∧ ∀ (A : Around) (E : Value → Shared → Prop) (s : Shared) (Q : Value → Shared → Prop), A.handled = none → A.guards = some [] → A.depth ≤ 900 → A.units ≤ 5000 → Off h s.heap → (∃ mg mb, Gd w mg mb s.heap) →
    (∀ h' tk t, (∀ b o, s.heap.get? b = some o → h'.get? b = some o) → Q (.str x t) { s with heap := h', toks := tk }) → wpAny (model P2 w) A (call (.type "str") [v]) Q E s
theorem StrTo.off {w : World} {h h' : Heap} {v : Value} {x : Str} (S : StrTo w h v x) (k : Off h h') : StrTo w h' v x :=
  ⟨S.1, fun A E s Q a b c d e f g => S.2 A E s Q a b c d (k.trans e) f g⟩
noncomputable abbrev fnAt (p : Params) (a : Addr) : FuncData := match (hd2.heap_39 p).lookup a with
  | some ⟨_, _, .func fd, _⟩ => fd
  | _ => default
theorem fn56 {w : World} {mg mb : Str → Option Value} {h : Heap} (G : Gd w mg mb h) : ∃ o, h.get? 56 = some o ∧ o.data = .func (fnAt w.params 56) := ⟨_, G.K 56 _ rfl, rfl⟩
end Mine
namespace Mine
section
variable {w : World} {A : Around} {E : Value → Shared → Prop} {s : Shared} {mg mb : Str → Option Value}
theorem bindStar {M : Model} {fd : FuncData} {a : PySem.Arg} {vs : List Value} {Q : List (Str × Value) → Shared → Prop} (hp : fd.params = { posonlyargs := [], args := [], vararg := some a, kwonlyargs := [], kw_defaults := [], kwarg := none, defaults := [] }) (hd : fd.defaults = .none) (hl : vs.length ≤ sizeLine)
    (h : Q [(a.arg, .ref s.heap.objs.size)] { s with heap := s.heap.push { cls := .type "tuple", data := .seq vs.toArray } }) : wpAny M A (bindArgs fd ⟨vs, []⟩) Q E s := by
  unfold bindArgs
  rw [hp, hd]
  dsimp only
  clear hp hd
  obtain ⟨hp, g, d, tk, os⟩ := s
  repeat (any_goals (first | assumption | wp_step))
/-- item for item: str of the one is the other -/
inductive StrsTo (w : World) (h : Heap) : List Value → List Str → Prop where
  | nil : StrsTo w h [] []
  | cons {v : Value} {x : Str} {vs : List Value} {xs : List Str} : StrTo w h v x → StrsTo w h vs xs → StrsTo w h (v :: vs) (x :: xs)
theorem StrsTo.length {h : Heap} {vs : List Value} {xs : List Str} (S : StrsTo w h vs xs) : vs.length = xs.length := by
  induction S with
  | nil => rfl
  | cons _ _ ih => simp [ih]
theorem StrsTo.get {h : Heap} {vs : List Value} {xs : List Str} (S : StrsTo w h vs xs) : ∀ {i : Nat} {v : Value}, vs[i]? = some v → ∃ x, xs[i]? = some x ∧ StrTo w h v x := by
  induction S with
  | nil => intro i v e; simp at e
  | cons a _ ih =>
    intro i v e
    cases i with
    | zero => simp at e; subst e; exact ⟨_, rfl, a⟩
    | succ i => simp at e; simpa using ih e
theorem StrsTo.off {h h' : Heap} {vs : List Value} {xs : List Str} (S : StrsTo w h vs xs) (k : Off h h') : StrsTo w h' vs xs := by
  induction S with
  | nil => exact .nil
  | cons a _ ih => exact .cons (a.off k) ih
theorem mgRe {h : Heap} (G : Gd w mg mb h) : mg (Str.ofString "_control_character_re") = some (.ref 49) := mg_of G.K G.g rfl
theorem mgStr {h : Heap} (G : Gd w mg mb h) : mg (Str.ofString "str") = none := mg_none_of G.K G.g rfl
theorem mgAny {h : Heap} (G : Gd w mg mb h) : mg (Str.ofString "any") = none := mg_none_of G.K G.g rfl
theorem mbStr {h : Heap} (G : Gd w mg mb h) : mb (Str.ofString "str") = some (.type "str") := (G.bi _ (by decide)).trans (by kernel_rfl)
theorem mbAny {h : Heap} (G : Gd w mg mb h) : mb (Str.ofString "any") = some (.builtin "any") := (G.bi _ (by decide)).trans (by kernel_rfl)
theorem code56 {h : Heap} (G : Gd w mg mb h) : h.CodeRec (fnAt w.params 56).code (fnAt w.params 56).qualname := codeRec_of G.K (by rfl)
abbrev gscope : Scope := { kind := ScopeKind.function, names := [(Str.ofString ".0", NameKind.local), (Str.ofString "v", NameKind.local), (Str.ofString "_control_character_re", NameKind.globalImplicit), (Str.ofString "str", NameKind.globalImplicit)], isGenerator := true, isCoroutine := false }
theorem anyGen {env : Env} {m : Str → Option Value} {T0 : Addr} {vs : List Value} {xs : List Str} {p0 p1 p2 p3 p4 p5 p6 p7 p8 p9 pc : Pos} {Q : Value → Shared → Prop} (hh : A.handled = none) (hgu : A.guards = some []) (hdp : A.depth ≤ 801) (hun : A.units ≤ 4003)
    (hk : env.scope.kind = .function) (ka : env.kindOf (Str.ofString "any") = some .globalImplicit) (kv : env.kindOf (Str.ofString "val") = some .local) (hge : env.globals = mainGlobals) (hbe : env.builtins = builtinsNs) (hce : env.code = .ref 55) (hcl : closureFor gscope env = pure [])
    (hline : (p2.endLine == p6.line) = true)
    (G : Gd w mg mb s.heap) (hn : s.heap.Ns env.locals m) (hv : m (Str.ofString "val") = some (.ref T0)) (hT : s.heap.IsTuple T0 vs.toArray) (hT51 : T0 ≠ 51) (S : StrsTo w s.heap vs xs)
    (hQ : ∀ s', After s s' → Q (.bool (xs.any hasCtl)) s') :
    wpAny (model P2 w) A (eval (.Call (.Name (Str.ofString "any") p0) [.GeneratorExp (.Call (.Attribute (.Name (Str.ofString "_control_character_re") p1) (Str.ofString "search") p2) [.Call (.Name (Str.ofString "str") p3) [.Name (Str.ofString "v") p4] [] p5] [] p6)
      [⟨.Name (Str.ofString "v") p7, .Name (Str.ofString "val") p8, [], 0⟩] gscope p9] [] pc) env) Q E s := by
  have hroom : A.depth < recursionLimit := by show A.depth < 1000; omega
  refine wpAny_bind (m := eval (.Name (Str.ofString "any") p0) env) (Calls.Name_function_global hk ka (Calls.loadGlobal_builtin (by rw [hge]; exact G.g) (mgAny G) (by rw [hbe]; exact G.b) (mbAny G) ?_))
  refine Calls.callWith_builtin rfl (evalArgs1 ?_)
  show wpAny _ A (eval (.GeneratorExp _ _ _ _) env) _ _ _
  refine wpAny_GeneratorExp_make rfl hcl (by decide) (by decide +kernel) rfl hroom ?_ (fun _ => rfl)
  refine wpAny_Name (wpAny_loadName_local hk kv hn hv ?_) (by decide)
  refine wpAny_pyIter_tuple hT ?_
  have kI : ∀ b o, s.heap.get? b = some o → (s.heap.push { cls := .type "tuple_iterator", data := .fields #[.ref T0, .int 0 0] }).get? b = some o := fun b o e => Heap.get?_push_of_some _ e
  have GI := G.keeps kI
  refine ⟨GI.lim, ?_⟩
  refine genCode (s := { s with heap := s.heap.push { cls := .type "tuple_iterator", data := .fields #[.ref T0, .int 0 0] } }) hce GI.code fun code h₃ tk₃ hx₃ hc₃ => ?_
  have G3 : Gd w mg mb h₃ := GI.off (fun b o nb e => hx₃ b o nb e) hc₃
  have o3 : Off s.heap h₃ := fun b o nb e => hx₃ b o nb (kI b o e)
  obtain ⟨bm, ob, b1, b2, b3, b4, b5, b6, b7⟩ := G3.bm
  rw [hge]
  refine wpAny_builtinsFor (s := { s with heap := h₃, toks := tk₃ }) G3.g b1 b2 b4 b5 b6 b7 ?_
  intro h₄ hns₄ hsb₄
  dsimp only at hns₄ hsb₄ ⊢
  have h56 : 56 < s.heap.objs.size := Heap.lt_size (G.K 56 _ rfl)
  have hI51 : s.heap.objs.size ≠ 51 := by omega
  have hI3 : h₃.get? s.heap.objs.size = some { cls := .type "tuple_iterator", data := .fields #[.ref T0, .int 0 0] } := hx₃ _ _ hI51 (Heap.get?_push_size _ rfl)
  have hIlt : s.heap.objs.size < h₃.objs.size := Heap.lt_size hI3
  have hT3 : h₃.IsTuple T0 vs.toArray := hT.at fun o e => o3 _ _ hT51 e
  have hTlt : T0 < s.heap.objs.size := by obtain ⟨o, e, _⟩ := hT; exact Heap.lt_size e
  have sz₄ : h₄.objs.size = h₃.objs.size + 1 := by rw [hsb₄.1, Heap.size_push]
  have k4 : ∀ b o, h₃.get? b = some o → h₄.get? b = some o := fun b o e => hsb₄.extBut b o (Nat.ne_of_lt (Heap.lt_size e)) (Heap.get?_push_of_some _ e)
  generalize hgo : ({ cls := Value.type "generator", data := Data.fields #[Value.int (s.gens.size : Int) 0, Value.str (Str.ofString "<genexpr>") (tk₃ + 1), Value.str (env.qual ++ Str.ofString "<genexpr>") (tk₃ + 1 + 1)] } : Obj) = go
  have k5 : ∀ b o, h₃.get? b = some o → (h₄.push go).get? b = some o := fun b o e => Heap.get?_push_of_some _ (k4 b o e)
  have hlen := S.length
  have hGen : (h₄.push go).IsGen h₄.objs.size s.gens.size := by subst hgo; exact ⟨_, _, _, Heap.get?_push_size _ rfl, rfl, rfl, rfl⟩
  have hoff : ∀ u : Heap, (∀ b ∈ List.range h₃.objs.size, b ∉ [s.heap.objs.size] → ∀ o, (h₄.push go).get? b = some o → u.get? b = some o) → Off s.heap u ∧ TabOk u := by
    intro u hu
    have k : ∀ b o, b ≠ s.heap.objs.size → h₃.get? b = some o → u.get? b = some o := fun b o nb e => hu b (List.mem_range.mpr (Heap.lt_size e)) (by simpa using nb) o (k5 b o e)
    refine ⟨fun b o nb e => k b o (Nat.ne_of_lt (Heap.lt_size e)) (o3 b o nb e), ?_⟩
    exact hc₃.to (fun o e => k _ _ (by show (55 : Nat) ≠ _; omega) e) (fun o e => k _ _ (by show (51 : Nat) ≠ _; omega) e)
  have hElt : EltS P2 w (genEnv gscope [] h₃.objs.size code builtinsNs env) (Str.ofString "v") (.Call (.Attribute (.Name (Str.ofString "_control_character_re") p1) (Str.ofString "search") p2) [.Call (.Name (Str.ofString "str") p3) [.Name (Str.ofString "v") p4] [] p5] [] p6)
      (List.range h₃.objs.size) [s.heap.objs.size] (fun i v => vs.toArray[i]? = some v) (fun i y h => ∃ x, xs[i]? = some x ∧ Found x y h) (h₄.push go) (A.in1.in1.depth + 1) (A.in1.in1.units + 3) := by
    intro A' E' i v s₂ m₂ hA hG hD hU hP hn₂ hm₂ hkp
    obtain ⟨ho2, hc2⟩ := hoff s₂.heap hkp
    have G' : Gd w mg mb s₂.heap := G.off ho2 hc2
    obtain ⟨x, hx, St⟩ := S.get (i := i) (v := v) (by simpa using hP)
    have hD' : A'.depth ≤ 900 := by have : A.in1.in1.depth = A.depth := rfl; omega
    have hU' : A'.units ≤ 5000 := by have : A.in1.in1.units = A.units + 1 + 1 := rfl; omega
    refine wpAny_mono (elt_wp (cenv := genEnv gscope [] h₃.objs.size code builtinsNs env) rfl rfl rfl rfl hge rfl G'.g (mgRe G') (mgStr G') G'.b (mbStr G') hn₂ hm₂ G'.pat St.1 hline fun Q q => St.2 A' E' s₂ Q hA hG hD' hU' ho2 ⟨mg, mb, G'⟩ q) (fun y s₃ q => ⟨⟨x, hx, q.1⟩, q.2⟩) fun _ _ e => e
  have hW : ∀ A' : Around, A'.handled = none → Walks P2 w A' s.heap.objs.size (List.range h₃.objs.size) [s.heap.objs.size] vs.toArray.size (fun i v => vs.toArray[i]? = some v) (fun i h => h.IsTupleIter s.heap.objs.size T0 i ∧ h.IsTuple T0 vs.toArray) := fun A' hA =>
    (Walks.tuple hA s.heap.objs.size T0 (Nat.ne_of_lt hTlt) vs.toArray).mono_fp fun b hb => by
      rcases List.mem_cons.mp hb with rfl | hb
      · exact List.mem_range.mpr hIlt
      · rw [List.mem_singleton.mp hb]; exact List.mem_range.mpr (Nat.lt_trans hTlt hIlt)
  refine call_function_tree PySem.F.kind_any PySem.F.plain_any PySem.F.entry_any (PySem.F.args_any1 _) ?_
  unfold Builtin.«any»
  refine wpAny_bind (m := oneArg "any" _) (wpAny_pure ?_)
  refine wpAny_bind (wpAny_pyIter_gen hGen ?_)
  refine wpAny_pure ⟨plainId_quiet PySem.F.plain_any_loop _, ?_⟩
  refine anyS_loop (a := h₄.objs.size) (C := h₃.objs.size) (g := s.gens.size) (fp := List.range h₃.objs.size) (wr := [s.heap.objs.size]) (n₀ := vs.toArray.size) (F := fun i y h => ∃ x, xs[i]? = some x ∧ Found x y h) hh hroom (show (h₄.objs.size : Nat) ≠ h₃.objs.size by omega) (fun hm => by have := List.mem_range.mp hm; omega)
    (fun b hb => by rw [List.mem_singleton.mp hb]; exact List.mem_range.mpr hIlt) (by show 2 ≠ h₃.objs.size; omega) (by show ¬ (2 ∈ [s.heap.objs.size]); simp; omega) (fun j => match xs[j]? with | some x => hasCtl x | none => false) ?_ _ 0 _ rfl (Nat.zero_le _) ?_ ?_
  · rintro A' E' j v s Q ⟨x, hx, hf⟩ hq
    rw [hx] at hq
    exact found_truth hf hq
  · refine ⟨hGen, (G3.keeps k5).lim, _, Array.getElem?_push_size .., fun s'' hal => ⟨rfl, ?_⟩⟩
    refine segS_start (A := A.in1.in1) (cenv := genEnv gscope [] h₃.objs.size code builtinsNs env) (m := fun y => if y = Str.ofString ".0" then some (Value.ref s.heap.objs.size) else none) hh hgu hW _ (h₄.push go) rfl rfl rfl (fun hm => Nat.lt_irrefl _ (List.mem_range.mp hm)) hElt s'' s'' ?_ ?_ (GenSince.refl _ _ _) ?_
    · exact ⟨⟨_, hal _ (List.mem_cons_of_mem _ (List.mem_range.mpr hIlt)) _ (k5 _ _ hI3), rfl, rfl⟩, hT3.at fun o e => hal _ (List.mem_cons_of_mem _ (List.mem_range.mpr (Nat.lt_trans hTlt hIlt))) _ (k5 _ _ e)⟩
    · exact (hns₄.push _).at' fun o e => hal _ (List.mem_cons_self ..) o e
    · exact fun b hb _ o e => hal b (List.mem_cons_of_mem _ hb) o e
  · intro s' hm
    have hany : ((List.range vs.toArray.size).drop 0).any (fun j => match xs[j]? with | some x => hasCtl x | none => false) = xs.any hasCtl := by
      rw [List.drop_zero, show vs.toArray.size = xs.length from by simpa using hlen]
      exact (congrArg (List.any (List.range xs.length)) (funext fun j => by cases xs[j]? <;> rfl)).trans (any_rangeD xs hasCtl)
    rw [hany]
    obtain ⟨ho2, hc2⟩ := hoff s'.heap fun b hb nb o e => hm.heap b o (fun q => by
      rcases List.mem_cons.mp q with rfl | q
      · exact Nat.lt_irrefl _ (List.mem_range.mp hb)
      · exact nb q) e
    refine hQ s' ⟨ho2, hc2, fun hg => ?_, hm.os, hm.drawn⟩
    refine hm.gens.bare fun y hy => ?_
    rcases Array.mem_push.mp hy with hy | rfl
    · exact hg y hy
    · rfl
theorem hasC {vs : List Value} {xs : List Str} {R : Result → Shared → Prop} (hh : A.handled = none) (hgu : A.guards = some []) (hdp : A.depth ≤ 800) (hun : A.units ≤ 4000) (G : Gd w mg mb s.heap) (S : StrsTo w s.heap vs xs) (hl : vs.length ≤ sizeLine)
    (hR : ∀ s', After s s' → R (.ok (.ret (.bool (xs.any hasCtl)))) s') : codeAny (model P2 w) A (.call (.ref 56) ⟨vs, []⟩) R s := by
  have hroom : A.depth < recursionLimit := by show A.depth < 1000; omega
  obtain ⟨o, ho, hd⟩ := fn56 G
  refine codeAny_call_function hroom ho hd rfl rfl rfl (code56 G) ?_
  refine bindStar rfl rfl hl ?_
  refine wpAny_newFunctionEnv (scope := (fnAt w.params 56).scope) ?_ ?_ (fun h₁ hns₁ hsb₁ => ?_) rfl
  · intro x hx
    have : x ∈ [(Str.ofString "val", NameKind.local), (Str.ofString "any", NameKind.globalImplicit)] := hx
    clear hx
    rcases List.mem_cons.mp this with rfl | this
    · decide
    · rw [List.mem_singleton.mp this]; decide
  · intro x hx
    rw [List.mem_singleton.mp hx]; rfl
  dsimp only at hns₁ hsb₁ ⊢
  have hTup : (s.heap.push { cls := .type "tuple", data := .seq vs.toArray }).get? s.heap.objs.size = some { cls := .type "tuple", data := .seq vs.toArray } := Heap.get?_push_size _ rfl
  have k1 : ∀ b o, (s.heap.push { cls := .type "tuple", data := .seq vs.toArray }).get? b = some o → h₁.get? b = some o := fun b o e => hsb₁.extBut b o (Nat.ne_of_lt (Heap.lt_size e)) (Heap.get?_push_of_some _ e)
  have k2 : ∀ b o, s.heap.get? b = some o → h₁.get? b = some o := fun b o e => k1 b o (Heap.get?_push_of_some _ e)
  have G2 : Gd w mg mb h₁ := G.keeps k2
  have h56 : 56 < s.heap.objs.size := Heap.lt_size ho
  refine ⟨G2.lim, codeAny_func ?_⟩
  refine wpAny_execs_cons (wpAny_Return_some ?_)
  refine anyGen (m := fun x => [(Str.ofString "val", Value.ref s.heap.objs.size)].reverse.lookup x) (T0 := s.heap.objs.size) (vs := vs) (xs := xs) (s := { s with heap := h₁, toks := s.toks + 1 }) hh hgu ?_ ?_ rfl rfl rfl rfl rfl rfl rfl rfl G2 hns₁ rfl ?_ ?_ ?_ ?_
  · show A.depth + 1 ≤ 801; omega
  · show A.units + 3 ≤ 4003; omega
  · exact ⟨_, k1 _ _ hTup, rfl, _, rfl⟩
  · show (s.heap.objs.size : Nat) ≠ 51; omega
  · exact S.off (.of k2)
  · intro s' a
    exact hR s' ⟨fun b o nb e => a.off b o nb (k2 b o e), a.code, a.gens, a.os, a.drawn⟩
end
end Mine
namespace Mine
theorem pk_str (p : Params) (S : Setting) : peek (hd2.heap_39 p) S (typeLookup (.ref 41) "__str__") = some (some (.builtin "BaseException.__str__")) := by kernel_rfl
theorem pk_sub (p : Params) (S : Setting) : peek (hd2.heap_39 p) S (isSubtype (.ref 41) (.type "BaseException")) = some true := by kernel_rfl
theorem pk_substr (p : Params) (S : Setting) : peek (hd2.heap_39 p) S (isSubtype (.ref 41) (.type "str")) = some false := by kernel_rfl
/-- an exception of the text's own class with one argument -/
def ExcOne (h : Heap) (e : Addr) (v : Value) : Prop := ∃ o vs t0 ot n, h.get? e = some o ∧ o.cls = .ref 41 ∧ o.data = .fields vs ∧ vs[0]? = some (.ref t0) ∧ h.get? t0 = some ot ∧ ot.cls = .type "tuple" ∧ ot.data = .seq #[v] n ∧ e ≠ 51 ∧ t0 ≠ 51
theorem ExcOne.off {h h' : Heap} {e : Addr} {v : Value} (x : ExcOne h e v) (k : Off h h') : ExcOne h' e v :=
  let ⟨o, vs, t0, ot, n, a1, a2, a3, a4, a5, a6, a7, a8, a9⟩ := x; ⟨o, vs, t0, ot, n, k _ _ a8 a1, a2, a3, a4, k _ _ a9 a5, a6, a7, a8, a9⟩
section
variable {prog : Program} {w w' : World} {A : Around} {E : Value → Shared → Prop} {s : Shared} {mg mb : Str → Option Value} {e : Addr} {v : Value}
theorem exc_type {Q : Value → Shared → Prop} (x : ExcOne s.heap e v) (h : Q (.ref 41) s) : wpAny (model prog w') A (typeOf (.ref e)) Q E s := by
  obtain ⟨o, vs, t0, ot, n, a1, a2, _⟩ := x
  unfold typeOf
  refine wpAny_bind (wpAny_loadPart a1 ?_)
  refine wpAny_pure ?_
  rw [a2]; exact h
theorem exc_inst {Q : Bool → Shared → Prop} (G : Gd w mg mb s.heap) (x : ExcOne s.heap e v) (h : Q true s) : wpAny (model prog w') A (isInstance (.ref e) (.type "BaseException")) Q E s := by
  unfold isInstance
  refine wpAny_bind (exc_type x ?_)
  exact (Looks.of_peek (M := model prog w') G.K (pk_sub _ _)).here h
theorem exc_check {Q : Unit → Shared → Prop} (G : Gd w mg mb s.heap) (x : ExcOne s.heap e v) (h : Q () s) : wpAny (model prog w') A (checkBuiltinCall "BaseException.__str__" ⟨[.ref e], []⟩) Q E s := by
  have hk : builtinKind "BaseException.__str__" = some .slot := by decide +kernel
  have hs : splitId "BaseException.__str__" = some ("BaseException", "__str__") := by decide +kernel
  have ha := PySem.F.args_bexc_str (.ref e)
  simp only [checkBuiltinCall, hk, hs]
  refine wpAny_bind (exc_inst G x ?_)
  simp only [Bool.not_true, Bool.false_eq_true, if_false]
  cases hsig : Manifest.signature? "BaseException.__str__" with
  | none => exact wpAny_pure h
  | some sig =>
    simp only [argsOk, hsig] at ha
    have h2 : Bind.checkArgs "BaseException.__str__" sig ⟨[.ref e], []⟩ = pure () := ha
    show wpAny _ A (Bind.checkArgs "BaseException.__str__" sig ⟨[.ref e], []⟩) Q E s
    rw [h2]; exact wpAny_pure h
theorem exc_args {Q : Value × List Value → Shared → Prop} (x : ExcOne s.heap e v) (h : ∀ t, Q (t, [v]) s) : wpAny (model prog w') A (Builtin.BaseException.bexcArgs (.ref e)) Q E s := by
  obtain ⟨o, vs, t0, ot, n, a1, a2, a3, a4, a5, a6, a7, _⟩ := x
  unfold Builtin.BaseException.bexcArgs
  refine wpAny_bind (wpAny_field a1 a3 a4 (wpAny_bind (wpAny_seqItems a5 a7 ?_)))
  exact wpAny_pure (h _)
theorem plain_bexc : plainId "BaseException.__str__" = true := by decide +kernel
theorem bind_bexc (self : Value) : bindSpecial (.builtin "BaseException.__str__") self = pure (.builtin "BaseException.__str__", [self]) := by kernel_rfl
/-- the text of an exception, by its own method -/
def TextTo (w : World) (U : Nat) (h : Heap) (v : Value) (x : Str) : Prop :=
  ∀ (prog : Program) (w' : World) (A : Around) (E : Value → Shared → Prop) (s : Shared) (Q : Value → Shared → Prop), A.units ≤ U → Off h s.heap → (∃ mg mb, Gd w mg mb s.heap) → (∀ t, Q (.str x t) s) → wpAny (model prog w') A (Builtin.BaseException.bexcText "__str__" v) Q E s
theorem exc_call {U : Nat} {x : Str} {Q : Value → Shared → Prop} (hu : A.units + 1 ≤ U) (G : Gd w mg mb s.heap) (X : ExcOne s.heap e v) (hv : TextTo w U s.heap v x) (h : ∀ t, Q (.str x t) s) :
    wpAny (model prog w') A (call (.builtin "BaseException.__str__") [.ref e]) Q E s := by
  refine wpAny_call (codeAny_call_builtin plain_bexc PySem.F.entry_bexc_str (exc_check G X ?_))
  unfold Builtin.«BaseException.__str__»
  refine wpAny_bind (m := slotArgs _ _ _) (wpAny_of_eq (a := (.ref e, [])) rfl ?_)
  dsimp only
  refine wpAny_bind (exc_args X fun t => ?_)
  refine wpAny_bind (wpAny_rule ?_)
  exact wpAny_bind (hv _ _ _ _ s _ hu (Off.refl _) ⟨_, _, G⟩ fun t => wpAny_pure (h t))
theorem textTo_str {U : Nat} {h : Heap} {x : Str} {t : Tok} : TextTo w U h (.str x t) x := fun _ _ _ _ _ _ _ _ _ q => wpAny_of_eq (a := .str x t) rfl (q t)
theorem exc_special {U : Nat} {x : Str} {Q : Option Value → Shared → Prop} (hu : A.units + 1 ≤ U) (G : Gd w mg mb s.heap) (X : ExcOne s.heap e v) (hv : TextTo w U s.heap v x) (h : ∀ t, Q (some (.str x t)) s) :
    wpAny (model prog w') A (callSpecial? (.ref e) (Str.ofString "__str__")) Q E s := by
  unfold callSpecial? specialOf
  refine wpAny_bind (wpAny_bind (exc_type X ((Looks.of_peek (M := model prog w') G.K (pk_str _ _)).here ?_)))
  refine wpAny_holding (wpAny_bind (wpAny_of_eq (bind_bexc _) ?_))
  exact wpAny_bind (exc_call hu G X hv fun t => wpAny_pure (h t))
theorem TextTo.off {U : Nat} {h h' : Heap} {x : Str} (T : TextTo w U h v x) (k : Off h h') : TextTo w U h' v x := fun prog w' A E s Q a b c d => T prog w' A E s Q a (k.trans b) c d
theorem textTo_exc {U : Nat} {h : Heap} {x : Str} (hU : U < cLine) (X : ExcOne h e v) (hv : TextTo w (U + 1) h v x) : TextTo w U h (.ref e) x := fun prog w' A E s Q hu k ⟨mg, mb, G⟩ q => by
  unfold Builtin.BaseException.bexcText
  refine wpAny_ite_true rfl ?_
  dsimp only
  refine wpAny_bind (wpAny_cRoomFor (Nat.lt_of_le_of_lt hu hU) ?_)
  refine wpAny_bind (exc_special (Nat.succ_le_succ hu) G (X.off k) (hv.off k) fun t => ?_)
  dsimp only
  refine wpAny_bind (wpAny_isInstance (typeIs_str _ _ _) isSubtype_str_str ?_)
  exact wpAny_pure (q t)
theorem exc_strOf {U : Nat} {x : Str} {Q : Value → Shared → Prop} (hr : A.units < cLine) (hu : A.units + 1 ≤ U) (G : Gd w mg mb s.heap) (X : ExcOne s.heap e v) (hv : TextTo w U s.heap v x) (h : ∀ t, Q (.str x t) s) :
    wpAny (model prog w') A (Builtin.Str.strOf (.ref e)) Q E s := by
  unfold Builtin.Str.strOf
  rw [show Builtin.Str.isExactStr (.ref e) = false from rfl]
  refine wpAny_bind (m := cRoomFor _ _) (wpAny_cRoomFor hr ?_)
  refine wpAny_bind (m := callSpecial? (.ref e) (Str.ofString "__str__")) (exc_special hu G X hv fun t => ?_)
  exact wpAny_pure (h t)
theorem exc_strTo {h : Heap} {x : Str} (hl : x.length ≤ sizeLine) (X : ExcOne h e v) (hv : TextTo w 5003 h v x) : StrTo w h (.ref e) x := by
  refine ⟨hl, fun A E s Q hh hg hd hu k ⟨mg, mb, G⟩ q => ?_⟩
  refine callType_new F.called_str (by decide) (F.typeCall_str_1 _) (F.newCall_str_1 _) (fun obj => F.args_object_init_2 obj _) F.entry_str_new
    (meets_str_new (S := fun A' R s' => A'.units + 2 ≤ 5003 ∧ Gd w mg mb s'.heap ∧ ExcOne s'.heap e v ∧ TextTo w 5003 s'.heap v x ∧ ∀ t, R (.ok (.ret (.str x t))) s')
      fun prog' w' A' R s' h => exc_strOf (A := A'.in1) (U := 5003) (by show A'.units + 1 < 9900; have := h.1; omega) h.1 h.2.1 h.2.2.1 h.2.2.2.1 h.2.2.2.2)
    ⟨by show A.units + 1 + 2 ≤ 5003; omega, G, X.off k, hv.off k, fun t => ⟨typeIs_str _ _ _, q s.heap s.toks t fun _ _ e => e⟩⟩
theorem str_strTo {h : Heap} {x : Str} {t : Tok} (hl : x.length ≤ sizeLine) : StrTo w h (.str x t) x :=
  ⟨hl, fun A E s Q hh hg hd hu k _ q => P.str_of_str (q s.heap s.toks t fun _ _ e => e)⟩
theorem tup_strTo {h : Heap} {a : Addr} {o : Obj} {n : Nat} {x y : Str} {t u : Tok} (ho : h.get? a = some o) (hc : o.cls = .type "tuple") (hd : o.data = .seq #[.str x t, .str y u] n) (ha : a ≠ 51)
    (hl : (PyData.tuple [PyData.str x, PyData.str y]).shown.length ≤ sizeLine) : StrTo w h (.ref a) (PyData.tuple [PyData.str x, PyData.str y]).shown :=
  ⟨hl, fun A E s Q hh hg hdp hu k _ q => str_of_reads (h₀ := s.heap) (d := .tuple [PyData.str x, PyData.str y]) (PySem.Reads.tuple (k _ _ ha ho) hc hd (.cons (Reads.str x t) (.cons (Reads.str y u) .nil))) rfl (fun h => by cases h) hg (by show A.units + 4 < 9900; omega) (fun _ _ e => e) (fun h' u tk hk => q h' tk u hk) hl⟩
theorem dict_strTo {h : Heap} {a : Addr} {o : Obj} {n : Nat} {es : Array DictEntry} {x y : Str} {t u : Tok} (ho : h.get? a = some o) (hc : o.cls = .type "dict") (hd : o.data = .dict es n) (he : es.toList.map (·.key) = [Value.str y u]) (hv : es.toList.map (·.val) = [Value.str x t]) (ha : a ≠ 51) (hs : a ≠ sysModules)
    (hl : (PyData.dict [(.str y, .str x)]).shown.length ≤ sizeLine) : StrTo w h (.ref a) (PyData.dict [(.str y, .str x)]).shown :=
  ⟨hl, fun A E s Q hh hg hdp hu k _ q => str_of_reads (h₀ := s.heap) (d := .dict [(PyData.str y, PyData.str x)]) (Reads.dict (as := []) (bs := []) (k _ _ ha ho) hc hd (by rw [he]; exact .cons (Reads.str y u) .nil) (by rw [hv]; exact .cons (Reads.str x t) .nil)) rfl (fun _ hm => hs (Eq.symm (by simpa using hm))) hg (by show A.units + 4 < 9900; omega) (fun _ _ e => e) (fun h' u tk hk => q h' tk u hk) hl⟩
end
end Mine
namespace Mine
open PySem.Builtin.Str in
theorem digits_plain (c : Nat) : ∀ d ∈ (Nat.toDigits 16 c).map Char.toNat, ctl d = false := by
  intro d hd
  obtain ⟨ch, hch, rfl⟩ := List.mem_map.mp hd
  have : ∀ n, n < 16 → ctl (Nat.digitChar n).toNat = false := by decide
  have h2 : ∀ (f n : Nat) (ds : List Char), (∀ ch ∈ ds, ctl ch.toNat = false) → ∀ ch ∈ Nat.toDigitsCore 16 f n ds, ctl ch.toNat = false := by
    intro f
    induction f with
    | zero => intro n ds h; simpa [Nat.toDigitsCore] using h
    | succ f ih =>
      intro n ds h
      unfold Nat.toDigitsCore
      dsimp only
      have h3 : ∀ ch ∈ Nat.digitChar (n % 16) :: ds, ctl ch.toNat = false := fun ch hc => by
        rcases List.mem_cons.mp hc with rfl | hc
        · exact this _ (Nat.mod_lt _ (by decide))
        · exact h ch hc
      split
      · exact h3
      · exact ih _ _ h3
  exact h2 _ _ _ (fun _ h => by cases h) ch hch
theorem lowUnprint : ∀ c, c < 128 → ctl c = true → Unicode.isPrintable c = false := by decide +kernel
open PySem.Builtin.Str in
theorem reprChar_plain (q c : Nat) (hq : q = 34 ∨ q = 39) : ∀ d ∈ reprChar q c, ctl d = false := by
  have hx : ∀ w, ∀ d ∈ List.replicate (w - ((Nat.toDigits 16 c).map Char.toNat).length) 48 ++ (Nat.toDigits 16 c).map Char.toNat, ctl d = false := by
    intro w d hd
    rcases List.mem_append.mp hd with hd | hd
    · rw [(List.mem_replicate.mp hd).2]; rfl
    · exact digits_plain c d hd
  unfold reprChar
  dsimp only
  split
  · rename_i h
    have h' : c = q ∨ c = 92 := by simpa using h
    intro d hd
    rcases List.mem_cons.mp hd with rfl | hd
    · rfl
    · rw [List.mem_singleton.mp hd]
      rcases h' with rfl | rfl
      · rcases hq with rfl | rfl <;> rfl
      · rfl
  · split
    · decide
    · split
      · decide
      · split
        · decide
        · split
          · rename_i h
            intro d hd
            rw [List.mem_singleton.mp hd]
            cases hc : ctl c with
            | false => rfl
            | true =>
              have hl : c < 128 := by
                unfold ctl at hc
                simp at hc
                omega
              rw [lowUnprint c hl hc] at h
              cases h
          · have two : ∀ (u : Nat) (w : Nat), ctl u = false → ∀ d ∈ [92, u] ++ (List.replicate (w - ((Nat.toDigits 16 c).map Char.toNat).length) 48 ++ (Nat.toDigits 16 c).map Char.toNat), ctl d = false := by
              intro u w hu d hd
              rcases List.mem_append.mp hd with hd | hd
              · rcases List.mem_cons.mp hd with rfl | hd
                · rfl
                · rw [List.mem_singleton.mp hd]; exact hu
              · exact hx w d hd
            split
            · exact two 120 2 rfl
            · split
              · exact two 117 4 rfl
              · exact two 85 8 rfl
def Plain (x : Str) : Prop := ∀ d ∈ x.cps.toList, ctl d = false
theorem Plain.app {x y : Str} (a : Plain x) (b : Plain y) : Plain (x ++ y) := by
  intro d hd
  have : d ∈ x.cps.toList ++ y.cps.toList := by simpa using (show d ∈ (x.cps ++ y.cps).toList from hd)
  rcases List.mem_append.mp this with h | h
  · exact a d h
  · exact b d h
theorem Plain.no {x : Str} (a : Plain x) : hasCtl x = false := by
  unfold hasCtl
  rw [← Array.any_toList]
  exact List.any_eq_false.mpr fun d hd => by rw [a d hd]; decide
theorem Plain.repr (x : Str) : Plain (reprText x) := by
  have hq : reprQuote x = 34 ∨ reprQuote x = 39 := by unfold reprQuote; split <;> simp
  have hq' : ctl (reprQuote x) = false := by rcases hq with h | h <;> rw [h] <;> rfl
  have : ∀ (l : List Nat) (acc : Array Nat), (∀ d ∈ acc.toList, ctl d = false) → ∀ d ∈ (l.foldl (fun out c => out ++ (Builtin.Str.reprChar (reprQuote x) c).toArray) acc).toList, ctl d = false := by
    intro l
    induction l with
    | nil => intro acc h; exact h
    | cons c r ih =>
      intro acc h
      refine ih _ fun d hd => ?_
      rcases List.mem_append.mp (by simpa using hd : d ∈ acc.toList ++ Builtin.Str.reprChar (reprQuote x) c) with h1 | h1
      · exact h d h1
      · exact reprChar_plain _ c hq d h1
  intro d hd
  unfold reprText at hd
  rw [← Array.foldl_toList] at hd
  rcases List.mem_append.mp (by simpa using hd : d ∈ (x.cps.toList.foldl (fun out c => out ++ (Builtin.Str.reprChar (reprQuote x) c).toArray) #[reprQuote x]).toList ++ [reprQuote x]) with h | h
  · exact this _ _ (fun d hd => by rw [show d = reprQuote x by simpa using hd]; exact hq') d h
  · rw [List.mem_singleton.mp h]; exact hq'
theorem strOfPlain (x : Str) (h : x.cps.toList.all (fun d => !ctl d) = true) : Plain x := fun d hd => by
  have := List.all_eq_true.mp h d hd
  simpa using this
theorem tup_plain (x y : Str) : Plain (PyData.tuple [PyData.str x, PyData.str y]).shown := by
  have : (PyData.tuple [PyData.str x, PyData.str y]).shown = ("(" : Str) ++ (reprText x ++ ", " ++ reprText y) ++ ((")" : String) : Str) := by
    simp only [PyData.shown, PyData.shownAll]; rfl
  rw [this]
  exact ((strOfPlain _ (by decide)).app (((Plain.repr x).app (strOfPlain _ (by decide))).app (Plain.repr y))).app (strOfPlain _ (by decide))
theorem dict_plain (x y : Str) : Plain (PyData.dict [(PyData.str y, PyData.str x)]).shown := by
  have : (PyData.dict [(PyData.str y, PyData.str x)]).shown = ("{" : Str) ++ (reprText y ++ ": " ++ reprText x) ++ "}" := by
    simp only [PyData.shown, PyData.shownKv]; rfl
  rw [this]
  exact ((strOfPlain _ (by decide)).app (((Plain.repr y).app (strOfPlain _ (by decide))).app (Plain.repr x))).app (strOfPlain _ (by decide))
theorem tup_len (x y : Str) (hx : ∀ c ∈ x.cps.toList, c < 16 ^ 8) (hy : ∀ c ∈ y.cps.toList, c < 16 ^ 8) : (PyData.tuple [PyData.str x, PyData.str y]).shown.length ≤ 10 * x.length + 10 * y.length + 8 := by
  have : (PyData.tuple [PyData.str x, PyData.str y]).shown = ("(" : Str) ++ (reprText x ++ ", " ++ reprText y) ++ ((")" : String) : Str) := by
    simp only [PyData.shown, PyData.shownAll]; rfl
  rw [this]
  simp only [strLen_append]
  have a := StrLaws.reprText_len x hx
  have b := StrLaws.reprText_len y hy
  have e1 : (("(" : String) : Str).length = 1 := rfl
  have e2 : ((")" : String) : Str).length = 1 := rfl
  have e3 : ((", " : String) : Str).length = 2 := rfl
  omega
theorem dict_len (x y : Str) (hx : ∀ c ∈ x.cps.toList, c < 16 ^ 8) (hy : ∀ c ∈ y.cps.toList, c < 16 ^ 8) : (PyData.dict [(PyData.str y, PyData.str x)]).shown.length ≤ 10 * x.length + 10 * y.length + 8 := by
  have : (PyData.dict [(PyData.str y, PyData.str x)]).shown = ("{" : Str) ++ (reprText y ++ ": " ++ reprText x) ++ "}" := by
    simp only [PyData.shown, PyData.shownKv]; rfl
  rw [this]
  simp only [strLen_append]
  have a := StrLaws.reprText_len x hx
  have b := StrLaws.reprText_len y hy
  have e1 : (("{" : String) : Str).length = 1 := rfl
  have e2 : (("}" : String) : Str).length = 1 := rfl
  have e3 : ((": " : String) : Str).length = 2 := rfl
  omega
end Mine
namespace Mine
/-- the heap without the table of the one generator -/
abbrev hid (h : Heap) : Heap := ghostOf h [(55, 51)]
noncomputable abbrev LS : List Str := looseW hd2.view_39 [Str.ofString "_control_character_re"] ++ (recsOf hd2.view_39).map (·.name) ++ (litsOf hd2.view_39).map (·.1) ++ (clssOf hd2.view_39 (looseW hd2.view_39 [Str.ofString "_control_character_re"])).map (·.name)
theorem hid_get {h : Heap} {b : Addr} {o : Obj} (e : h.get? b = some o) (n : b ≠ 51) : (hid h).get? b = some o := hideAll_get _ e fun q => n (by simpa using q)
theorem of_hid {h : Heap} {b : Addr} {o : Obj} (e : (hid h).get? b = some o) : h.get? b = some o := of_hideAll _ e
theorem hid_none (h : Heap) : (hid h).get? 51 = none := hideAll_none _ (.head _)
theorem hid_ne {h : Heap} {b : Addr} {o : Obj} (e : (hid h).get? b = some o) : b ≠ 51 := fun q => by rw [q, hid_none] at e; cases e
theorem hid_off {h h' : Heap} (k : Off h h') : ∀ b o, (hid h).get? b = some o → (hid h').get? b = some o := fun b o e => hid_get (k b o (hid_ne e) (of_hid e)) (hid_ne e)
theorem off_of {h h' : Heap} (k : ∀ b o, (hid h).get? b = some o → h'.get? b = some o) : Off h h' := fun b o n e => k b o (hid_get e n)
/-- what stands at every call of the text's own -/
structure St (w : World) (mean : ExcName → Option Value) (mg mb : Str → Option Value) (h : Heap) : Prop where
  K : (hd2.heap_39 w.params).In (hid h)
  T : Top topProg LS mean mg mb (hid h)
  code : TabOk h
section
variable {w : World} {mean : ExcName → Option Value} {mg mb : Str → Option Value} {h h' : Heap}
theorem St.off (S : St w mean mg mb h) (k : Off h h') (c : TabOk h') : St w mean mg mb h' :=
  ⟨fun a o e => hid_off k a o (S.K a o e), S.T.keeps (hid_off k), c⟩
theorem St.keeps (S : St w mean mg mb h) (k : ∀ b o, h.get? b = some o → h'.get? b = some o) : St w mean mg mb h' :=
  S.off (.of k) (S.code.keeps k)
theorem St.gd (S : St w mean mg mb h) : Gd w mg mb h where
  K := fun a o e => of_hid (S.K a o e)
  g := S.T.g.keeps fun _ _ e => of_hid e
  b := S.T.b.keeps fun _ _ e => of_hid e
  lim := S.T.nolimit.keeps fun _ _ e => of_hid e
  bm := let ⟨bm, ob, a1, a2, a3, r⟩ := S.T.bmain; ⟨bm, ob, a1, a2, hid_ne a3, of_hid a3, r⟩
  bi := S.T.builtins
  code := S.code
theorem hid_fr {L : Addr} {m : Str → Option Value} {h₁ : Heap} (F : Fr h L h₁ m) : Fr (hid h) L h₁ m := ⟨F.ns, fun b o e => F.keep b o (of_hid e), Nat.le_trans (Nat.le_of_eq (hideAll_size _ _)) F.above⟩
theorem St.after {s s' : Shared} (S : St w mean mg mb s.heap) (a : After s s') : St w mean mg mb s'.heap := S.off a.off a.code
/-- a function of the text's own -/
theorem St.fn (S : St w mean mg mb h) (a : Addr) {o : Obj} (e : (hd2.heap_39 w.params).lookup a = some o) : h.get? a = some o := of_hid (S.K a o e)
/-- the state's own table, as news -/
theorem St.tab (S : St w mean mg mb h) {h₁ : Heap} {L : Addr} {m : Str → Option Value} (F : Fr h L h₁ m) : ∃ ps, TriplesOk ps.toList ∧ News (hid h) L h₁ [(51, tabObj ps)] := by
  obtain ⟨_, ps, b, r⟩ := S.code
  refine ⟨ps, r, fun p hp => ?_⟩
  rw [List.mem_singleton.mp hp]
  exact ⟨F.keep _ _ b, Nat.ne_of_lt (Nat.lt_of_lt_of_le (Heap.lt_size b) F.above), hid_none h⟩
end
end Mine
namespace Mine
/-- the sixteen signs -/
abbrev signs16 : Str := Str.ofString "\x00\x08\t\n\x0d\x1b\x1f\x7f ~k\\'\u0080\u0085\u009f"
theorem item16 (k : Int) (h0 : 0 ≤ k) (h1 : k < 16) : ∃ c, c < 1114112 ∧ Txt.item signs16 k = ⟨#[c]⟩ := by
  obtain ⟨n, rfl⟩ := Int.eq_ofNat_of_zero_le h0
  have h : ∀ n : Nat, n < 16 → (Txt.item signs16 (n : Int)).cps.size = 1 ∧ (Txt.item signs16 (n : Int)).cps.getD 0 0 < 1114112 := by decide +kernel
  obtain ⟨a, b⟩ := h n (by omega)
  generalize Txt.item signs16 (n : Int) = x at a b
  obtain ⟨⟨l⟩⟩ := x
  match l, a, b with
  | [c], _, b => exact ⟨c, b, rfl⟩
section
variable {w : World} {mean : ExcName → Option Value} {mg mb : Str → Option Value} {A : Around} {R : Result → Shared → Prop} {s : Shared}
theorem signC {n : Int} {t : Tok} (hA : A.handled = none) (hg : A.guards = some []) (hdp : A.depth ≤ 800) (hun : A.units ≤ 4000) (S : St w mean mg mb s.heap)
    (hR : ∀ h' tk c t', c < 1114112 → s.heap.StaysIn h' → R (.ok (.ret (.str ⟨#[c]⟩ t'))) { s with heap := h', toks := tk }) : codeAny (model P2 w) A (.call (.ref 63) ⟨[.int n t], []⟩) R s := by
  obtain ⟨ha, d, fr, gd, u⟩ := A
  dsimp only at hA hg hdp hun
  subst hA hg
  have hroom : d < recursionLimit := by show d < 1000; omega
  have KX : (hd2.heap_39 w.params).In s.heap := S.gd.K
  have T := S.T.keeps (h' := s.heap) fun _ _ e => of_hid e
  have hf := KX 63 _ rfl
  have hcd : s.heap.CodeRec (.ref 62) (Str.ofString "_law_sign") := codeRec_of KX (by rfl)
  have hrw : PySem.Challenge.rw_dm0159_02.row.prog = P2 := rfl
  revert hrw KX; k_fill; intro KX hrw; clear hrw
  w_top on
  refine call_fullW (name := Str.ofString "_law_sign") (dV := .none) (kV := .none) hroom hf rfl (Top.nolimit T) hcd (BindsTo.of_eq rfl) (locs rfl) fun h₁ F => ?_
  w_binds F
  have N0 := (News.nil : News _ _ _ []).at F
  k_steps
  · rename Fr _ _ _ _ => F2
    obtain ⟨c, hc, e⟩ := item16 ((n.fdiv 2).fmod 16) (Int.fmod_nonneg_of_pos _ (by decide)) (Int.fmod_lt_of_pos _ (by decide))
    dsimp only
    rw [show Txt.item _ ((n.fdiv 2).fmod 16) = ⟨#[c]⟩ from e]
    exact hR _ _ c _ hc F2.keep
  · rename Fr _ _ _ _ => F2
    have := Int.fmod_lt_of_pos (n.fdiv 2) (b := 1112064) (by decide)
    have := Int.fmod_nonneg_of_pos (n.fdiv 2) (b := 1112064) (by decide)
    exact hR _ _ _ _ (by omega) F2.keep
  · rename Fr _ _ _ _ => F2
    have := Int.fmod_lt_of_pos (n.fdiv 2) (b := 1112064) (by decide)
    have := Int.fmod_nonneg_of_pos (n.fdiv 2) (b := 1112064) (by decide)
    exact hR _ _ _ _ (by omega) F2.keep
end
end Mine
namespace Mine
/-- what h' has beyond h -/
noncomputable abbrev fresh (h h' : Heap) : Heap := hideAll h' ((List.range h.objs.size).filter fun b => (h.get? b).isSome)
theorem fresh_get {h h' : Heap} {b : Addr} {o : Obj} (e : h'.get? b = some o) (n : h.get? b = none) : (fresh h h').get? b = some o := hideAll_get _ e fun q => by
  have := (List.mem_filter.mp q).2
  rw [n] at this; cases this
theorem of_fresh {h h' : Heap} {b : Addr} {o : Obj} (e : (fresh h h').get? b = some o) : h'.get? b = some o ∧ h.get? b = none := by
  refine ⟨of_hideAll _ e, ?_⟩
  cases q : h.get? b with
  | none => rfl
  | some o' =>
    have hm : b ∈ (List.range h.objs.size).filter fun b => (h.get? b).isSome := List.mem_filter.mpr ⟨List.mem_range.mpr (Heap.lt_size q), by rw [q]; rfl⟩
    have := hideAll_none (h := h') _ hm
    rw [show (hideAll h' ((List.range h.objs.size).filter fun b => (h.get? b).isSome)).get? b = some o from e] at this
    cases this
theorem fresh_off {h h₀ h' h'' : Heap} (k : ∀ b o, h₀.get? b = some o → h.get? b = some o) (k' : ∀ b o, h.get? b = none → h'.get? b = some o → h''.get? b = some o) : Off (fresh h h') (fresh h₀ h'') := fun b o _ e => by
  obtain ⟨e1, e2⟩ := of_fresh e
  refine fresh_get (k' b o e2 e1) ?_
  cases q : h₀.get? b with
  | none => rfl
  | some o' => rw [k b o' q] at e2; cases e2
section
variable {w : World} {mean : ExcName → Option Value} {mg mb : Str → Option Value} {A : Around} {R : Result → Shared → Prop} {s : Shared}
theorem excIn41 (p : Params) : excIn (hd2.heap_39 p) 41 [.type "Exception", .type "BaseException", .type "object"] "Exception.__new__" = true := by kernel_rfl
theorem nsIn41 (p : Params) : nsIn (hd2.heap_39 p) mainGlobals (Str.ofString "CookieError") = some (some (.ref 41)) := by kernel_rfl
/-- the text's own error, with one argument -/
theorem callExc {prog : Program} {w' : World} {E : Value → Shared → Prop} {v : Value} {Q : Value → Shared → Prop} (KX : (hd2.heap_39 w.params).In s.heap) (T : Top topProg LS mean mg mb s.heap) (C : TabOk s.heap)
    (hq : ∀ h' e, s.heap.StaysIn h' → ExcOne (fresh s.heap h') e v → Q (.ref e) { s with heap := h' }) : wpAny (model prog w') A (call (.ref 41) [v]) Q E s := by
  have O := own_of_in KX (topRead_of T) (nsIn41 _) (excIn41 _)
  obtain ⟨bm, N, nm, q, bs, hdct, sn, sub, ab, col, dd, k0, k1, k2, k3, k5, mN, hC, hN, hni, OT⟩ := O.obj
  refine wpAny_call_exc_subT (h := s.heap) PySem.F.excBase_Exception OT hC hN hni (fun h' e hm => hq h' e hm.keeps ?_) (by show 1 ≤ sizeLine; decide)
  obtain ⟨t, h1, h2, h3⟩ := hm.there
  obtain ⟨_, ps, hP, _⟩ := C
  refine ⟨_, _, t, _, _, fresh_get h1 hm.new, rfl, rfl, rfl, fresh_get h3 h2, rfl, rfl, fun q => ?_, fun q => ?_⟩
  · have hn := hm.new; rw [q, hP] at hn; cases hn
  · rw [q, hP] at h2; cases h2
theorem thingC {x : Str} {t t1 : Tok} {k : Int} (hA : A.handled = none) (hg : A.guards = some []) (hdp : A.depth ≤ 800) (hun : A.units ≤ 4000) (S : St w mean mg mb s.heap) (hk0 : 0 ≤ k) (hx : x.length ≤ 100) (hx2 : ∀ c ∈ x.cps.toList, c < 1114112)
    (hR : ∀ h' tk v y, StrTo w (fresh s.heap h') v y → hasCtl y = (decide (k < 3) && hasCtl x) → s.heap.StaysIn h' → R (.ok (.ret v)) { s with heap := h', toks := tk }) : codeAny (model P2 w) A (.call (.ref 70) ⟨[.str x t, .int k t1], []⟩) R s := by
  obtain ⟨ha, d, fr, gd, u⟩ := A
  dsimp only at hA hg hdp hun
  subst hA hg
  have hroom : d < recursionLimit := by show d < 1000; omega
  have KX : (hd2.heap_39 w.params).In s.heap := S.gd.K
  have T := S.T.keeps (h' := s.heap) fun _ _ e => of_hid e
  have hf := KX 70 _ rfl
  have hcd : s.heap.CodeRec (.ref 69) (Str.ofString "_law_thing") := codeRec_of KX (by rfl)
  have hrw : PySem.Challenge.rw_dm0159_02.row.prog = P2 := rfl
  revert hrw KX; k_fill; intro KX hrw; clear hrw
  w_top on
  refine call_fullW (name := Str.ofString "_law_thing") (dV := .none) (kV := .none) hroom hf rfl (Top.nolimit T) hcd (BindsTo.of_eq rfl) (locs rfl) fun h₁ F => ?_
  w_binds F
  have N0 := (News.nil : News _ _ _ []).at F
  have hx3 : x.length ≤ sizeLine := Nat.le_trans hx (by decide)
  have hx4 : ∀ c ∈ x.cps.toList, c < 16 ^ 8 := fun c hc => Nat.lt_trans (hx2 c hc) (by decide)
  have hk4 : ∀ c ∈ (Str.ofString "k").cps.toList, c < 16 ^ 8 := by decide
  have hkl : (Str.ofString "k").length = 1 := rfl
  k_steps
  all_goals (rename Fr _ _ _ _ => F2; rename News _ _ _ _ => N2)
  · exact hR _ _ _ _ (str_strTo hx3) (by subst_vars; simp) F2.keep
  · refine callExc (KX.keeps F2.keep) (T.keeps F2.keep) (S.code.keeps F2.keep) fun h' e hk X => ?_
    exact hR _ _ _ _ (exc_strTo hx3 (X.off (fresh_off F2.keep fun _ _ _ e => e)) textTo_str) (by subst_vars; simp) (fun b o q => hk b o (F2.keep b o q))
  · refine callExc (KX.keeps F2.keep) (T.keeps F2.keep) (S.code.keeps F2.keep) fun h' e hk X => ?_
    have F3 := F2.keeps hk
    have F2k := F2.keep
    have N3 : News s.heap s.heap.objs.size h' [] := News.nil
    clear F2 N2
    k_steps
    refine callExc (KX.keeps F3.keep) (T.keeps F3.keep) (S.code.keeps F3.keep) fun h'' e' hk' X' => ?_
    refine hR _ _ _ _ (exc_strTo hx3 (X'.off (fresh_off F3.keep fun _ _ _ e => e)) (textTo_exc (by decide) (X.off (fresh_off F2k fun b o _ e => hk' b o e)) textTo_str)) (by subst_vars; simp) (fun b o q => hk' b o (F3.keep b o q))
  · have hD := (N2 _ (.head _)).1
    have hn := (N2 _ (.head _)).2.2
    refine hR _ _ _ _ (tup_strTo (fresh_get hD hn) rfl rfl (fun q => ?_) ?_) ?_ F2.keep
    · obtain ⟨_, ps, hP, _⟩ := S.code
      rw [q, hP] at hn; cases hn
    · have := tup_len x (Str.ofString "k") hx4 hk4
      exact Nat.le_trans this (by rw [hkl]; show _ ≤ 16777216; omega)
    · rw [(tup_plain _ _).no]; subst_vars; simp
  · rename Obj.IsDictOf _ _ _ => hdd
    have hD := (N2 _ (.head _)).1
    have hn := (N2 _ (.head _)).2.2
    obtain ⟨es, ep, hex, hdat, _, hps, _⟩ := hdd
    have hpp : ∃ (en : DictEntry) (tt : Tok), es.toList = [en] ∧ en.key = .str (Str.ofString "k") tt ∧ en.val = .str x t := by
      generalize es.toList = l at hps
      cases hps with
      | cons a b c =>
        cases c
        obtain ⟨tt, e⟩ := Value.isStrOf_shape a
        exact ⟨_, tt, rfl, e, b⟩
    obtain ⟨en, tt, e1, e2, e3⟩ := hpp
    refine hR _ _ _ _ (dict_strTo (y := Str.ofString "k") (u := tt) (x := x) (t := t) (fresh_get hD hn) hex.1 hdat (by rw [e1]; simp [e2]) (by rw [e1]; simp [e3]) (fun q => ?_) (fun q => ?_) ?_) ?_ F2.keep
    · obtain ⟨_, ps, hP, _⟩ := S.code
      rw [q, hP] at hn; cases hn
    · rename (_ == sysModules) = false => lo
      rw [q] at lo
      simp at lo
    · have := dict_len x (Str.ofString "k") hx4 hk4
      exact Nat.le_trans this (by rw [hkl]; show _ ≤ 16777216; omega)
    · rw [(dict_plain _ _).no]; subst_vars; simp
      omega
end
end Mine
namespace Mine
open PySem.Calls
theorem frOff {h₀ h h' : Heap} {L I : Addr} {m : Str → Option Value} (F : Fr h₀ L h m) (hL : L ≠ I) (hI : h₀.get? I = none) (hx : Heap.ExtBut I h h') : Fr h₀ L h' m := by
  obtain ⟨oL, a1, a2, hl, a3⟩ := F.ns
  refine ⟨⟨oL, a1, a2, hx _ _ hL hl, a3⟩, fun b o e => hx b o (fun q => ?_) (F.keep b o e), F.above⟩
  rw [q, hI] at e; cases e
theorem newsOff {h₀ h h' : Heap} {L I : Addr} {news : List (Addr × Obj)} (N : News h₀ L h news) (hI : ∀ p ∈ news, p.1 ≠ I) (hx : Heap.ExtBut I h h') : News h₀ L h' news :=
  fun p hp => ⟨hx _ _ (hI p hp) (N p hp).1, (N p hp).2⟩
/-- an end that the walk leaves alone -/
def EndS (f : Flow) (P : Prop) : Prop := f = .next ∧ P
def Hold (P : Prop) : Prop := P
abbrev FM := Str → Option Value
abbrev NL := List (Addr × Obj)
section
variable {prog : Program} {w : World} {A : Around} {E : Value → Shared → Prop} {s : Shared} {env : Env} {h₀ : Heap} {target : Expr} {body : List Stmt} {R : Result → Shared → Prop}
/-- a turn's end -/
def TurnJ (h₀ : Heap) (L it : Addr) (oi : Obj) (J : FM → NL → Prop) (s s₃ : Shared) : Prop :=
  ∃ h' tk' m' news', s₃ = { s with heap := h', toks := tk' } ∧ Fr h₀ L h' m' ∧ News h₀ L h' ((it, oi) :: news') ∧ (∀ p ∈ news', p.1 ≠ it) ∧ J m' news'
theorem loopList {l : Addr} {vs : List Value} {news₀ : NL} {m₀ : FM} (J : Nat → FM → NL → Prop) (hh : A.handled = none)
    (hl : ∀ i h m news, Fr h₀ env.locals h m → News h₀ env.locals h news → J i m news → h.IsList l vs.toArray)
    (F : Fr h₀ env.locals s.heap m₀) (N : News h₀ env.locals s.heap news₀) (hj : J 0 m₀ news₀)
    (go : ∀ i v it (E' : Value → Shared → Prop) (s : Shared) (Q : Unit → Shared → Prop), vs[i]? = some v → s.heap.IsListIter it l (i + 1) → Q () s → wpAny (model prog w) A (letOwnedTupleGo target (.ref it) v) Q E' s)
    (turn : ∀ i v m h tk it oi news (E' : Value → Shared → Prop), vs[i]? = some v → J i m news → Fr h₀ env.locals h m → News h₀ env.locals h ((it, oi) :: news) → (∀ p ∈ news, p.1 ≠ it) →
      wpAny (model prog w) A (assign target env v) (fun _ s₂ => wpAny (model prog w) A (execs body env) (fun f s₃ => EndS f (TurnJ h₀ env.locals it oi (J (i + 1)) s s₃)) E' s₂) E' { s with heap := h, toks := tk })
    (done : ∀ m h tk news, J vs.length m news → Fr h₀ env.locals h m → News h₀ env.locals h news → R (.ok .next) { s with heap := h, toks := tk }) :
    wpAny (model prog w) A (pyIter (.ref l)) (fun it s₂ => codeAny (model prog w) A (.forLoop target it body [] env) R s₂) E s := by
  refine wpAny_pyIter_list (hl 0 _ _ _ F N hj) ?_
  have hIL : env.locals ≠ s.heap.objs.size := Nat.ne_of_lt F.ns.lt
  have hI0 : h₀.get? s.heap.objs.size = none := next_is_new F
  have hIN : ∀ p ∈ news₀, p.1 ≠ s.heap.objs.size := fun p hp => Nat.ne_of_lt (Heap.lt_size (N p hp).1)
  refine codeAny_forLoop_any (fun n s' => ∃ i m h tk news, i ≤ vs.length ∧ n = vs.length - i ∧ s' = { s with heap := h, toks := tk } ∧ h.IsListIter s.heap.objs.size l i ∧ Fr h₀ env.locals h m ∧ News h₀ env.locals h news ∧ (∀ p ∈ news, p.1 ≠ s.heap.objs.size) ∧ J i m news) ?_ vs.length
    ⟨0, m₀, _, s.toks, news₀, Nat.zero_le _, rfl, rfl, ⟨_, Heap.get?_push_size _ rfl, rfl, rfl⟩, F.push _, fun p hp => ⟨Heap.get?_push_of_some _ (N p hp).1, (N p hp).2⟩, hIN, hj⟩
  rintro n s' ⟨i, m, h, tk, news, hi, rfl, rfl, hit, F₁, N₁, hne, hJ⟩
  have hl₁ : h.IsList l vs.toArray := hl i _ _ _ F₁ N₁ hJ
  by_cases he : i < vs.length
  · refine wpAny_pyNext_list_item (s := { s with heap := h, toks := tk }) hit hl₁ (x := vs[i]) (by simp [he]) fun h' hit' hs' => ?_
    have F₂ := frOff F₁ hIL hI0 hs'.extBut
    have N₂ := newsOff N₁ hne hs'.extBut
    obtain ⟨oi, hoi, hoc, hod⟩ := id hit'
    have N₃ : News h₀ env.locals h' ((s.heap.objs.size, oi) :: news) := by
      intro p hp
      rcases List.mem_cons.mp hp with rfl | hp
      · exact ⟨hoi, Ne.symm hIL, hI0⟩
      · exact N₂ p hp
    refine go i _ _ _ _ _ (by simp [he]) hit' ?_
    refine wpAny_mono (turn i vs[i] m h' tk s.heap.objs.size oi news _ (by simp [he]) hJ F₂ N₃ hne) (fun _ s₂ q => wpAny_mono q (fun f s₃ q => ?_) fun _ _ e => e) fun _ _ e => e
    obtain ⟨rfl, h₅, tk₅, m₅, news₅, e, F₅, N₅, hne₅, hJ₅⟩ := q
    exact ⟨vs.length - (i + 1), by omega, i + 1, m₅, h₅, tk₅, news₅, by omega, rfl, e, ⟨oi, (N₅ _ (.head _)).1, hoc, hod⟩, F₅, fun p hp => N₅ p (.tail _ hp), hne₅, hJ₅⟩
  · refine wpAny_pyNext_list_end (s := { s with heap := h, toks := tk }) hh hit hl₁ (by simp; omega) fun h' he' => ?_
    have e : i = vs.length := by omega
    subst e
    exact wpAny_execs_nil (done m h' tk news hJ (frOff F₁ hIL hI0 he') (newsOff N₁ hne he'))
end
end Mine
namespace Mine
open PySem.Calls
/-- one entry of the row: place, way, sign -/
abbrev Ent := Int × Int × Nat
/-- one piece: place, way, text -/
abbrev Grp := Int × Int × List Nat
/-- the pieces, the last one first -/
def stepG : List Grp → Ent → List Grp
  | (p, w, t) :: r, e => if p = e.1 then (p, w, t ++ [e.2.2]) :: r else (e.1, e.2.1, [e.2.2]) :: (p, w, t) :: r
  | [], e => [(e.1, e.2.1, [e.2.2])]
inductive Grps : NL → List Grp → Prop where
  | nil : Grps [] []
  | cons {q : Addr} {pl wy : Int} {tx : List Nat} {t1 t2 t3 : Tok} {n : Nat} {gn : NL} {gs : List Grp} : (∀ c ∈ tx, c < 1114112) → (∀ p ∈ gn, p.1 ≠ q) → Grps gn gs →
      Grps ((q, listOf #[.int pl t1, .int wy t2, .str ⟨tx.toArray⟩ t3] n) :: gn) ((pl, wy, tx) :: gs)
def refsG : NL → Array Value
  | [] => #[]
  | p :: r => (refsG r).push (.ref p.1)
theorem refsG_size : ∀ gn : NL, (refsG gn).size = gn.length
  | [] => rfl
  | _ :: r => by rw [refsG, Array.size_push, refsG_size r, List.length_cons]
abbrev dat (g : Grp) : PyData := .list [.int g.1, .int g.2.1, .str ⟨g.2.2.toArray⟩]
theorem readsAll_app {h : Heap} : ∀ {vs ws : List Value} {ds es : List PyData} {as bs : List Addr}, ReadsAll h vs ds as → ReadsAll h ws es bs → ∃ cs, ReadsAll h (vs ++ ws) (ds ++ es) cs
  | [], _, _, _, _, _, .nil, b => ⟨_, b⟩
  | _ :: _, _, _, _, _, _, .cons a r, b => let ⟨_, c⟩ := readsAll_app r b; ⟨_, .cons a c⟩
theorem Grps.reads {h₀ h : Heap} {L : Addr} {gn : NL} {gs : List Grp} (G : Grps gn gs) (N : News h₀ L h gn) : ∃ as, ReadsAll h (refsG gn).toList (gs.reverse.map dat) as := by
  induction G with
  | nil => exact ⟨_, .nil⟩
  | @cons q pl wy tx t1 t2 t3 n gn gs hc hq _ ih =>
    obtain ⟨as, r⟩ := ih fun p hp => N p (.tail _ hp)
    have one : ReadsAll h [Value.ref q] [dat (pl, wy, tx)] _ := .cons (reads_list_at (N _ (.head _)).1 rfl rfl (.cons (Reads.int _ _) (.cons (Reads.int _ _) (.cons (Reads.str _ _) .nil)))) .nil
    obtain ⟨cs, x⟩ := readsAll_app r one
    refine ⟨cs, ?_⟩
    rw [refsG, Array.toList_push, List.reverse_cons, List.map_append]
    exact x
theorem Grps.ok {gn : NL} {gs : List Grp} (G : Grps gn gs) : ∀ g ∈ gs, ∀ c ∈ g.2.2, c < 1114112 := by
  induction G with
  | nil => intro g hg; cases hg
  | cons hc _ _ ih =>
    intro g hg
    rcases List.mem_cons.mp hg with rfl | hg
    · exact hc
    · exact ih g hg
theorem shaped_grps (gs : List Grp) (h : ∀ g ∈ gs, ∀ c ∈ g.2.2, c < 1114112) : SeqAt.shaped (.list (gs.map dat)) = true := by
  have a : ∀ gs : List Grp, (∀ g ∈ gs, ∀ c ∈ g.2.2, c < 1114112) → PyData.canLayAll0 (gs.map dat) = true ∧ PyData.depthAll (gs.map dat) ≤ 1 := by
    intro gs
    induction gs with
    | nil => intro _; exact ⟨rfl, by simp [PyData.depthAll]⟩
    | cons g r ih =>
      intro h
      obtain ⟨i1, i2⟩ := ih fun g hg => h g (.tail _ hg)
      have ok : PyData.strOk ⟨g.2.2.toArray⟩ = true := by
        unfold PyData.strOk
        simpa using h g (.head _)
      refine ⟨?_, ?_⟩
      · simp only [List.map_cons, PyData.canLayAll0, PyData.canLay0, ok, i1, Bool.and_self]
      · simp only [List.map_cons, PyData.depthAll, PyData.depth]
        simp only [Nat.max_self, Nat.zero_add]
        omega
  obtain ⟨a1, a2⟩ := a gs h
  unfold SeqAt.shaped
  simp only [PyData.canLay0, a1, PyData.depth, Bool.true_and]
  exact decide_eq_true (by omega)
section
variable {prog : Program} {w : World} {A : Around} {E : Value → Shared → Prop} {s : Shared} {h₀ : Heap} {L P Z : Addr} {gn : NL} {gs : List Grp} {n : Nat}
theorem neNil {Q : Value → Shared → Prop} (hP : s.heap.get? P = some (listOf (refsG gn) n)) (N : News h₀ L s.heap gn) (G : Grps gn gs) (hZ : s.heap.IsList Z #[]) (hu : A.units + 64 < cLine) (h : Q (.bool (!gn.isEmpty)) s) :
    wpAny (model prog w) A (compareOp .NotEq (.ref P) (.ref Z)) Q E s := by
  obtain ⟨as, r⟩ := G.reads N
  obtain ⟨oz, hz, hzc, nz, hzd⟩ := hZ
  refine ne_dataH (reads_list_at hP rfl rfl r) (reads_list_at hz hzc hzd .nil) (shaped_grps _ fun g hg => G.ok g (List.mem_reverse.mp hg)) (by decide) hu ?_
  have e : (!PyData.eqv (.list (gs.reverse.map dat)) (.list [])) = !gn.isEmpty := by
    congr 1
    cases G with
    | nil => simp [PyData.eqv, PyData.eqvAll]
    | cons _ _ _ =>
      rw [List.reverse_cons, List.map_append]
      cases (List.map dat (List.reverse _)) <;> simp [PyData.eqv, PyData.eqvAll]
  rw [e]; exact h
theorem lastG {value slice : Expr} {its : Array Value} {v : Value} {u : Tok} {Q : Value → Shared → Prop} (hP : s.heap.get? P = some (listOf (its.push v) n)) (h : Q v s)
    (hs : subscripted slice false (.ref P) (.int (-1) u) = operate [.ref P, .int (-1) u] (getItem (.ref P) (.int (-1) u)) := by with_unfolding_all rfl) :
    wpAny (model prog w) A (subscriptTail value slice (.ref P) (.int (-1) u)) Q E s := by
  have hl : s.heap.IsList P (its.push v) := ⟨_, hP, rfl, _, rfl⟩
  refine subscriptTail_builtinR hl.typeIs slot_list_getitem.lookup (wpAny_getItem_list_neg (Q := fun r s' => r = v ∧ Q r s') hl (by decide) (by rw [Array.size_push]; omega) (by decide) ?_ ⟨rfl, h⟩) hs
  have : ((-1 : Int) + ((its.push v).size : Int)).toNat = its.size := by rw [Array.size_push]; omega
  rw [this]
  simp
theorem neNilC {q : Addr} {o : Obj} {r : NL} {pre : Addr × Obj} {Q : Value → Shared → Prop} (N : News h₀ L s.heap ((Z, listOf #[] 0) :: pre :: (P, listOf ((refsG r).push (.ref q)) n) :: (q, o) :: r)) (G : Grps ((q, o) :: r) gs) (hu : A.units + 64 < cLine) (h : Q (.bool true) s) :
    wpAny (model prog w) A (compareOp .NotEq (.ref P) (.ref Z)) Q E s :=
  neNil (gn := (q, o) :: r) (N _ (.tail _ (.tail _ (.head _)))).1 (fun p hp => N p (.tail _ (.tail _ (.tail _ hp)))) G ⟨_, (N _ (.head _)).1, rfl, _, rfl⟩ hu h
theorem setFin {z it q : Addr} {zo oi : Obj} {a b c x : Value} {t : Tok} {n' : Nat} {r : NL} {m : FM} {Q : Unit → Shared → Prop} (F : Fr h₀ L s.heap m) (N : News h₀ L s.heap ((z, zo) :: (it, oi) :: (P, listOf ((refsG r).push (.ref q)) n) :: (q, listOf #[a, b, c] n') :: r))
    (h1 : z ≠ q) (h2 : it ≠ q) (h3 : P ≠ q) (h4 : ∀ p ∈ r, p.1 ≠ q) (h : ∀ h', Fr h₀ L h' m → News h₀ L h' ((it, oi) :: (P, listOf (refsG ((q, listOf #[a, b, x] n') :: r)) n) :: (q, listOf #[a, b, x] n') :: r) → Q () { s with heap := h' }) :
    wpAny (model prog w) A (setItem (.ref q) (.int 2 t) x) Q E s := by
  have y := N (q, listOf #[a, b, c] n') (.tail _ (.tail _ (.tail _ (.head _))))
  refine ki_setAt y.1 (by decide) (by decide) (show (2 : Int) < ((3 : Nat) : Int) by decide) (h _ (F.change (Heap.SameBut.update ..) y.2.1 y.2.2) ?_)
  have k := ki_turn (pre := [(z, zo), (it, oi), (P, listOf ((refsG r).push (.ref q)) n)]) (post := r) (its' := #[a, b, x]) (n' := n') (fun l => l.setIfInBounds (2 : Int).toNat x) N
    (fun p hp => by
      rcases List.mem_cons.mp hp with rfl | hp
      · exact h1
      · rcases List.mem_cons.mp hp with rfl | hp
        · exact h2
        · rw [List.mem_singleton.mp hp]; exact h3) h4 rfl rfl
  exact fun p hp => k p (.tail _ hp)
theorem appFin {z it e : Addr} {zo oi eo : Obj} {gn : NL} {m : FM} {Q : Value → Shared → Prop} (F : Fr h₀ L s.heap m) (N : News h₀ L s.heap ((e, eo) :: (z, zo) :: (it, oi) :: (P, listOf (refsG gn) n) :: gn))
    (h0 : e ≠ P) (h1 : z ≠ P) (h2 : it ≠ P) (h4 : ∀ p ∈ gn, p.1 ≠ P) (hsz : gn.length ≤ 64) (h : ∀ h', Fr h₀ L h' m → News h₀ L h' ((it, oi) :: (P, listOf (refsG ((e, eo) :: gn)) (n + 1)) :: (e, eo) :: gn) → Q .none { s with heap := h' }) :
    wpAny (model prog w) A (call (.builtin "list.append") [.ref P, .ref e]) Q E s := by
  refine append_K F N (.tail h0 (.tail h1 (.tail h2 (.head h4)))) (fun h' F' N' => h h' F' fun p hp => ?_) (by rw [refsG_size]; exact Nat.le_trans hsz (by decide))
  rcases List.mem_cons.mp hp with rfl | hp
  · exact N' _ (.tail _ (.tail _ (.head _)))
  · rcases List.mem_cons.mp hp with rfl | hp
    · exact N' _ (.tail _ (.tail _ (.tail _ (.head _))))
    · rcases List.mem_cons.mp hp with rfl | hp
      · exact N' _ (.head _)
      · exact N' _ (.tail _ (.tail _ (.tail _ (.tail _ hp))))
theorem lastN {value slice : Expr} {its : Array Value} {v : Value} {u : Tok} {news : NL} {Q : Value → Shared → Prop} (N : News h₀ L s.heap news) (hm : (P, listOf (its.push v) n) ∈ news) (h : Q v s)
    (hs : subscripted slice false (.ref P) (.int (-1) u) = operate [.ref P, .int (-1) u] (getItem (.ref P) (.int (-1) u)) := by with_unfolding_all rfl) :
    wpAny (model prog w) A (subscriptTail value slice (.ref P) (.int (-1) u)) Q E s := lastG (N _ hm).1 h hs
end
end Mine
namespace Mine
open PySem.Calls
section
variable {M : Model} {A : Around} {E : Value → Shared → Prop} {s : Shared} {env : Env} {st : Stmt} {rest : List Stmt} {Q : Flow → Shared → Prop}
theorem execs_seq (h : wpAny M A (exec st env) (fun f s' => EndS f (Hold (wpAny M A (execs rest env) Q E s'))) E s) : wpAny M A (execs (st :: rest) env) Q E s :=
  wpAny_execs_cons (wpAny_mono h (fun f s' q => by obtain ⟨rfl, q⟩ := q; exact q) fun _ _ e => e)
end
/-- m with one name set -/
abbrev put (m : FM) (x : String) (v : Value) : FM := fun y => if y = Str.ofString x then some v else m y
theorem put_same {m : FM} {x : String} {v : Value} (h : m (Str.ofString x) = some v) : m = put m x v := by
  funext y
  unfold put
  by_cases e : y = Str.ofString x
  · rw [if_pos e, e, h]
  · rw [if_neg e]
/-- the row's items -/
inductive RowIs (h : Heap) : List Value → List Ent → Prop where
  | nil : RowIs h [] []
  | cons {a : Addr} {pl wy : Int} {c : Nat} {t1 t2 t3 : Tok} {vs : List Value} {es : List Ent} : IsTup h a #[.int pl t1, .int wy t2, .str ⟨#[c]⟩ t3] → c < 1114112 → RowIs h vs es → RowIs h (.ref a :: vs) ((pl, wy, c) :: es)
theorem RowIs.length {h : Heap} {vs : List Value} {es : List Ent} (r : RowIs h vs es) : vs.length = es.length := by
  induction r with
  | nil => rfl
  | cons _ _ _ ih => simp [ih]
theorem RowIs.get {h : Heap} {vs : List Value} {es : List Ent} (r : RowIs h vs es) : ∀ {i : Nat} {v : Value}, vs[i]? = some v → ∃ a pl wy c t1 t2 t3, v = .ref a ∧ es[i]? = some (pl, wy, c) ∧ IsTup h a #[.int pl t1, .int wy t2, .str ⟨#[c]⟩ t3] ∧ c < 1114112 := by
  induction r with
  | nil => intro i v e; simp at e
  | @cons a pl wy c t1 t2 t3 vs es ht hc _ ih =>
    intro i v e
    cases i with
    | zero => simp at e; exact ⟨a, pl, wy, c, t1, t2, t3, e.symm, rfl, ht, hc⟩
    | succ i => simp at e; simpa using ih e
theorem allLt_mem {d : Nat} {l : NL} (h : AllLt d l) : ∀ p ∈ l, p.1 < d := by
  induction l with
  | nil => intro p hp; exact absurd hp List.not_mem_nil
  | cons a r ih =>
    intro p hp
    rcases List.mem_cons.mp hp with e | hp
    · rw [e]; exact h.1
    · exact ih h.2 p hp
theorem txt_snoc (tx : List Nat) (c : Nat) : (⟨tx.toArray⟩ : Str) ++ (⟨#[c]⟩ : Str) = ⟨(tx ++ [c]).toArray⟩ := by
  refine Str.ext' ?_
  rw [Str.cps_append]
  exact List.append_toArray tx [c]
def groups (es : List Ent) : List Grp := es.foldl stepG []
theorem groups_snoc (es : List Ent) (e : Ent) : groups (es ++ [e]) = stepG (groups es) e := by simp [groups]
theorem stepG_len {k : Nat} {gs : List Grp} (e : Ent) (h : ∀ g ∈ gs, g.2.2.length ≤ k) : ∀ g ∈ stepG gs e, g.2.2.length ≤ k + 1 := by
  intro g hg
  cases gs with
  | nil =>
    rw [show stepG [] e = [(e.1, e.2.1, [e.2.2])] from rfl] at hg
    rw [List.mem_singleton.mp hg]; simp
  | cons p r =>
    obtain ⟨p1, p2, p3⟩ := p
    have hp := h _ (.head _)
    rw [show stepG ((p1, p2, p3) :: r) e = if p1 = e.1 then (p1, p2, p3 ++ [e.2.2]) :: r else (e.1, e.2.1, [e.2.2]) :: (p1, p2, p3) :: r from rfl] at hg
    split at hg
    · rcases List.mem_cons.mp hg with rfl | hg
      · simpa using hp
      · have := h g (.tail _ hg); omega
    · rcases List.mem_cons.mp hg with rfl | hg
      · simp
      · have := h g hg; omega
theorem groups_len_aux (es : List Ent) : ∀ (gs : List Grp) (k : Nat), (∀ g ∈ gs, g.2.2.length ≤ k) → ∀ g ∈ es.foldl stepG gs, g.2.2.length ≤ k + es.length := by
  induction es with
  | nil => intro gs k h g hg; exact h g hg
  | cons e r ih =>
    intro gs k h g hg
    have := ih (stepG gs e) (k + 1) (stepG_len e h) g hg
    simp only [List.length_cons]; omega
theorem groups_len (es : List Ent) : ∀ g ∈ groups es, g.2.2.length ≤ es.length := fun g hg => by
  have := groups_len_aux es [] 0 (fun g hg => by cases hg) g hg
  omega
/-- the answer for a part of the row -/
def asked (es : List Ent) : Bool := (groups es).any fun g => decide (g.2.1 < 3) && g.2.2.any ctl
/-- the loop's own state -/
def JA (es : List Ent) (i : Nat) (m : FM) (news : NL) : Prop :=
  ∃ P n gn, m (Str.ofString "pieces") = some (.ref P) ∧ news = (P, listOf (refsG gn) n) :: gn ∧ (∀ p ∈ gn, p.1 ≠ P) ∧ Grps gn (groups (es.take i)) ∧ gn.length ≤ i
end Mine
namespace Mine
open PySem.Calls PyProof.Rows.LCg
theorem Grps.length {gn : NL} {gs : List Grp} (G : Grps gn gs) : gn.length = gs.length := by
  induction G with
  | nil => rfl
  | cons _ _ _ ih => simp [ih]
theorem Grps.get {gn : NL} {gs : List Grp} (G : Grps gn gs) : ∀ {i : Nat} {v : Value}, (refsG gn).toList[i]? = some v → ∃ q pl wy tx t1 t2 t3 n, v = .ref q ∧ (q, listOf #[.int pl t1, .int wy t2, .str ⟨tx.toArray⟩ t3] n) ∈ gn ∧ gs.reverse[i]? = some (pl, wy, tx) ∧ ∀ c ∈ tx, c < 1114112 := by
  induction G with
  | nil => intro i v e; simp [refsG] at e
  | @cons q pl wy tx t1 t2 t3 n gn gs hc hq G ih =>
    intro i v e
    have hlr : (refsG gn).toList.length = gs.reverse.length := by rw [Array.length_toList, refsG_size, List.length_reverse, G.length]
    rw [refsG, Array.toList_push] at e
    rw [List.reverse_cons]
    by_cases hi : i < (refsG gn).toList.length
    · rw [List.getElem?_append_left hi] at e
      obtain ⟨q', pl', wy', tx', t1', t2', t3', n', a1, a2, a3, a4⟩ := ih e
      exact ⟨q', pl', wy', tx', t1', t2', t3', n', a1, .tail _ a2, by rw [List.getElem?_append_left (by omega)]; exact a3, a4⟩
    · have hi2 : i = (refsG gn).toList.length := by
        have hlt : i < ((refsG gn).toList ++ [Value.ref q]).length := by
          rcases Nat.lt_or_ge i ((refsG gn).toList ++ [Value.ref q]).length with q | q
          · exact q
          · rw [List.getElem?_eq_none q] at e; cases e
        rw [List.length_append, List.length_singleton] at hlt
        omega
      subst hi2
      rw [List.getElem?_append_right (Nat.le_refl _), Nat.sub_self] at e
      refine ⟨q, pl, wy, tx, t1, t2, t3, n, (Option.some.inj e).symm, .head _, ?_, hc⟩
      rw [hlr, List.getElem?_append_right (Nat.le_refl _), Nat.sub_self]
      rfl
/-- a piece in which a control sign is to be found -/
def hot (g : Grp) : Bool := decide (g.2.1 < 3) && g.2.2.any ctl
theorem hot_txt (tx : List Nat) : hasCtl ⟨tx.toArray⟩ = tx.any ctl := by
  unfold hasCtl
  rw [← Array.any_toList]
abbrev tscope : Scope := { kind := ScopeKind.function, names := [(Str.ofString ".0", NameKind.local), (Str.ofString "place", NameKind.local), (Str.ofString "way", NameKind.local), (Str.ofString "text", NameKind.local), (Str.ofString "_law_thing", NameKind.globalImplicit)], isGenerator := false, isCoroutine := false }
theorem kPlace : tscope.names.lookup (Str.ofString "place") = some .local := by decide
theorem kWay : tscope.names.lookup (Str.ofString "way") = some .local := by decide
theorem kText : tscope.names.lookup (Str.ofString "text") = some .local := by decide
theorem cPlace (C : Addr) (env : Env) : (compEnvC tscope [] C env).kindOf (Str.ofString "place") = some .local := lookup_relabel_local kPlace
theorem cWay (C : Addr) (env : Env) : (compEnvC tscope [] C env).kindOf (Str.ofString "way") = some .local := lookup_relabel_local kWay
theorem cText (C : Addr) (env : Env) : (compEnvC tscope [] C env).kindOf (Str.ofString "text") = some .local := lookup_relabel_local kText
theorem cThing (C : Addr) (env : Env) : (compEnvC tscope [] C env).kindOf (Str.ofString "_law_thing") = some .globalImplicit := by rfl
theorem cKind (C : Addr) (env : Env) : ((compEnvC tscope [] C env).scope.kind == .class || ((compEnvC tscope [] C env).scope.kind == .module && (compEnvC tscope [] C env).locals != (compEnvC tscope [] C env).globals)) = false := by rfl
section
variable {w : World} {mean : ExcName → Option Value} {mg mb : Str → Option Value} {A : Around} {E : Value → Shared → Prop} {s : Shared}
theorem StrsTo.snoc {h : Heap} {vs : List Value} {xs : List Str} {v : Value} {x : Str} (S : StrsTo w h vs xs) (a : StrTo w h v x) : StrsTo w h (vs ++ [v]) (xs ++ [x]) := by
  induction S with
  | nil => exact .cons a .nil
  | cons b _ ih => exact .cons b ih
theorem assign3 {prog : Program} {env : Env} {x y z : Str} {px py pz tp : Pos} {kk : Nat} {T : Addr} {a b c : Value} {m : FM} {Q : Unit → Shared → Prop} (hh : A.handled = none) (ht : s.heap.IsList T #[a, b, c])
    (hx : env.kindOf x = some .local) (hy : env.kindOf y = some .local) (hz : env.kindOf z = some .local) (hp : (env.scope.kind == .class || (env.scope.kind == .module && env.locals != env.globals)) = false) (hn : s.heap.Ns env.locals m)
    (h : ∀ (h' : Heap) (tk : Nat), h'.Ns env.locals (fun v => if v = z then some c else if v = y then some b else if v = x then some a else m v) → (∀ d o, d ≠ env.locals → s.heap.get? d = some o → h'.get? d = some o) → Q () { s with heap := h', toks := tk }) :
    wpAny (model prog w) A (assign (.Tuple [.Name x px, .Name y py, .Name z pz] kk tp) env (.ref T)) Q E s := by
  rw [assign_Tuple]
  refine wpAny_bind (wpAny_standAt ?_)
  show wpAny _ A (holding [Value.ref T] (unpackItems (.ref T) (#[a, b, c] : Array Value).size none) >>= fun vs => assignInOrder [assign (.Name x px) env, assign (.Name y py) env, assign (.Name z pz) env] vs) _ _ _
  refine wpAny_bind (wpAny_holding (kun_itemsOf hh ht fun h₁ he₁ => ?_))
  have hL : env.locals ≠ s.heap.objs.size := Nat.ne_of_lt hn.lt
  have hn₁ : h₁.Ns env.locals m := hn.at' fun o e => he₁ _ o hL e
  have up₁ : ∀ c o, s.heap.get? c = some o → h₁.get? c = some o := fun c o e => he₁ c o (Nat.ne_of_lt (Heap.lt_size e)) e
  show wpAny _ _ (assignInOrder [assign (.Name x px) env, assign (.Name y py) env, assign (.Name z pz) env] [a, b, c]) _ _ _
  refine assignInOrder_cons (wpAny_assign_Name (wpAny_storeName_local hx hn₁ (fun h₂ hn₂ hs₂ => ?_) hp))
  refine assignInOrder_cons (wpAny_assign_Name (wpAny_storeName_local hy hn₂ (fun h₃ hn₃ hs₃ => ?_) hp))
  refine assignInOrder_cons (wpAny_assign_Name (wpAny_storeName_local hz hn₃ (fun h₄ hn₄ hs₄ => ?_) hp))
  refine assignInOrder_nil ?_
  exact h h₄ _ hn₄ fun c o hc e => hs₄.extBut c o hc (hs₃.extBut c o hc (hs₂.extBut c o hc (up₁ c o e)))
/-- one piece's thing, made in the block's frame -/
theorem thingElt {cenv : Env} {m₂ : FM} {pl wy : Int} {tx : List Nat} {t2 t3 : Tok} {p0 p1 p2 p3 : Pos} {Q : Value → Shared → Prop} (hh : A.handled = none) (hg : A.guards = some []) (hdp : A.depth ≤ 800) (hun : A.units ≤ 4000) (hk : cenv.scope.kind = .function)
    (k1 : cenv.kindOf (Str.ofString "_law_thing") = some .globalImplicit) (k2 : cenv.kindOf (Str.ofString "text") = some .local) (k3 : cenv.kindOf (Str.ofString "way") = some .local) (hge : cenv.globals = mainGlobals)
    (S : St w mean mg mb s.heap) (hn : s.heap.Ns cenv.locals m₂) (ht : m₂ (Str.ofString "text") = some (.str ⟨tx.toArray⟩ t3)) (hw : m₂ (Str.ofString "way") = some (.int wy t2))
    (h0 : 0 ≤ wy) (hl : tx.length ≤ 100) (hc : ∀ c ∈ tx, c < 1114112)
    (hQ : ∀ h' tk v y, StrTo w (fresh s.heap h') v y → hasCtl y = hot (pl, wy, tx) → s.heap.StaysIn h' → Q v { s with heap := h', toks := tk }) :
    wpAny (model P2 w) A (eval (.Call (.Name (Str.ofString "_law_thing") p0) [.Name (Str.ofString "text") p1, .Name (Str.ofString "way") p2] [] p3) cenv) Q E s := by
  have hm : mg (Str.ofString "_law_thing") = some (.ref 70) := mg_of S.gd.K S.gd.g rfl
  refine wpAny_bind (m := eval (.Name (Str.ofString "_law_thing") p0) cenv) (Calls.Name_function_global hk k1 (Calls.loadGlobal_global (by rw [hge]; exact S.gd.g) hm ?_))
  show wpAny _ A (callWith p3 (.ref 70) [] [(false, eval (.Name (Str.ofString "text") p1) cenv), (false, eval (.Name (Str.ofString "way") p2) cenv)] []) _ _ _
  obtain ⟨o, ho, hd⟩ : ∃ o, s.heap.get? 70 = some o ∧ o.data = .func (fnAt w.params 70) := ⟨_, S.gd.K 70 _ rfl, rfl⟩
  refine Calls.callWith_function (o := o) (fd := fnAt w.params 70) (Calls.evalArgs_plain (Calls.spliced_cons ?_))
  refine wpAny_Name (wpAny_loadName_local hk k2 hn ht ?_) (by decide)
  refine Calls.spliced_cons ?_
  refine wpAny_Name (wpAny_loadName_local hk k3 hn hw ?_) (by decide)
  refine Calls.spliced_nil ⟨⟨ho, hd⟩, ?_⟩
  refine wpAny_call (thingC hh hg hdp hun S h0 (by show tx.toArray.size ≤ 100; simpa using hl) (by simpa using hc) fun h' tk v y a b c => hQ h' tk v y a ?_ c)
  rw [b, hot_txt]; rfl
theorem thingsComp {env : Env} {P : Addr} {n : Nat} {gn : NL} {gs : List Grp} {m : FM} {p0 p1 p2 p3 p4 p5 p6 p7 p8 p9 : Pos} {Q : Value → Shared → Prop} (hh : A.handled = none) (hg : A.guards = some []) (hdp : A.depth ≤ 800) (hun : A.units ≤ 4000)
    (hk : env.scope.kind = .function) (kp : env.kindOf (Str.ofString "pieces") = some .local) (hge : env.globals = mainGlobals) (hcl : closureFor tscope env = pure [])
    (S : St w mean mg mb s.heap) (hn : s.heap.Ns env.locals m) (hm : m (Str.ofString "pieces") = some (.ref P))
    (hP : s.heap.get? P = some (listOf (refsG gn) n)) (hgn : ∀ p ∈ gn, s.heap.get? p.1 = some p.2) (G : Grps gn gs) (hw : ∀ g ∈ gs, 0 ≤ g.2.1) (hl : ∀ g ∈ gs, g.2.2.length ≤ 100) (hlen : gn.length ≤ 100)
    (hQ : ∀ D h' tk vs xs, s.heap.StaysIn h' → h'.get? D = some (lst vs) → StrsTo w h' vs xs → vs.length ≤ 100 → xs.any hasCtl = gs.any hot → Q (.ref D) { s with heap := h', toks := tk }) :
    wpAny (model P2 w) A (eval (.ListComp (.Call (.Name (Str.ofString "_law_thing") p0) [.Name (Str.ofString "text") p1, .Name (Str.ofString "way") p2] [] p3)
      [⟨.Tuple [.Name (Str.ofString "place") p4, .Name (Str.ofString "way") p5, .Name (Str.ofString "text") p6] 0 p7, .Name (Str.ofString "pieces") p8, [], 0⟩] tscope p9) env) Q E s := by
  rw [eval_ListComp]
  refine wpAny_comprehension_free (use := none) rfl (fun _ => rfl) hcl rfl (by decide) ?_
  show wpAny _ A (eval (.Name (Str.ofString "pieces") p8) env) _ _ _
  refine wpAny_Name (wpAny_loadName_local hk kp hn hm ?_) (by decide)
  have hL : s.heap.IsList P (refsG gn) := ⟨_, hP, rfl, _, rfl⟩
  refine wpAny_pyIter_list hL ?_
  refine wpAny_newObj_type (wpAny_newFunctionEnv (by decide) (by intro y hy; simp at hy) (fun h₁ hns₁ hsb₁ => ?_) rfl)
  dsimp only at hns₁ hsb₁ ⊢
  have sz : gs.reverse.length = (refsG gn).toList.length := by simp [refsG_size, G.length]
  have hgl : (refsG gn).toList.length ≤ 100 := by simpa [refsG_size] using hlen
  generalize hI : s.heap.objs.size = I
  generalize hH1 : s.heap.push { cls := .type "list_iterator", data := .fields #[.ref P, .int 0 0] } = H1 at hns₁ hsb₁ ⊢
  have hH1s : H1.objs.size = I + 1 := by rw [← hH1, Heap.size_push, hI]
  generalize hD : H1.objs.size = D at hns₁ hsb₁ ⊢
  generalize hH2 : H1.push { cls := .type "list", dict := none, data := .seq ([] : List Value).toArray } = H2 at hns₁ hsb₁ ⊢
  have hH2s : H2.objs.size = D + 1 := by rw [← hH2, Heap.size_push, hD]
  generalize hC : H2.objs.size = C at hns₁ hsb₁ ⊢
  have nI : s.heap.get? I = none := Heap.get?_none_of_le (by omega)
  have nD : s.heap.get? D = none := Heap.get?_none_of_le (by omega)
  have nC : s.heap.get? C = none := Heap.get?_none_of_le (by omega)
  have k1 : ∀ b o, H1.get? b = some o → h₁.get? b = some o := fun b o e => hsb₁.extBut b o (Nat.ne_of_lt (Nat.lt_of_lt_of_le (Heap.lt_size e) (show H1.objs.size ≤ C by omega))) (Heap.get?_push_of_some _ (hH2 ▸ Heap.get?_push_of_some _ e))
  have k0 : ∀ b o, s.heap.get? b = some o → h₁.get? b = some o := fun b o e => k1 b o (hH1 ▸ Heap.get?_push_of_some _ e)
  have e1 : h₁.get? I = some { cls := .type "list_iterator", data := .fields #[.ref P, .int 0 0] } := k1 _ _ (by rw [← hH1, ← hI]; exact Heap.get?_push_size _ rfl)
  have e2 : h₁.get? D = some (lst []) := hsb₁.extBut _ _ (show (D : Nat) ≠ C by omega) (Heap.get?_push_of_some _ (by rw [← hH2, ← hD]; exact Heap.get?_push_size _ rfl))
  have hDI : (D : Nat) ≠ I := by omega
  have hCI : (C : Nat) ≠ I := by omega
  have hCD : (C : Nat) ≠ D := by omega
  clear hI hH1s hD hH2s hC hsb₁ k1 hH1 hH2
  have loop : ∀ tk, codeAny (model P2 w) A (.compLoop (.ListComp (.Call (.Name (Str.ofString "_law_thing") p0) [.Name (Str.ofString "text") p1, .Name (Str.ofString "way") p2] [] p3)
      [⟨.Tuple [.Name (Str.ofString "place") p4, .Name (Str.ofString "way") p5, .Name (Str.ofString "text") p6] 0 p7, .Name (Str.ofString "pieces") p8, [], 0⟩] tscope p9) 0 (.ref I) (.ref D) (compEnvC tscope [] C env))
        (compPost (model P2 w) A E none Q (.ref D) C) { s with heap := h₁, toks := tk } := by
    intro tk
    refine kcp_loop (fun k s' => ∃ h' tk i ys xs m', s' = { s with heap := h', toks := tk } ∧ i ≤ (refsG gn).toList.length ∧ k = (refsG gn).toList.length + 1 - i ∧ ys.length = i ∧ s.heap.StaysIn h' ∧ h'.IsListIter I P i ∧ h'.Ns C m' ∧ h'.get? D = some (lst ys) ∧
        StrsTo w (hideAll h' [I, C, D]) ys xs ∧ xs.any hasCtl = (gs.reverse.take i).any hot) ?_ ((refsG gn).toList.length + 1)
      ⟨h₁, tk, 0, [], [], _, rfl, Nat.zero_le _, rfl, rfl, k0, ⟨_, e1, rfl, rfl⟩, hns₁, e2, .nil, rfl⟩
    rintro k s' ⟨h', tk, i, ys, xs, m', rfl, hi, rfl, hyl, hst, hit, hns, hDl, hss, hxs⟩
    have hL' : h'.IsList P (refsG gn) := hL.at fun o e => hst _ _ e
    by_cases hlt : i < (refsG gn).toList.length
    · have hv : (refsG gn).toList[i]? = some ((refsG gn).toList[i]) := List.getElem?_eq_getElem hlt
      generalize (refsG gn).toList[i] = v at hv
      obtain ⟨q, pl, wy, tx, t1, t2, t3, n', rfl, hq, hgi, hc⟩ := G.get hv
      have hgm : (pl, wy, tx) ∈ gs := List.mem_reverse.mp (List.mem_of_getElem? hgi)
      refine wpAny_pyNext_list_item (s := { s with heap := h', toks := tk }) hit hL' (x := .ref q) (by simpa using hv) fun h₂ hit₂ hs₂ => ?_
      refine wpAny_letOwnedTupleGo_listiter (s := { s with heap := h₂, toks := tk }) hit₂ ?_
      have neI : ∀ b o, s.heap.get? b = some o → b ≠ I := fun b o e q => by rw [q, nI] at e; cases e
      have neC : ∀ b o, s.heap.get? b = some o → b ≠ C := fun b o e q => by rw [q, nC] at e; cases e
      have neD : ∀ b o, s.heap.get? b = some o → b ≠ D := fun b o e q => by rw [q, nD] at e; cases e
      have st₂ : s.heap.StaysIn h₂ := fun b o e => hs₂.extBut b o (neI b o e) (hst b o e)
      have hns₂ : h₂.Ns C m' := hns.sameBut hs₂ hCI
      have hql : h₂.IsList q #[.int pl t1, .int wy t2, .str ⟨tx.toArray⟩ t3] := ⟨_, st₂ _ _ (hgn _ hq), rfl, _, rfl⟩
      refine assign3 (s := { s with heap := h₂, toks := tk }) (env := compEnvC tscope [] C env) hh hql (cPlace C env) (cWay C env) (cText C env) (cKind C env) hns₂ fun h₆ tk₆ hns₆ up₆ => ?_
      have st₆ : s.heap.StaysIn h₆ := fun b o e => up₆ b o (neC b o e) (st₂ b o e)
      obtain ⟨oC, heC, hoC⟩ := ns_obj hns₆
      have S₆ := S.keeps st₆
      obtain ⟨oI, heI, hIc, hId⟩ := id hit₂
      refine thingElt (s := { s with heap := h₆, toks := tk₆ }) (cenv := compEnvC tscope [] C env) (pl := pl) (wy := wy) (tx := tx) (t2 := t2) (t3 := t3) hh hg hdp hun rfl (cThing C env) (cText C env) (cWay C env) hge S₆ hns₆ (if_pos rfl) ((if_neg (by decide)).trans (if_pos rfl)) (hw _ hgm) (hl _ hgm) hc fun h₇ tk₇ v y hst₇ hy k₇ => ?_
      have hD₇ : h₇.get? D = some (lst ys) := k₇ _ _ (up₆ _ _ (Ne.symm hCD) (hs₂.extBut _ _ hDI hDl))
      refine append_at (s := { s with heap := h₇, toks := tk₇ }) (hsz := by show ys.toArray.size ≤ sizeLine; rw [List.size_toArray, hyl, sizeLine_eq]; omega) hD₇ fun h₈ hs₈ hD₈ => ?_
      refine ⟨_, by omega, h₈, tk₇, i + 1, ys ++ [v], xs ++ [y], _, rfl, hlt, rfl, by rw [List.length_append, List.length_singleton, hyl], fun b o e => hs₈.extBut b o (neD b o e) (k₇ b o (st₆ b o e)), ⟨oI, hs₈.extBut _ _ (Ne.symm hDI) (k₇ _ _ (up₆ _ _ (Ne.symm hCI) heI)), hIc, hId⟩, (hoC.ns (k₇ _ _ heC)).sameBut hs₈ hCD, hD₈.trans (congrArg some (lst_snoc ys v)), ?_, ?_⟩
      · refine StrsTo.snoc (hss.off fun b o _ e => ?_) (hst₇.off fun b o _ e => ?_)
        · have hb : b ∉ [I, C, D] := fun q => by rw [hideAll_none _ q] at e; cases e
          refine hideAll_get _ ?_ hb
          simp only [List.mem_cons, List.not_mem_nil, or_false, not_or] at hb
          exact hs₈.extBut b o hb.2.2 (k₇ b o (up₆ b o hb.2.1 (hs₂.extBut b o hb.1 (of_hideAll _ e))))
        · obtain ⟨f1, f2⟩ := of_fresh e
          have bad : ∀ c o', h₆.get? c = some o' → b ≠ c := fun c o' e' q => by
            have f3 : h₆.get? b = none := f2
            rw [q, e'] at f3; cases f3
          have hb : b ∉ [I, C, D] := fun q => by
            simp only [List.mem_cons, List.not_mem_nil, or_false] at q
            rcases q with q | q | q
            · exact bad _ _ (up₆ _ _ (Ne.symm hCI) heI) q
            · exact bad _ _ heC q
            · exact bad _ _ (up₆ _ _ (Ne.symm hCD) (hs₂.extBut _ _ hDI hDl)) q
          refine hideAll_get _ ?_ hb
          simp only [List.mem_cons, List.not_mem_nil, or_false, not_or] at hb
          exact hs₈.extBut b o hb.2.2 f1
      · rw [List.any_append, hxs, List.take_add_one, hgi, List.any_append]
        simp [hy]
    · have hin : i = (refsG gn).toList.length := by omega
      refine wpAny_pyNext_list_end (s := { s with heap := h', toks := tk }) hh hit hL' (by simpa using Nat.not_lt.mp hlt) fun h₂ he₂ => ?_
      have hC₂ : h₂.Ns C m' := hns.at' fun o e => he₂ _ _ hCI e
      refine ⟨m', hC₂, fun h₃ hs₃ => ?_⟩
      refine hQ D h₃ tk ys xs (fun b o e => ?_) ?_ ?_ (by omega) ?_
      · exact hs₃.extBut b o (fun q => by rw [q, nC] at e; cases e) (he₂ b o (fun q => by rw [q, nI] at e; cases e) (hst b o e))
      · exact hs₃.extBut _ _ (Ne.symm hCD) (he₂ _ _ hDI hDl)
      · refine hss.off fun b o _ e => ?_
        have hb : b ∉ [I, C, D] := fun q => by rw [hideAll_none _ q] at e; cases e
        simp only [List.mem_cons, List.not_mem_nil, or_false, not_or] at hb
        exact hs₃.extBut b o hb.2.1 (he₂ b o hb.1 (of_hideAll _ e))
      · rw [hxs, hin, ← sz, List.take_length, List.any_reverse]
  exact codeAny_compStart_list (loop _) (wpAny_pyIter_listiter (s := { s with heap := h₁, toks := _ }) ⟨_, e1, rfl, rfl⟩ (loop _))
end
end Mine
namespace Mine
open PySem.Calls
theorem stepG_way {gs : List Grp} {e : Ent} (h : ∀ g ∈ gs, 0 ≤ g.2.1) (he : 0 ≤ e.2.1) : ∀ g ∈ stepG gs e, 0 ≤ g.2.1 := by
  intro g hg
  cases gs with
  | nil =>
    rw [show stepG [] e = [(e.1, e.2.1, [e.2.2])] from rfl] at hg
    rw [List.mem_singleton.mp hg]; exact he
  | cons p r =>
    obtain ⟨p1, p2, p3⟩ := p
    have hp := h _ (.head _)
    rw [show stepG ((p1, p2, p3) :: r) e = if p1 = e.1 then (p1, p2, p3 ++ [e.2.2]) :: r else (e.1, e.2.1, [e.2.2]) :: (p1, p2, p3) :: r from rfl] at hg
    split at hg
    · rcases List.mem_cons.mp hg with rfl | hg
      · exact hp
      · exact h g (.tail _ hg)
    · rcases List.mem_cons.mp hg with rfl | hg
      · exact he
      · exact h g hg
theorem groups_way {es : List Ent} (h : ∀ e ∈ es, 0 ≤ e.2.1) : ∀ g ∈ groups es, 0 ≤ g.2.1 := by
  have : ∀ (es : List Ent) (gs : List Grp), (∀ e ∈ es, 0 ≤ e.2.1) → (∀ g ∈ gs, 0 ≤ g.2.1) → ∀ g ∈ es.foldl stepG gs, 0 ≤ g.2.1 := by
    intro es
    induction es with
    | nil => intro gs _ h; exact h
    | cons e r ih => intro gs h1 h2; exact ih _ (fun x hx => h1 x (.tail _ hx)) (stepG_way h2 (h1 e (.head _)))
  exact this es [] h (fun g hg => by cases hg)
section
variable {w : World} {mean : ExcName → Option Value} {mg mb : Str → Option Value} {A : Around} {E : Value → Shared → Prop} {s : Shared}
theorem hasStar {env : Env} {P : Addr} {n : Nat} {gn : NL} {gs : List Grp} {m : FM} {q0 q1 q2 p0 p1 p2 p3 p4 p5 p6 p7 p8 p9 : Pos} {Q : Value → Shared → Prop} (hh : A.handled = none) (hg : A.guards = some []) (hdp : A.depth ≤ 701) (hun : A.units ≤ 3003)
    (hk : env.scope.kind = .function) (kh : env.kindOf (Str.ofString "_has_control_character") = some .globalImplicit) (kp : env.kindOf (Str.ofString "pieces") = some .local) (hge : env.globals = mainGlobals) (hcl : closureFor tscope env = pure [])
    (S : St w mean mg mb s.heap) (hn : s.heap.Ns env.locals m) (hm : m (Str.ofString "pieces") = some (.ref P))
    (hP : s.heap.get? P = some (listOf (refsG gn) n)) (hgn : ∀ p ∈ gn, s.heap.get? p.1 = some p.2) (G : Grps gn gs) (hw : ∀ g ∈ gs, 0 ≤ g.2.1) (hl : ∀ g ∈ gs, g.2.2.length ≤ 100) (hlen : gn.length ≤ 100)
    (hQ : ∀ s', After s s' → Q (.bool (gs.any hot)) s') :
    wpAny (model P2 w) A (eval (.Call (.Name (Str.ofString "_has_control_character") q0) [.Starred (.ListComp (.Call (.Name (Str.ofString "_law_thing") p0) [.Name (Str.ofString "text") p1, .Name (Str.ofString "way") p2] [] p3)
      [⟨.Tuple [.Name (Str.ofString "place") p4, .Name (Str.ofString "way") p5, .Name (Str.ofString "text") p6] 0 p7, .Name (Str.ofString "pieces") p8, [], 0⟩] tscope p9) q1] [] q2) env) Q E s := by
  have hmg : mg (Str.ofString "_has_control_character") = some (.ref 56) := mg_of S.gd.K S.gd.g rfl
  refine wpAny_bind (m := eval (.Name (Str.ofString "_has_control_character") q0) env) (Calls.Name_function_global hk kh (Calls.loadGlobal_global (by rw [hge]; exact S.gd.g) hmg ?_))
  obtain ⟨o, ho, hd⟩ : ∃ o, s.heap.get? 56 = some o ∧ o.data = .func (fnAt w.params 56) := ⟨_, S.gd.K 56 _ rfl, rfl⟩
  show wpAny _ A (callWith q2 (.ref 56) [] [(true, (do let v ← eval (.ListComp _ _ _ _) env; standAt q2; pure v))] []) _ _ _
  refine Calls.callWith_function (o := o) (fd := fnAt w.params 56) (ks_lone (thingsComp hh hg (by omega) (by omega) hk kp hge hcl S hn hm hP hgn G hw hl hlen fun D h' tk vs xs hst hD hss hvl hx => ?_))
  unfold StarOf notIterableAtAll
  refine wpAny_bind (wpAny_specialOf (s := { s with heap := h', toks := tk }) (⟨_, hD, rfl⟩ : ({ s with heap := h', toks := tk } : Shared).TypeIs (.ref D) "list") PySem.F.slot_list_iter.lookup (wpAny_pure ⟨rfl, ?_⟩))
  refine wpAny_collect_seq (s := { s with heap := h', toks := tk }) D (.inl rfl) hD rfl rfl (fun h'' hk => ?_) (by rw [List.size_toArray, sizeLine_eq]; omega)
  have st : ∀ b o, s.heap.get? b = some o → h''.get? b = some o := fun b o e => hk b o (hst b o e)
  refine ⟨⟨st _ _ ho, hd⟩, wpAny_call (hasC (s := { s with heap := h'', toks := tk }) (vs := vs) (xs := xs) hh hg (by omega) (by omega) (S.keeps st).gd (hss.off (.of hk)) (by rw [sizeLine_eq]; omega) fun s' a => ?_)⟩
  rw [hx]
  exact hQ s' ⟨fun b o nb e => a.off b o nb (st b o e), a.code, a.gens, a.os, a.drawn⟩
end
section
local macro_rules | `(tactic| walk_at "compareOp NotEq ref ref") => `(tactic| (k_here; (with_reducible show wpAny _ _ (compareOp CmpOp.NotEq (Value.ref _) (Value.ref _)) _ _ _); refine neNilC (by assumption) (by assumption) (by show _ + 64 < 9900; dsimp only [Around.deeper]; omega) ?_))
local macro_rules | `(tactic| walk_at "subscriptTail") => `(tactic| (k_here; (with_reducible show wpAny _ _ (subscriptTail _ _ (Value.ref _) (Value.int (-1) _)) _ _ _); refine lastN (by assumption) (by k_mem) ?_))
variable {w : World} {mean : ExcName → Option Value} {mg mb : Str → Option Value} {A : Around} {R : Result → Shared → Prop} {s : Shared}
theorem askedC {l : Addr} {vs : List Value} {es : List Ent} (hA : A.handled = none) (hg : A.guards = some []) (hdp : A.depth ≤ 700) (hun : A.units ≤ 3000) (S : St w mean mg mb s.heap)
    (hl : s.heap.IsList l vs.toArray) (hrow : RowIs s.heap vs es) (hlen : es.length ≤ 64) (hw : ∀ e ∈ es, 0 ≤ e.2.1)
    (hR : ∀ s', After s s' → R (.ok (.ret (.bool (asked es)))) s') : codeAny (model P2 w) A (.call (.ref 75) ⟨[.ref l], []⟩) R s := by
  obtain ⟨ha, d, fr, gd, u⟩ := A
  dsimp only at hA hg hdp hun
  subst hA hg
  have hroom : d < recursionLimit := by show d < 1000; omega
  have KX : (hd2.heap_39 w.params).In s.heap := S.gd.K
  have T := S.T.keeps (h' := s.heap) fun _ _ e => of_hid e
  have hf := KX 75 _ rfl
  have hcd : s.heap.CodeRec (.ref 74) (Str.ofString "_law_asked") := codeRec_of KX (by rfl)
  have hrw : PySem.Challenge.rw_dm0159_02.row.prog = P2 := rfl
  revert hrw KX; k_fill; intro KX hrw; clear hrw
  w_top on
  refine call_fullW (name := Str.ofString "_law_asked") (dV := .none) (kV := .none) hroom hf rfl (Top.nolimit T) hcd (BindsTo.of_eq rfl) (locs rfl) fun h₁ F => ?_
  w_binds F
  have N0 := (News.nil : News _ _ _ []).at F
  refine execs_seq ?_
  k_steps
  rename Fr _ _ _ _ => F1
  rename News _ _ _ _ => N1
  refine ⟨rfl, ?_⟩
  unfold Hold
  refine execs_seq (wpAny_For (ld F1 rfl ?_))
  refine loopList (h₀ := s.heap) (l := l) (vs := vs) (JA es) rfl ?hl F1 N1 ?j0 ?go ?turn ?done
  case hl => exact fun i h m news F _ _ => hl.at fun o e => F.keep _ _ e
  case j0 => exact ⟨_, 0, [], if_pos rfl, rfl, by simp, .nil, Nat.zero_le _⟩
  case go =>
    intro i v it E' s Q hv hit q
    obtain ⟨a, pl, wy, c, t1, t2, t3, rfl, _⟩ := hrow.get hv
    exact wpAny_letOwnedTupleGo_listiter hit q
  case turn =>
    clear F1 N1
    intro i v m h tk it oi news E' hv hJ F N hne
    obtain ⟨a, pl, wy, c, t1, t2, t3, rfl, hei, hT, hc⟩ := hrow.get hv
    obtain ⟨P, n, gn, hm, rfl, hgP, hG, hgl⟩ := hJ
    have hT2 := hT.keeps F.keep
    have hlt : i < es.length := by
      rcases Nat.lt_or_ge i es.length with q | q
      · exact q
      · rw [List.getElem?_eq_none q] at hei; cases hei
    have hstep : groups (es.take (i + 1)) = stepG (groups (es.take i)) (pl, wy, c) := by
      rw [← groups_snoc, List.take_add_one, hei]; rfl
    have em := put_same hm
    have F : Fr s.heap s.heap.objs.size h m := F
    have N : News s.heap s.heap.objs.size h ((it, oi) :: (P, listOf (refsG gn) n) :: gn) := N
    rw [em] at F
    have hPit : P ≠ it := hne _ (.head _)
    have hgl2 := groups_len (es.take i)
    generalize groups (es.take i) = gs0 at hG hstep hgl2
    cases hG' : gn with
    | nil =>
      subst hG'
      cases hG
      k_steps
      rename Fr _ _ _ _ => F2
      rename _ ∧ _ ∧ _ => l2
      rename News _ _ _ (_ :: _ :: _) => N2
      refine appFin (gn := []) F2 N2 (Nat.ne_of_gt l2.2.2) ?z ?i (fun _ h => by cases h) (by decide) fun h' F3 N3 => ?_
      case z => rename _ < _ ∧ _ < _ => l3; exact Nat.ne_of_gt l3.2
      case i => exact Ne.symm (hne _ (.head _))
      k_steps
      refine ⟨rfl, _, _, _, _, rfl, F3, N3, ?_, P, n + 1, _, (if_neg (by decide)).trans ((if_neg (by decide)).trans ((if_neg (by decide)).trans (if_pos rfl))), rfl, ?_, ?_, Nat.le_add_left 1 i⟩
      · intro p hp
        rcases List.mem_cons.mp hp with rfl | hp
        · exact hPit
        · rw [List.mem_singleton.mp hp]; exact Nat.ne_of_gt l2.2.1
      · intro p hp
        rw [List.mem_singleton.mp hp]; exact Nat.ne_of_gt l2.2.2
      · rw [hstep]
        exact .cons (tx := [c]) (fun x hx => by rw [List.mem_singleton.mp hx]; exact hc) (fun _ h => by cases h) .nil
    | cons p r =>
      obtain ⟨q, o⟩ := p
      subst hG'
      rw [show refsG ((q, o) :: r) = (refsG r).push (.ref q) from rfl] at N
      have hqit : q ≠ it := hne _ (.tail _ (.head _))
      have hqP : q ≠ P := hgP _ (.head _)
      have hG0 := hG
      cases hG0 with
      | @cons _ pl' wy' tx t1' t2' t3' n' _ gs hc' hq hG1 =>
        have htx : (⟨tx.toArray⟩ : Str).length ≤ 64 := by
          have := hgl2 _ (.head _)
          rw [List.length_take] at this
          show tx.toArray.size ≤ 64
          simp only [List.size_toArray]
          dsimp only at this
          omega
        k_steps
        · rename Fr _ _ _ _ => F2
          rename _ < _ ∧ _ < _ ∧ _ < _ ∧ AllLt _ _ => l2
          rename News _ _ _ (_ :: _ :: _) => N2
          rename pl' = pl => hpl
          subst hpl
          refine setFin F2 N2 (Nat.ne_of_gt l2.2.2.1) (Ne.symm (hne _ (.tail _ (.head _)))) (Ne.symm (hgP _ (.head _))) hq fun h' F3 N3 => ?_
          k_steps
          refine ⟨rfl, _, _, _, _, rfl, F3, N3, ?_, P, n, _, (if_neg (by decide)).trans ((if_neg (by decide)).trans ((if_neg (by decide)).trans (if_pos rfl))), rfl, ?_, ?_, Nat.le_succ_of_le hgl⟩
          · intro p hp
            rcases List.mem_cons.mp hp with rfl | hp
            · exact hPit
            · rcases List.mem_cons.mp hp with rfl | hp
              · exact hqit
              · exact hne p (.tail _ (.tail _ hp))
          · intro p hp
            rcases List.mem_cons.mp hp with rfl | hp
            · exact hqP
            · exact hgP p (.tail _ hp)
          · rw [hstep, show stepG ((pl', wy', tx) :: gs) (pl', wy, c) = (pl', wy', tx ++ [c]) :: gs from if_pos rfl, txt_snoc]
            exact .cons (fun x hx => by
              rcases List.mem_append.mp hx with hx | hx
              · exact hc' x hx
              · rw [List.mem_singleton.mp hx]; exact hc) hq hG1
        · rename Fr _ _ _ _ => F2
          rename _ < _ ∧ _ < _ ∧ _ < _ ∧ _ < _ ∧ AllLt _ _ => l2
          rename News _ _ _ (_ :: _ :: _) => N2
          rename pl' ≠ pl => hpl
          refine appFin (gn := (q, _) :: r) F2 N2 (Nat.ne_of_gt l2.2.2.1) ?z (Ne.symm (hne _ (.head _))) hgP ?sz fun h' F3 N3 => ?_
          case z => rename _ < _ ∧ _ < _ ∧ _ < _ ∧ AllLt _ _ => l3; exact Nat.ne_of_gt l3.2.1
          case sz =>
            simp only [List.length_cons] at hgl ⊢
            omega
          k_steps
          refine ⟨rfl, _, _, _, _, rfl, F3, N3, ?_, P, n + 1, _, (if_neg (by decide)).trans ((if_neg (by decide)).trans ((if_neg (by decide)).trans (if_pos rfl))), rfl, ?_, ?_, Nat.succ_le_succ hgl⟩
          · intro p hp
            rcases List.mem_cons.mp hp with rfl | hp
            · exact hPit
            · rcases List.mem_cons.mp hp with rfl | hp
              · exact Nat.ne_of_gt l2.2.1
              · exact hne p (.tail _ hp)
          · intro p hp
            rcases List.mem_cons.mp hp with rfl | hp
            · exact Nat.ne_of_gt l2.2.2.1
            · exact hgP p hp
          · rw [hstep, show stepG ((pl', wy', tx) :: gs) (pl, wy, c) = (pl, wy, [c]) :: (pl', wy', tx) :: gs from if_neg hpl]
            exact .cons (tx := [c]) (fun x hx => by rw [List.mem_singleton.mp hx]; exact hc) (fun p hp => by
              rcases List.mem_cons.mp hp with rfl | hp
              · exact Nat.ne_of_lt l2.2.2.2.1
              · exact Nat.ne_of_lt (allLt_mem l2.2.2.2.2 p hp)) hG
  case done =>
    clear F1 N1
    intro m h tk news hJ F N
    refine ⟨rfl, ?_⟩
    unfold Hold
    obtain ⟨P, n, gn, hm, rfl, hgP, hG, hgl⟩ := hJ
    have hvl : vs.length = es.length := hrow.length
    rw [hvl, List.take_length] at hG
    rw [hvl] at hgl
    have S2 : St w mean mg mb h := S.keeps F.keep
    have hmg : mg (Str.ofString "_has_control_character") = some (.ref 56) := mg_of S2.gd.K S2.gd.g rfl
    refine wpAny_execs_cons (wpAny_Return_some ?_)
    exact hasStar (s := { s with heap := h, toks := tk }) (m := m) rfl rfl (by show d + 1 ≤ 701; omega) (by show u + 3 ≤ 3003; omega) rfl rfl rfl rfl rfl S2 F.ns hm (N _ (.head _)).1 (fun p hp => (N p (.tail _ hp)).1) hG (groups_way hw) (fun g hg => by have := groups_len es g hg; omega) (by omega)
      fun s' a => hR s' ⟨fun b o nb e => a.off b o nb (F.keep b o e), a.code, a.gens, a.os, a.drawn⟩
end
end Mine
namespace Mine
open PySem.Calls
/-- an entry whose sign is to be found -/
def due (e : Ent) : Bool := decide (e.2.1 < 3) && ctl e.2.2
/-- a place tells its way -/
def Coh (es : List Ent) : Prop := ∀ e ∈ es, ∀ e' ∈ es, e.1 = e'.1 → e.2.1 = e'.2.1
theorem asked_fold : ∀ (es : List Ent) (gs : List Grp), (∀ g ∈ gs, ∀ e ∈ es, g.1 = e.1 → g.2.1 = e.2.1) → Coh es → (es.foldl stepG gs).any hot = (gs.any hot || es.any due)
  | [], gs, _, _ => by simp
  | e :: r, gs, h1, h2 => by
    have hr : Coh r := fun a ha b hb => h2 a (.tail _ ha) b (.tail _ hb)
    have ne : ∀ e' ∈ r, e.1 = e'.1 → e.2.1 = e'.2.1 := fun e' he => h2 e (.head _) e' (.tail _ he)
    rw [List.foldl_cons]
    cases gs with
    | nil =>
      rw [show stepG [] e = [(e.1, e.2.1, [e.2.2])] from rfl, asked_fold r _ (fun g hg e' he => by rw [List.mem_singleton.mp hg]; exact ne e' he) hr]
      simp [hot, due]
    | cons p gr =>
      obtain ⟨p1, p2, p3⟩ := p
      have h1r : ∀ g ∈ (p1, p2, p3) :: gr, ∀ e' ∈ r, g.1 = e'.1 → g.2.1 = e'.2.1 := fun g hg e' he => h1 g hg e' (.tail _ he)
      rw [show stepG ((p1, p2, p3) :: gr) e = if p1 = e.1 then (p1, p2, p3 ++ [e.2.2]) :: gr else (e.1, e.2.1, [e.2.2]) :: (p1, p2, p3) :: gr from rfl]
      split
      · rename_i hp
        have hw : p2 = e.2.1 := h1 _ (.head _) e (.head _) hp
        rw [asked_fold r _ (fun g hg e' he => by
          rcases List.mem_cons.mp hg with rfl | hg
          · exact h1r (p1, p2, p3) (.head _) e' he
          · exact h1r g (.tail _ hg) e' he) hr]
        simp only [List.any_cons, hot, due, List.any_append, List.any_nil, hw, Bool.or_false, Bool.and_or_distrib_left]
        ac_rfl
      · rw [asked_fold r _ (fun g hg e' he => by
          rcases List.mem_cons.mp hg with rfl | hg
          · exact ne e' he
          · exact h1r g hg e' he) hr]
        simp only [List.any_cons, hot, due, List.any_nil, Bool.or_false]
        ac_rfl
theorem asked_eq {es : List Ent} (h : Coh es) : asked es = es.any due := by
  have := asked_fold es [] (fun g hg => by cases hg) h
  rw [List.any_nil, Bool.false_or] at this
  exact this
theorem Coh.sub {es es' : List Ent} (h : Coh es) (k : ∀ e ∈ es', e ∈ es) : Coh es' := fun a ha b hb => h a (k a ha) b (k b hb)
/-- the part of the row -/
abbrev part (es : List Ent) (lo hi : Nat) : List Ent := (es.drop lo).take (hi - lo)
/-- the places of a part that are to be found -/
def dues (es : List Ent) (lo hi : Nat) : List Nat := (List.range' lo (hi - lo)).filter fun i => match es[i]? with | some e => due e | none => false
theorem dues_split {es : List Ent} {lo mid hi : Nat} (h1 : lo ≤ mid) (h2 : mid ≤ hi) : dues es lo hi = dues es lo mid ++ dues es mid hi := by
  unfold dues
  rw [← List.filter_append]
  congr 1
  have : hi - lo = (mid - lo) + (hi - mid) := by omega
  rw [this, List.range'_append_1.symm]
  congr 2
  omega
theorem part_mem {es : List Ent} {lo hi : Nat} (h : hi ≤ es.length) : ∀ e, e ∈ part es lo hi ↔ ∃ i, lo ≤ i ∧ i < hi ∧ es[i]? = some e := by
  intro e
  unfold part
  rw [List.mem_iff_getElem?]
  constructor
  · rintro ⟨i, hi'⟩
    rw [List.getElem?_take] at hi'
    split at hi'
    · rw [List.getElem?_drop] at hi'
      exact ⟨lo + i, by omega, by omega, hi'⟩
    · cases hi'
  · rintro ⟨i, h1, h2, h3⟩
    refine ⟨i - lo, ?_⟩
    rw [List.getElem?_take, if_pos (by omega), List.getElem?_drop, show lo + (i - lo) = i by omega]
    exact h3
theorem dues_nil {es : List Ent} {lo hi : Nat} (h : hi ≤ es.length) (hn : (part es lo hi).any due = false) : dues es lo hi = [] := by
  unfold dues
  rw [List.filter_eq_nil_iff]
  intro i hi'
  rw [List.mem_range'_1] at hi'
  cases q : es[i]? with
  | none => simp
  | some e =>
    have := List.any_eq_false.mp hn e ((part_mem h e).mpr ⟨i, hi'.1, by omega, q⟩)
    simpa using this
theorem dues_one {es : List Ent} {lo hi : Nat} (h : hi ≤ es.length) (h1 : lo ≤ hi) (h2 : hi - lo < 2) (hn : (part es lo hi).any due = true) : dues es lo hi = [lo] ∧ hi = lo + 1 := by
  obtain ⟨e, he, hd⟩ := List.any_eq_true.mp hn
  obtain ⟨i, a, b, c⟩ := (part_mem h e).mp he
  have e1 : hi = lo + 1 := by omega
  have e2 : i = lo := by omega
  subst e2
  refine ⟨?_, e1⟩
  unfold dues
  rw [e1, show i + 1 - i = 1 by omega]
  simp [c, hd]
theorem dues_whole (es : List Ent) : (dues es 0 es.length ≠ []) ↔ es.any due = true := by
  have hp : part es 0 es.length = es := by simp [part]
  constructor
  · intro h
    cases q : es.any due with
    | true => rfl
    | false => exact absurd (dues_nil (Nat.le_refl _) (by rw [hp]; exact q)) h
  · intro h hn
    obtain ⟨e, he, hd⟩ := List.any_eq_true.mp h
    obtain ⟨i, hi⟩ := List.mem_iff_getElem?.mp he
    have hlt : i < es.length := by
      rcases Nat.lt_or_ge i es.length with q | q
      · exact q
      · rw [List.getElem?_eq_none q] at hi; cases hi
    have : i ∈ dues es 0 es.length := by
      unfold dues
      rw [List.mem_filter, List.mem_range'_1, hi]
      exact ⟨by omega, hd⟩
    rw [hn] at this; cases this
theorem RowIs.mono {h h' : Heap} {vs : List Value} {es : List Ent} (r : RowIs h vs es) (k : ∀ b o, h.get? b = some o → h'.get? b = some o) : RowIs h' vs es := by
  induction r with
  | nil => exact .nil
  | cons a b _ ih => exact .cons (a.keeps k) b ih
theorem RowIs.drop {h : Heap} {vs : List Value} {es : List Ent} (r : RowIs h vs es) : ∀ n, RowIs h (vs.drop n) (es.drop n) := by
  induction r with
  | nil => intro n; simpa using .nil
  | cons a b c ih =>
    intro n
    cases n with
    | zero => exact .cons a b c
    | succ n => simpa using ih n
theorem RowIs.take {h : Heap} {vs : List Value} {es : List Ent} (r : RowIs h vs es) : ∀ n, RowIs h (vs.take n) (es.take n) := by
  induction r with
  | nil => intro n; simpa using .nil
  | cons a b c ih =>
    intro n
    cases n with
    | zero => simpa using .nil
    | succ n => simpa using .cons a b (ih n)
/-- the row, as every call finds it -/
def RowAt (h : Heap) (l : Addr) (es : List Ent) : Prop := ∃ vs, (hid h).IsList l vs.toArray ∧ RowIs (hid h) vs es
theorem RowAt.off {h h' : Heap} {l : Addr} {es : List Ent} (r : RowAt h l es) (k : Off h h') : RowAt h' l es :=
  let ⟨vs, a, b⟩ := r; ⟨vs, a.at fun o e => hid_off k _ _ e, b.mono (hid_off k)⟩
end Mine
namespace Mine
open PySem.Calls
theorem holdCall {M : Model} {A : Around} {E : Value → Shared → Prop} {s : Shared} {f : Value} {vs : List Value} {Q : Value → Shared → Prop} (h : Hold (wpAny M A (call f vs) Q E s)) : wpAny M A (call f vs) Q E s := h
theorem slice_part {vs : List Value} {lo hi : Nat} (h1 : lo ≤ hi) (h2 : hi ≤ vs.length) : slicePick vs.toArray (some (lo : Int)) (some (hi : Int)) none = ((vs.drop lo).take (hi - lo)).toArray := by
  rw [slicePick_run vs.toArray lo hi (by simpa using h2) h1]
  try simp
section
variable {w : World} {mean : ExcName → Option Value} {mg mb : Str → Option Value} {s : Shared} {L : Addr} {m : FM} {h : Heap} {ps : Array Value} {r : NL}
theorem offOf (F : Fr (hid s.heap) L h m) : Off s.heap h := off_of F.keep
theorem tabOkOf (S : St w mean mg mb s.heap) (F : Fr (hid s.heap) L h m) (N : News (hid s.heap) L h r) (hm : (51, tabObj ps) ∈ r) (hps : TriplesOk ps.toList) : TabOk h := by
  obtain ⟨⟨o, vs, file, tf, flags, tg, inF, text, tt, e, rr⟩, _⟩ := S.code
  exact ⟨⟨o, vs, file, tf, flags, tg, inF, text, tt, F.keep _ _ (hid_get e (by decide)), rr⟩, ps, (N _ hm).1, hps⟩
/-- behind a call: frame and ledger -/
theorem afterF {s₁ s₂ : Shared} (S : St w mean mg mb s.heap) (F : Fr (hid s.heap) L s₁.heap m) (N : News (hid s.heap) L s₁.heap ((51, tabObj ps) :: r)) (hne : ∀ p ∈ r, p.1 ≠ 51) (a : After s₁ s₂) :
    ∃ ps', TriplesOk ps'.toList ∧ Fr (hid s.heap) L s₂.heap m ∧ News (hid s.heap) L s₂.heap ((51, tabObj ps') :: r) := by
  obtain ⟨_, ps', hP, ht⟩ := a.code
  have hL51 := (N _ (.head _)).2.1
  refine ⟨ps', ht, ⟨F.ns.at' fun o e => a.off _ _ (Ne.symm hL51) e, fun b o e => a.off b o (hid_ne e) (F.keep b o e), F.above⟩, fun p hp => ?_⟩
  rcases List.mem_cons.mp hp with rfl | hp
  · exact ⟨hP, hL51, hid_none _⟩
  · exact ⟨a.off _ _ (hne p hp) (N p (.tail _ hp)).1, (N p (.tail _ hp)).2⟩
end
theorem ne51 {h : Heap} {D : Addr} {its : Array Value} {n : Nat} (c : TabOk h) (e : h.get? D = some (listOf its n)) : D ≠ 51 := fun q => by
  obtain ⟨_, ps, hP, _⟩ := c
  rw [q, hP] at e; cases e
theorem noneOf {h : Heap} {D : Addr} (e : (hid h).get? D = none) (n : D ≠ 51) : h.get? D = none := by
  cases q : h.get? D with
  | none => rfl
  | some o => rw [hid_get q n] at e; cases e
theorem newOf {h₀ h h' : Heap} {L D : Addr} {m : FM} {o : Obj} (F : Fr h₀ L h m) (n : h.get? D = none) (e : h'.get? D = some o) : h'.get? D = some o ∧ D ≠ L ∧ h₀.get? D = none := by
  refine ⟨e, fun q => ?_, ?_⟩
  · obtain ⟨oL, es', ep, hL, _⟩ := F.ns
    rw [q] at n
    rw [n] at hL; cases hL
  · cases q : h₀.get? D with
    | none => rfl
    | some o => rw [F.keep _ _ q] at n; cases n
/-- what a search gives -/
def duesI (es : List Ent) (lo hi : Nat) : List Int := (dues es lo hi).map fun (n : Nat) => (n : Int)
def FoundIs (es : List Ent) (lo hi : Nat) (R : Result → Shared → Prop) (s : Shared) : Prop :=
  ∀ s' D vals n, After s s' → s'.heap.get? D = some (listOf vals.toArray n) → IntsAre vals (duesI es lo hi) → s.heap.get? D = none → R (.ok (.ret (.ref D))) s'
theorem one_item {a : Int} {acc : Array Value} (h : ItemsOf (fun i v => ∃ t, v = Value.int (a + i * 1) t) acc 1) : ∃ t, acc = [Value.int a t].toArray := by
  obtain ⟨h1, h2⟩ := h
  obtain ⟨l⟩ := acc
  match l, h1 with
  | [x], _ =>
    obtain ⟨t, e⟩ := h2 0 x rfl
    exact ⟨t, by rw [e]; simp⟩
theorem duesI_len (es : List Ent) (lo hi : Nat) : (duesI es lo hi).length ≤ hi - lo := by
  unfold duesI dues
  rw [List.length_map]
  exact Nat.le_trans (List.length_filter_le _ _) (by simp)
section
local macro_rules | `(tactic| walk_at "call ref") => `(tactic| (k_here; (with_reducible show wpAny _ _ (call (Value.ref _) _) _ _ _); refine holdCall ?_))
variable {w : World} {mean : ExcName → Option Value} {mg mb : Str → Option Value}
/-- the contract, for parts of at most k signs -/
def FoundC (w : World) (mean : ExcName → Option Value) (mg mb : Str → Option Value) (es : List Ent) (k : Nat) : Prop :=
  ∀ (A : Around) (R : Result → Shared → Prop) (s : Shared) (l : Addr) (lo hi : Nat) (t1 t2 : Tok), hi - lo ≤ k → A.handled = none → A.guards = some [] → A.depth + (hi - lo) ≤ 690 → A.units + 3 * (hi - lo) ≤ 2990 → St w mean mg mb s.heap →
    RowAt s.heap l es → lo ≤ hi → hi ≤ es.length → FoundIs es lo hi R s → codeAny (model P2 w) A (.call (.ref 82) ⟨[.ref l, .int lo t1, .int hi t2], []⟩) R s
theorem foundStep {es : List Ent} {k : Nat} (hlen : es.length ≤ 64) (hw : ∀ e ∈ es, 0 ≤ e.2.1) (hco : Coh es) (ih : ∀ k', k' < k → FoundC w mean mg mb es k') : FoundC w mean mg mb es k := by
  intro A R s l lo hi t1 t2 hk hA hg hdp hun S hrow hlh hhi hR
  obtain ⟨ha, d, fr, gd, u⟩ := A
  dsimp only at hA hg hdp hun
  subst hA hg
  have hroom : d < recursionLimit := by show d < 1000; omega
  have KX : (hd2.heap_39 w.params).In (hid s.heap) := S.K
  have T := S.T
  have hf := S.gd.K 82 _ rfl
  have hcd : s.heap.CodeRec (.ref 81) (Str.ofString "_law_found") := codeRec_of S.gd.K (by rfl)
  have hrw : PySem.Challenge.rw_dm0159_02.row.prog = P2 := rfl
  revert hrw KX; k_fill; intro KX hrw; clear hrw
  w_top on
  refine call_fullW (name := Str.ofString "_law_found") (dV := .none) (kV := .none) hroom hf rfl S.gd.lim hcd (BindsTo.of_eq rfl) (locs rfl) fun h₁ F => ?_
  w_binds F
  obtain ⟨ps, hps, N0⟩ := S.tab F
  replace F := hid_fr F
  have hrow' := hrow
  obtain ⟨vs, hl, hr⟩ := hrow'
  have hvl := hr.length
  k_steps
  rename Fr _ _ _ _ => F2
  rename News _ _ _ _ => N2
  rw [slice_part hlh (by omega)] at N2
  unfold Hold
  refine wpAny_call (askedC (es := part es lo hi) (vs := (vs.drop lo).take (hi - lo)) rfl rfl ?d1 ?u1 (S.off (offOf F2) (tabOkOf S F2 N2 (.tail _ (.head _)) hps)) ⟨_, (N2 _ (.head _)).1, rfl, _, rfl⟩ (((hr.drop lo).take (hi - lo)).mono F2.keep) ?l1 ?w1 fun s₃ a₃ => ?_)
  case d1 => show d + 1 ≤ 700; omega
  case u1 => show u + 3 ≤ 3000; omega
  case l1 => rw [List.length_take, List.length_drop]; omega
  case w1 => exact fun e he => hw e (List.mem_of_mem_drop (List.mem_of_mem_take he))
  rw [asked_eq (hco.sub fun e he => List.mem_of_mem_drop (List.mem_of_mem_take he))]
  obtain ⟨ps3, hps3, F3, N3⟩ := afterF S F2 (fun p hp => N2 p (.tail _ hp)) (fun _ h => by cases h) a₃
  clear F2 N2
  have ag := a₃.gens
  have ao := a₃.os
  have ad := a₃.drawn
  obtain ⟨h₃, g₃, dr₃, tk₃, os₃⟩ := s₃
  dsimp only at F3 N3 ag ao ad ⊢
  clear a₃
  cases hq : (part es lo hi).any due with
  | false =>
    k_steps
    rename Fr _ _ _ _ => F4
    rename News _ _ _ _ => N4
    have c4 := tabOkOf S F4 N4 (.tail _ (.head _)) hps3
    have hD := (N4 _ (.head _)).1
    refine hR _ _ [] _ ⟨offOf F4, c4, ag, ao, ad⟩ hD ?_ (noneOf (N4 _ (.head _)).2.2 (ne51 c4 hD))
    unfold duesI
    rw [dues_nil hhi hq]
    exact .nil
  | true =>
    k_steps
    · rename Fr _ _ _ _ => F4
      rename News _ _ _ _ => N4
      rename IsRange _ _ _ _ _ _ _ _ => hR4
      rename (hi : Int) - (lo : Int) < 2 => hlt
      obtain ⟨e1, e2⟩ := dues_one hhi hlh (by omega) hq
      refine call_list_range (n := 1) rfl hR4 (small_one (by omega) (by omega) (by omega) (by omega)) ?_ (by decide) fun h5 tk5 acc c5 k5 hD hacc => ?_
      · unfold Builtin.Range.rangeSize
        subst e2
        split
        · split <;> omega
        · rename ¬ _ => q; exact absurd (by decide) q
      · obtain ⟨t, rfl⟩ := one_item hacc
        have F5 := F4.keeps k5
        have N5 : News (hid s.heap) s.heap.objs.size h5 [(51, tabObj ps3)] := fun p hp => ⟨k5 _ _ (N4 p hp).1, (N4 p hp).2⟩
        have c5' := tabOkOf S F5 N5 (.head _) hps3
        refine hR _ _ _ _ ⟨offOf F5, c5', ag, ao, ad⟩ hD ?_ ?_
        · unfold duesI
          rw [e1]
          exact .cons _ _ .nil
        · refine noneOf (next_is_new F4) (ne51 c5' hD)
    · rename Fr _ _ _ _ => F4
      rename News _ _ _ _ => N4
      rename ¬ (hi : Int) - (lo : Int) < 2 => hge
      have hmid : ((lo : Int) + (hi : Int)).fdiv 2 = (((lo + hi) / 2 : Nat) : Int) := by
        rw [Int.fdiv_eq_ediv_of_nonneg _ (by decide)]; omega
      have hm1 : lo < (lo + hi) / 2 := by omega
      have hm2 : (lo + hi) / 2 < hi := by omega
      rw [hmid] at F4 ⊢
      generalize (lo + hi) / 2 = mid at F4 hm1 hm2 ⊢
      clear hmid KX
      unfold Hold
      have o4 := offOf F4
      have c4 := tabOkOf S F4 N4 (.head _) hps3
      refine wpAny_call (ih (mid - lo) (by omega) _ _ _ l lo mid _ _ (Nat.le_refl _) rfl rfl ?d2 ?u2 (S.off o4 c4) (hrow.off o4) (by omega) (by omega) fun s5 D5 vals5 n5 a5 hD5 hI5 hn5 => ?_)
      case d2 => show d + 1 + _ ≤ 690; omega
      case u2 => show u + 3 + _ ≤ 2990; omega
      obtain ⟨ps5, hps5, F5, N5⟩ := afterF S F4 N4 (fun _ h => by cases h) a5
      have hD51 := ne51 a5.code hD5
      have N5' : News (hid s.heap) s.heap.objs.size s5.heap ((51, tabObj ps5) :: [(D5, listOf vals5.toArray n5)]) := by
        intro p hp
        rcases List.mem_cons.mp hp with rfl | hp
        · exact N5 _ (.head _)
        · rw [List.mem_singleton.mp hp]
          exact newOf F4 hn5 hD5
      have KX : (hd2.heap_39 w.params).In (hid s.heap) := S.K
      have bg := a5.gens
      have bo := a5.os
      have bd := a5.drawn
      obtain ⟨h5, g5, dr5, tk5, os5⟩ := s5
      dsimp only at F5 N5' bg bo bd ⊢
      clear F4 N4 N5 a5
      have hrw : PySem.Challenge.rw_dm0159_02.row.prog = P2 := rfl
      revert hrw KX; k_fill; intro KX hrw; clear hrw
      k_steps
      unfold Hold
      have o5 := offOf F5
      have c5 := tabOkOf S F5 N5' (.head _) hps5
      refine wpAny_call (ih (hi - mid) (by omega) _ _ _ l mid hi _ _ (Nat.le_refl _) rfl rfl ?d3 ?u3 (S.off o5 c5) (hrow.off o5) (by omega) (by omega) fun s6 D6 vals6 n6 a6 hD6 hI6 hn6 => ?_)
      case d3 => show d + 1 + _ ≤ 690; omega
      case u3 => show u + 3 + _ ≤ 2990; omega
      obtain ⟨ps6, hps6, F6, N6⟩ := afterF S F5 N5' (fun p hp => by rw [List.mem_singleton.mp hp]; exact hD51) a6
      have l1 := duesI_len es lo mid
      have l2 := duesI_len es mid hi
      refine add_lists_ints F6 N6 ⟨_, (N6 _ (.tail _ (.head _))).1, rfl, _, rfl⟩ ⟨_, hD6, rfl, _, rfl⟩ hI5 hI6 (hsz := by rw [sizeLine_eq]; omega) fun h7 F7 N7 hI7 => ?_
      have c7 := tabOkOf S F7 N7 (.tail _ (.head _)) hps6
      have hD7 := (N7 _ (.head _)).1
      refine hR _ _ _ _ ⟨offOf F7, c7, fun q => a6.gens (bg (ag q)), a6.os.trans (bo.trans ao), a6.drawn.trans (bd.trans ad)⟩ hD7 ?_ (noneOf (N7 _ (.head _)).2.2 (ne51 c7 hD7))
      unfold duesI at hI7 ⊢
      rw [dues_split (mid := mid) (by omega) (by omega), List.map_append]
      exact hI7
theorem foundC {es : List Ent} (hlen : es.length ≤ 64) (hw : ∀ e ∈ es, 0 ≤ e.2.1) (hco : Coh es) (k : Nat) : FoundC w mean mg mb es k := by
  induction k using Nat.strongRecOn with
  | _ k ih => exact foundStep hlen hw hco ih
end
end Mine
namespace Mine
open PySem.Calls
abbrev tupObj (its : Array Value) (n : Nat) : Obj := { cls := .type "tuple", data := .seq its n }
/-- the row's tuples, the last one first -/
inductive Tups : NL → List Ent → Prop where
  | nil : Tups [] []
  | cons {q : Addr} {pl wy : Int} {c : Nat} {t1 t2 t3 : Tok} {n : Nat} {tn : NL} {es : List Ent} : c < 1114112 → Tups tn es →
      Tups ((q, tupObj #[.int pl t1, .int wy t2, .str ⟨#[c]⟩ t3] n) :: tn) ((pl, wy, c) :: es)
theorem Tups.length {tn : NL} {es : List Ent} (G : Tups tn es) : tn.length = es.length := by
  induction G with
  | nil => rfl
  | cons _ _ ih => simp [ih]
theorem rowIs_snoc {h : Heap} {vs : List Value} {es : List Ent} {a : Addr} {pl wy : Int} {c : Nat} {t1 t2 t3 : Tok} (r : RowIs h vs es) (ht : IsTup h a #[.int pl t1, .int wy t2, .str ⟨#[c]⟩ t3]) (hc : c < 1114112) : RowIs h (vs ++ [.ref a]) (es ++ [(pl, wy, c)]) := by
  induction r with
  | nil => exact .cons ht hc .nil
  | cons x y _ ih => exact .cons x y ih
theorem Tups.row {h : Heap} {tn : NL} {es : List Ent} (G : Tups tn es) (hn : ∀ p ∈ tn, h.get? p.1 = some p.2) : RowIs h (refsG tn).toList es.reverse := by
  induction G with
  | nil => exact .nil
  | @cons q pl wy c t1 t2 t3 n tn es hc _ ih =>
    rw [refsG, Array.toList_push, List.reverse_cons]
    exact rowIs_snoc (ih fun p hp => hn p (.tail _ hp)) ⟨_, hn _ (.head _), rfl, _, rfl⟩ hc
theorem Tups.ne51 {h : Heap} {tn : NL} {es : List Ent} (G : Tups tn es) (c : TabOk h) (hn : ∀ p ∈ tn, h.get? p.1 = some p.2) : ∀ p ∈ tn, p.1 ≠ 51 := by
  obtain ⟨_, ps, hP, _⟩ := c
  induction G with
  | nil => intro p hp; cases hp
  | cons _ _ ih =>
    intro p hp
    rcases List.mem_cons.mp hp with rfl | hp
    · intro q
      have := hn _ (.head _)
      rw [q, hP] at this; cases this
    · exact ih (fun p hp => hn p (.tail _ hp)) p hp
theorem Tups.at {h : Heap} {l : Addr} {n : Nat} {tn : NL} {es : List Ent} (G : Tups tn es) (c : TabOk h) (hl : h.get? l = some (listOf (refsG tn) n)) (hn : ∀ p ∈ tn, h.get? p.1 = some p.2) : RowAt h l es.reverse :=
  ⟨(refsG tn).toList, ⟨_, hid_get hl (Mine.ne51 c hl), rfl, n, by simp⟩, G.row fun p hp => hid_get (hn p hp) (G.ne51 c hn p hp)⟩
/-- what is known of the row, ahead of the next turn -/
structure Kept (pl wy : Int) (es : List Ent) : Prop where
  way : 0 ≤ wy
  ent : ∀ e ∈ es, 0 ≤ e.2.1 ∧ e.1 ≤ pl ∧ (e.1 = pl → e.2.1 = wy)
  coh : Coh es
theorem Kept.start : Kept 0 0 [] := ⟨by decide, (fun _ h => absurd h List.not_mem_nil), (fun _ h => absurd h List.not_mem_nil)⟩
theorem Kept.next {pl wy wy' : Int} {es : List Ent} (k : Kept pl wy es) (h : 0 ≤ wy') : Kept (pl + 1) wy' es :=
  ⟨h, fun e he => ⟨(k.ent e he).1, by have := (k.ent e he).2.1; omega, fun q => by have := (k.ent e he).2.1; omega⟩, k.coh⟩
theorem Kept.more {pl wy : Int} {es : List Ent} (k : Kept pl wy es) (c : Nat) : Kept pl wy ((pl, wy, c) :: es) := by
  refine ⟨k.way, fun e he => ?_, fun a ha b hb => ?_⟩
  · rcases List.mem_cons.mp he with rfl | he
    · exact ⟨k.way, Int.le_refl _, fun _ => rfl⟩
    · exact k.ent e he
  · rcases List.mem_cons.mp ha with rfl | ha
    · rcases List.mem_cons.mp hb with rfl | hb
      · intro _; rfl
      · intro q; exact ((k.ent b hb).2.2 q.symm).symm
    · rcases List.mem_cons.mp hb with rfl | hb
      · intro q; exact (k.ent a ha).2.2 q
      · exact k.coh a ha b hb
/-- the loop's own state -/
def JL (C l D : Addr) (oc oD : Obj) (ps : Array Value) (i : Nat) (m : FM) (news : NL) : Prop :=
  ∃ pl wy t1 t2 n tn es, m (Str.ofString "place") = some (.int pl t1) ∧ m (Str.ofString "way") = some (.int wy t2) ∧ news = (C, oc) :: (l, listOf (refsG tn) n) :: (D, oD) :: (51, tabObj ps) :: tn ∧
    (∀ p ∈ tn, p.1 ≠ l) ∧ Tups tn es ∧ es.length ≤ i ∧ Kept pl wy es
theorem ledger0 {h₀ h : Heap} {L D z l C : Addr} {oD zo ol oc o5 : Obj} (N : News h₀ L h ((D, oD) :: (z, zo) :: ([(l, ol)] ++ [(C, oc), (51, o5)]))) : News h₀ L h ((C, oc) :: (l, ol) :: (D, oD) :: (51, o5) :: []) := by
  intro p hp
  rcases List.mem_cons.mp hp with rfl | hp
  · exact N _ (.tail _ (.tail _ (.tail _ (.head _))))
  · rcases List.mem_cons.mp hp with rfl | hp
    · exact N _ (.tail _ (.tail _ (.head _)))
    · rcases List.mem_cons.mp hp with rfl | hp
      · exact N _ (.head _)
      · rw [List.mem_singleton.mp hp]
        exact N _ (.tail _ (.tail _ (.tail _ (.tail _ (.head _)))))
theorem cell_ne {h : Heap} {C l : Addr} {oc : Obj} {v : Option Value} {its : Array Value} {n : Nat} (e : h.get? C = some oc) (hc : oc.data = .cell v) (e' : h.get? l = some (listOf its n)) : C ≠ l := fun q => by
  rw [q, e'] at e; cases e; cases hc
theorem tab_ne {h : Heap} {l : Addr} {ps : Array Value} {its : Array Value} {n : Nat} (e : h.get? 51 = some (tabObj ps)) (e' : h.get? l = some (listOf its n)) : (51 : Addr) ≠ l := fun q => by
  rw [q, e'] at e; cases e
theorem ints_get {vs : List Value} {ns : List Int} (hI : IntsAre vs ns) {i : Nat} {v : Value} (hv : vs[i]? = some v) : ∃ n t, v = .int n t := by
  have hin : i < vs.length := by
    rcases Nat.lt_or_ge i vs.length with q | q
    · exact q
    · rw [List.getElem?_eq_none q] at hv; cases hv
  have hlt : i < ns.length := by rw [← hI.length]; exact hin
  obtain ⟨t, hx⟩ := hI.get i ns[i] (List.getElem?_eq_getElem hlt)
  rw [hv] at hx
  exact ⟨ns[i], t, Option.some.inj hx⟩
end Mine
namespace Mine
open PySem.Calls
abbrev dOf2 {q : Program} {loose : List Str} {XP : (Str → Option Value) → Heap → Prop} {YP : World → Heap → Prop} {r : RowW} {d : DefRec} {kwd : List (Str × Expr)} {run : Value → List Value → Sem Value} {P : Prop} (_ : WalkO q loose XP YP r d kwd run → P) : DefRec := d
abbrev law2 : DefRec := dOf2 hd2
def forPart : List Stmt → Expr × List Stmt
  | .For t _ b _ _ :: _ => (t, b)
  | _ :: r => forPart r
  | [] => (default, [])
abbrev env2 (L : Addr) : Env := envOfC law2.name law2.scope L 87 (.ref 86)
abbrev A2 (d : Nat) (fr : Option (List Env)) (u : Nat) (L : Addr) : Around := Around.deeper ⟨none, d, fr, some [], u⟩ (env2 L)
theorem appRow {prog : Program} {w : World} {A : Around} {E : Value → Shared → Prop} {s : Shared} {h₀ : Heap} {L l e it C D : Addr} {oi oc oD o5 eo : Obj} {n : Nat} {tn : NL} {m : FM} {Q : Value → Shared → Prop} (F : Fr h₀ L s.heap m) (N : News h₀ L s.heap ((e, eo) :: (it, oi) :: (C, oc) :: (l, listOf (refsG tn) n) :: (D, oD) :: (51, o5) :: tn))
    (h0 : e ≠ l) (h1 : it ≠ l) (h2 : C ≠ l) (h3 : D ≠ l) (h5 : (51 : Addr) ≠ l) (h4 : ∀ p ∈ tn, p.1 ≠ l) (hsz : tn.length ≤ 64) (h : ∀ h', Fr h₀ L h' m → News h₀ L h' ((it, oi) :: (C, oc) :: (l, listOf (refsG ((e, eo) :: tn)) (n + 1)) :: (D, oD) :: (51, o5) :: (e, eo) :: tn) → Q .none { s with heap := h' }) :
    wpAny (model prog w) A (call (.builtin "list.append") [.ref l, .ref e]) Q E s := by
  have hr : ∀ p ∈ (D, oD) :: (51, o5) :: tn, p.1 ≠ l := fun p hp => by
    rcases List.mem_cons.mp hp with rfl | hp
    · exact h3
    · rcases List.mem_cons.mp hp with rfl | hp
      · exact h5
      · exact h4 p hp
  refine append_K F N (.tail h0 (.tail h1 (.tail h2 (.head hr)))) (fun h' F' N' => h h' F' fun p hp => ?_) (by rw [refsG_size]; exact Nat.le_trans hsz (by decide))
  rcases List.mem_cons.mp hp with rfl | hp
  · exact N' _ (.tail _ (.head _))
  · rcases List.mem_cons.mp hp with rfl | hp
    · exact N' _ (.tail _ (.tail _ (.head _)))
    · rcases List.mem_cons.mp hp with rfl | hp
      · exact N' _ (.tail _ (.tail _ (.tail _ (.head _))))
      · rcases List.mem_cons.mp hp with rfl | hp
        · exact N' _ (.tail _ (.tail _ (.tail _ (.tail _ (.head _)))))
        · rcases List.mem_cons.mp hp with rfl | hp
          · exact N' _ (.tail _ (.tail _ (.tail _ (.tail _ (.tail _ (.head _))))))
          · rcases List.mem_cons.mp hp with rfl | hp
            · exact N' _ (.head _)
            · exact N' _ (.tail _ (.tail _ (.tail _ (.tail _ (.tail _ (.tail _ hp))))))
section
local macro_rules | `(tactic| walk_at "call ref") => `(tactic| (k_here; (with_reducible show wpAny _ _ (call (Value.ref _) _) _ _ _); refine holdCall ?_))
variable {w : World} {mean : ExcName → Option Value} {mg mb : Str → Option Value} {s s₁ : Shared} {d u : Nat} {fr : Option (List Env)}
theorem turn2 {l D it : Addr} {oc oi oD : Obj} {ps : Array Value} {m : FM} {news : NL} {h : Heap} {tk i : Nat} {x : Int} {xt : Tok} {E' : Value → Shared → Prop} (hdp : d ≤ 400) (hun : u ≤ 100) (S : St w mean mg mb s.heap) (hps : TriplesOk ps.toList)
    (hoc : oc.data = .cell (some (.ref l))) (hCl : (s.heap.objs.size + 1 : Nat) ≠ l) (hDl : D ≠ l) (h5l : (51 : Addr) ≠ l) (hi : i < 64) (hJ : JL (s.heap.objs.size + 1) l D oc oD ps i m news)
    (F : Fr (hid s.heap) s.heap.objs.size h m) (N : News (hid s.heap) s.heap.objs.size h ((it, oi) :: news)) (hne : ∀ p ∈ news, p.1 ≠ it) :
    wpAny (model P2 w) (A2 d fr u s.heap.objs.size) (assign (forPart law2.body).1 (env2 s.heap.objs.size) (.int x xt)) (fun _ s₂ => wpAny (model P2 w) (A2 d fr u s.heap.objs.size) (execs (forPart law2.body).2 (env2 s.heap.objs.size))
      (fun f s₃ => EndS f (TurnJ (hid s.heap) s.heap.objs.size it oi (JL (s.heap.objs.size + 1) l D oc oD ps (i + 1)) s₁ s₃)) E' s₂) E' { s₁ with heap := h, toks := tk } := by
  obtain ⟨pl, wy, t1, t2, n, tn, es, hpl, hwy, rfl, htl, hT, hel, hK⟩ := hJ
  have em := put_same hpl
  rw [em] at F
  have em2 : put m "place" (.int pl t1) = put (put m "place" (.int pl t1)) "way" (.int wy t2) := put_same ((if_neg (by decide)).trans hwy)
  rw [em2] at F
  have KX : (hd2.heap_39 w.params).In (hid s.heap) := S.K
  have T := S.T
  have hrw : PySem.Challenge.rw_dm0159_02.row.prog = P2 := rfl
  revert hrw KX; k_fill; intro KX hrw; clear hrw
  w_top on
  dsimp only [forPart, law2, dOf2]
  obtain ⟨h1, g1, dr1, tk1, os1⟩ := s₁
  dsimp only
  k_steps
  · rename Fr _ _ _ _ => F2
    rename News _ _ _ _ => N2
    exact ⟨rfl, _, _, _, _, rfl, F2, N2, hne, pl + 1, (-x).fmod 5, _, _, n, tn, es, (if_neg (by decide)).trans (if_pos rfl), if_pos rfl, rfl, htl, hT, Nat.le_succ_of_le hel, hK.next (Int.fmod_nonneg_of_pos _ (by decide))⟩
  · rename Fr _ _ _ _ => F2
    rename News _ _ _ _ => N2
    unfold Hold
    refine wpAny_call (signC rfl rfl ?d1 ?u1 (S.off (offOf F2) (tabOkOf S F2 N2 (.tail _ (.tail _ (.tail _ (.tail _ (.head _))))) hps)) fun h3 tk3 c t3 hc hst => ?_)
    case d1 => show d + 1 ≤ 800; omega
    case u1 => show u + 3 ≤ 4000; omega
    have F3 := F2.keeps hst
    have N3 := N2.grown hst
    clear F2 N2
    dsimp only at F3 N3 ⊢
    k_steps
    rename Fr _ _ _ _ => F4
    rename News _ _ _ _ => N4
    rename _ ∧ _ ∧ _ ∧ _ ∧ _ ∧ AllLt _ _ => l4
    refine appRow F4 N4 (Nat.ne_of_gt l4.2.2.1) (Ne.symm (hne _ (.tail _ (.head _)))) hCl hDl h5l htl (by rw [hT.length]; omega) fun h5 F5 N5 => ?_
    k_steps
    refine ⟨rfl, _, _, _, _, rfl, F5, N5, ?_, pl, wy, _, _, n + 1, _, (pl, wy, c) :: es, (if_neg (by decide)).trans ((if_neg (by decide)).trans (if_pos rfl)), (if_neg (by decide)).trans (if_pos rfl), rfl, ?_, .cons hc hT, Nat.succ_le_succ hel, hK.more c⟩
    · intro p hp
      rcases List.mem_cons.mp hp with rfl | hp
      · exact hne _ (.head _)
      · rcases List.mem_cons.mp hp with rfl | hp
        · exact hne (l, listOf (refsG tn) n) (.tail _ (.head _))
        · rcases List.mem_cons.mp hp with rfl | hp
          · exact hne _ (.tail _ (.tail _ (.head _)))
          · rcases List.mem_cons.mp hp with rfl | hp
            · exact hne _ (.tail _ (.tail _ (.tail _ (.head _))))
            · rcases List.mem_cons.mp hp with rfl | hp
              · exact Nat.ne_of_gt l4.1
              · exact hne _ (.tail _ (.tail _ (.tail _ (.tail _ hp))))
    · intro p hp
      rcases List.mem_cons.mp hp with rfl | hp
      · exact Nat.ne_of_gt l4.2.2.1
      · exact htl p hp
theorem for2 {l D : Addr} {oc : Obj} {ps : Array Value} {m : FM} {ws : List Value} {ns : List Int} {n0 : Nat} {E : Value → Shared → Prop} {R : Result → Shared → Prop} (hdp : d ≤ 400) (hun : u ≤ 100) (S : St w mean mg mb s.heap) (hps : TriplesOk ps.toList)
    (hoc : oc.data = .cell (some (.ref l))) (hCl : (s.heap.objs.size + 1 : Nat) ≠ l) (hDl : D ≠ l) (h5l : (51 : Addr) ≠ l) (hI : IntsAre ws ns) (hlen : ns.length ≤ 64) (F : Fr (hid s.heap) s.heap.objs.size s₁.heap m) {t1 t2 : Tok}
    (hp : m (Str.ofString "place") = some (.int 0 t1)) (hw : m (Str.ofString "way") = some (.int 0 t2))
    (N : News (hid s.heap) s.heap.objs.size s₁.heap ((s.heap.objs.size + 1, oc) :: (l, listOf #[] 0) :: (D, listOf ws.toArray n0) :: (51, tabObj ps) :: []))
    (done : ∀ m h tk news, JL (s.heap.objs.size + 1) l D oc (listOf ws.toArray n0) ps ws.length m news → Fr (hid s.heap) s.heap.objs.size h m → News (hid s.heap) s.heap.objs.size h news → R (.ok .next) { s₁ with heap := h, toks := tk }) :
    wpAny (model P2 w) (A2 d fr u s.heap.objs.size) (pyIter (.ref D)) (fun it s₂ => codeAny (model P2 w) (A2 d fr u s.heap.objs.size) (.forLoop (forPart law2.body).1 it (forPart law2.body).2 [] (env2 s.heap.objs.size)) R s₂) E s₁ := by
  refine loopList (env := env2 s.heap.objs.size) (h₀ := hid s.heap) (vs := ws) (JL (s.heap.objs.size + 1) l D oc (listOf ws.toArray n0) ps) rfl ?hl F N ?j0 ?go ?turn done
  case hl =>
    rintro i h m news F N ⟨pl, wy, t1, t2, n, tn, es, _, _, rfl, _⟩
    exact ⟨_, (N _ (.tail _ (.tail _ (.head _)))).1, rfl, _, rfl⟩
  case j0 => exact ⟨0, 0, _, _, 0, [], [], hp, hw, rfl, (fun _ h => by cases h), .nil, Nat.zero_le _, Kept.start⟩
  case go =>
    intro i v it E' s Q hv hit q
    exact wpAny_of_eq rfl q
  case turn =>
    intro i v m h tk it oi news E' hv hJ F N hne
    obtain ⟨x, xt, rfl⟩ := ints_get hI hv
    have hlt : i < 64 := by
      rcases Nat.lt_or_ge i ws.length with q | q
      · have := hI.length; omega
      · rw [List.getElem?_eq_none q] at hv; cases hv
    exact turn2 hdp hun S hps hoc hCl hDl h5l hlt hJ F N hne
end
end Mine
namespace Mine
open PySem.Calls PyProof.Rows.LCg
def dueAt (es : List Ent) (i : Nat) : Bool := match es[i]? with | some e => due e | none => false
section
variable {w : World} {mg mb : Str → Option Value} {A : Around} {E : Value → Shared → Prop} {s : Shared}
/-- what a test of the row finds -/
structure RowEnv (cenv : Env) (mg mb : Str → Option Value) (C l a : Addr) (vs : List Value) (i : Nat) (pl wy : Int) (c : Nat) (h : Heap) : Prop where
  kind : cenv.scope.kind = .function
  krow : cenv.kindOf (Str.ofString "row") = some .cell
  kk : cenv.kindOf (Str.ofString "k") = some .local
  kord : cenv.kindOf (Str.ofString "ord") = some .globalImplicit
  cell : cenv.cells.lookup (Str.ofString "row") = some C
  isC : h.IsCell C (some (.ref l))
  ns : ∃ m t, h.Ns cenv.locals m ∧ m (Str.ofString "k") = some (.int (i : Int) t)
  lst : h.IsList l vs.toArray
  get : vs[i]? = some (.ref a)
  tup : ∃ t1 t2 t3, IsTup h a [.int pl t1, .int wy t2, .str ⟨#[c]⟩ t3].toArray
  hi : i ≤ 100
  hge : cenv.globals = mainGlobals
  hbe : cenv.builtins = builtinsNs
  hg : h.Ns mainGlobals mg
  hb : h.Ns builtinsNs mb
  mo : mg (Str.ofString "ord") = none
  bo : mb (Str.ofString "ord") = some (.builtin "ord")
variable {cenv : Env} {C l a : Addr} {vs : List Value} {i : Nat} {pl wy : Int} {c : Nat}
theorem rowItem {p0 p1 p2 : Pos} {Q : Value → Shared → Prop} (R : RowEnv cenv mg mb C l a vs i pl wy c s.heap) (h : Q (.ref a) s) :
    wpAny (model P2 w) A (eval (.Subscript (.Name (Str.ofString "row") p0) (.Name (Str.ofString "k") p1) p2) cenv) Q E s := by
  obtain ⟨m, t, hn, hk⟩ := R.ns
  refine Subscript_ (wpAny_Name (wpAny_loadName_cell R.kind R.krow R.cell R.isC ?_) (by decide))
  refine wpAny_Name (wpAny_loadName_local R.kind R.kk hn hk ?_) (by decide)
  refine item_listL R.lst (Int.natCast_nonneg _) (by have := R.hi; omega) (by simpa using R.get) h
theorem rowWay {p0 p1 p2 p3 p4 : Pos} {Q : Value → Shared → Prop} (R : RowEnv cenv mg mb C l a vs i pl wy c s.heap) (h : ∀ t tk, Q (.int wy t) { s with toks := tk }) :
    wpAny (model P2 w) A (eval (.Subscript (.Subscript (.Name (Str.ofString "row") p0) (.Name (Str.ofString "k") p1) p2) (.Constant (.int 1) 0 p3) p4) cenv) Q E s := by
  obtain ⟨t1, t2, t3, ht⟩ := R.tup
  refine Subscript_ (rowItem R (wpAny_Constant_int ?_))
  exact item_tupleT (s := { s with toks := s.toks + 1 }) (j := 1) ht (by decide) (by decide) rfl rfl (h _ _)
theorem rowSign {p0 p1 p2 p3 p4 : Pos} {Q : Value → Shared → Prop} (R : RowEnv cenv mg mb C l a vs i pl wy c s.heap) (h : ∀ t tk, Q (.str ⟨#[c]⟩ t) { s with toks := tk }) :
    wpAny (model P2 w) A (eval (.Subscript (.Subscript (.Name (Str.ofString "row") p0) (.Name (Str.ofString "k") p1) p2) (.Constant (.int 2) 0 p3) p4) cenv) Q E s := by
  obtain ⟨t1, t2, t3, ht⟩ := R.tup
  refine Subscript_ (rowItem R (wpAny_Constant_int ?_))
  exact item_tupleT (s := { s with toks := s.toks + 1 }) (j := 2) ht (by decide) (by decide) rfl rfl (h _ _)
theorem rowOrd {p0 p1 p2 p3 p4 p5 p6 : Pos} {Q : Value → Shared → Prop} (R : RowEnv cenv mg mb C l a vs i pl wy c s.heap) (h : ∀ t tk, Q (.int (c : Int) t) { s with toks := tk }) :
    wpAny (model P2 w) A (eval (.Call (.Name (Str.ofString "ord") p5) [.Subscript (.Subscript (.Name (Str.ofString "row") p0) (.Name (Str.ofString "k") p1) p2) (.Constant (.int 2) 0 p3) p4] [] p6) cenv) Q E s := by
  refine wpAny_bind (m := eval (.Name (Str.ofString "ord") p5) cenv) (Calls.Name_function_global R.kind R.kord (Calls.loadGlobal_builtin (by rw [R.hge]; exact R.hg) R.mo (by rw [R.hbe]; exact R.hb) R.bo ?_))
  refine Calls.callWith_builtin rfl (evalArgs1 ?_)
  show wpAny _ A (eval (.Subscript _ _ _) cenv) _ _ _
  refine rowSign R fun t tk => ?_
  exact P.ord_of_char (s := { s with toks := tk }) (h _ _)
theorem RowEnv.toks (R : RowEnv cenv mg mb C l a vs i pl wy c s.heap) (tk : Nat) : RowEnv cenv mg mb C l a vs i pl wy c ({ s with toks := tk } : Shared).heap := R
theorem rowTest {q0 q1 q2 q3 q4 q5 q6 q7 q8 q9 a0 a1 a2 a3 a4 a5 a6 b0 b1 b2 b3 b4 b5 b6 z0 z1 z2 : Pos} {Q : Bool → Shared → Prop} {whole : Sem Value} (R : RowEnv cenv mg mb C l a vs i pl wy c s.heap) (h : ∀ tk, Q (due (pl, wy, c)) { s with toks := tk }) :
    wpAny (model P2 w) A (isTrue (.BoolOp .And [.Compare (.Subscript (.Subscript (.Name (Str.ofString "row") q0) (.Name (Str.ofString "k") q1) q2) (.Constant (.int 1) 0 q3) q4) [.Lt] [.Constant (.int 3) 0 q5] q6,
      .BoolOp .Or [.Compare (.Call (.Name (Str.ofString "ord") a5) [.Subscript (.Subscript (.Name (Str.ofString "row") a0) (.Name (Str.ofString "k") a1) a2) (.Constant (.int 2) 0 a3) a4] [] a6) [.Lt] [.Constant (.int 32) 0 q7] q8,
        .Compare (.Call (.Name (Str.ofString "ord") b5) [.Subscript (.Subscript (.Name (Str.ofString "row") b0) (.Name (Str.ofString "k") b1) b2) (.Constant (.int 2) 0 b3) b4] [] b6) [.Eq] [.Constant (.int 127) 0 q9] z0] z1] z2) cenv whole) Q E s := by
  refine isTrue_and (wpAny_isTrue_Compare1 (rowWay R fun t tk => wpAny_Constant_int (lt_int (wpAny_of_eq (a := decide (wy < 3)) rfl ?_))))
  by_cases h1 : wy < 3
  · rw [if_pos (decide_eq_true h1)]
    refine isTrue_and (isTrue_or (wpAny_isTrue_Compare1 (rowOrd (R.toks _) fun t2 tk2 => wpAny_Constant_int (lt_int (wpAny_of_eq (a := decide ((c : Int) < 32)) rfl ?_)))))
    by_cases h2 : (c : Int) < 32
    · rw [if_pos (decide_eq_true h2), if_pos rfl]
      refine isTrue_and_nil ?_
      have e : due (pl, wy, c) = true := by
        unfold due ctl
        have : c ≤ 31 := by omega
        simp [h1, this]
      have := h (tk2 + 1)
      rw [e] at this
      exact this
    · rw [if_neg (by simpa using h2)]
      refine isTrue_or (wpAny_isTrue_Compare1 (rowOrd (R.toks _) fun t3 tk3 => wpAny_Constant_int (eq_int (wpAny_of_eq (a := ((c : Int) == 127)) rfl ?_))))
      by_cases h3 : c = 127
      · rw [if_pos (by simp [h3]), if_pos rfl]
        refine isTrue_and_nil ?_
        have e : due (pl, wy, c) = true := by
          unfold due ctl
          simp [h1, h3]
        have := h (tk3 + 1)
        rw [e] at this
        exact this
      · rw [if_neg (by simp; omega)]
        refine isTrue_or_nil ?_
        rw [if_neg (by decide)]
        have e : due (pl, wy, c) = false := by
          unfold due ctl
          have : ¬ c ≤ 31 := by omega
          simp [h3, this]
        have := h (tk3 + 1)
        rw [e] at this
        exact this
  · rw [if_neg (by simpa using h1)]
    have e : due (pl, wy, c) = false := by
      unfold due
      simp [h1]
    have := h (tk + 1)
    rw [e] at this
    exact this
end
theorem paired_eq {xs ys : List Value} (h : Paired (fun v y => y = v) xs ys) : ys = xs := by
  induction h with
  | nil => rfl
  | cons a _ ih => rw [a, ih]
/-- the test, of an index's value -/
def dueV (es : List Ent) : Value → Bool
  | .int k _ => dueAt es k.toNat
  | _ => false
theorem ints_filter (es : List Ent) : ∀ (vs : List Value) (a : Nat), (∀ (j : Nat) (v : Value), vs[j]? = some v → ∃ t, v = Value.int ((a : Int) + (j : Int)) t) → IntsAre (vs.filter (dueV es)) (((List.range' a vs.length).filter (dueAt es)).map fun (n : Nat) => (n : Int))
  | [], a, _ => .nil
  | v :: r, a, h => by
    obtain ⟨t, rfl⟩ := h 0 v rfl
    have ih := ints_filter es r (a + 1) fun j v hv => by
      obtain ⟨t, rfl⟩ := h (j + 1) v hv
      exact ⟨t, by congr 1; omega⟩
    have e : dueV es (.int ((a : Int) + ((0 : Nat) : Int)) t) = dueAt es a := by
      show dueAt es ((a : Int) + ((0 : Nat) : Int)).toNat = _
      congr 1
    rw [List.length_cons, List.range'_succ, List.filter_cons, List.filter_cons, e]
    cases q : dueAt es a with
    | true =>
      rw [if_pos rfl, if_pos rfl, List.map_cons]
      have e2 : ((a : Int) + ((0 : Nat) : Int)) = (a : Int) := by omega
      rw [e2]
      exact .cons _ _ ih
    | false => rw [if_neg (by decide), if_neg (by decide)]; exact ih
end Mine
namespace Mine
open PySem.Calls PyProof.Rows.LCg
def stmtAt : List Stmt → Nat → Stmt
  | s :: _, 0 => s
  | _ :: r, n + 1 => stmtAt r n
  | [], _ => .Pass default
abbrev cscope : Scope := { kind := ScopeKind.function, names := [(Str.ofString ".0", NameKind.local), (Str.ofString "k", NameKind.local), (Str.ofString "ord", NameKind.globalImplicit), (Str.ofString "row", NameKind.free)], isGenerator := false, isCoroutine := false }
theorem holdQ {α : Type} {M : Model} {A : Around} {E : Value → Shared → Prop} {s : Shared} {t : Sem α} {Q : α → Shared → Prop} (h : wpAny M A t (fun v s' => Hold (Q v s')) E s) : wpAny M A t Q E s := h
section
variable {w : World} {mean : ExcName → Option Value} {mg mb : Str → Option Value} {s s₁ : Shared} {d u : Nat} {fr : Option (List Env)}
theorem due2 {l D : Addr} {oc oD : Obj} {ps : Array Value} {m : FM} {n : Nat} {tn : NL} {es : List Ent} {E : Value → Shared → Prop} {Q : Flow → Shared → Prop} (hdp : d ≤ 400) (hun : u ≤ 100) (S : St w mean mg mb s.heap)
    (hoc : oc.data = .cell (some (.ref l))) (hT : Tups tn es) (hel : es.length ≤ 64)
    (F : Fr (hid s.heap) s.heap.objs.size s₁.heap m) (N : News (hid s.heap) s.heap.objs.size s₁.heap ((s.heap.objs.size + 1, oc) :: (l, listOf (refsG tn) n) :: (D, oD) :: (51, tabObj ps) :: tn))
    (hQ : ∀ B h tk ys k, Fr (hid s.heap) s.heap.objs.size h (put m "due" (.ref B)) → News (hid s.heap) s.heap.objs.size h ((B, listOf ys.toArray k) :: (s.heap.objs.size + 1, oc) :: (l, listOf (refsG tn) n) :: (D, oD) :: (51, tabObj ps) :: tn) → IntsAre ys (duesI es.reverse 0 es.length) → Q .next { s₁ with heap := h, toks := tk }) :
    wpAny (model P2 w) (A2 d fr u s.heap.objs.size) (exec (stmtAt law2.body 4) (env2 s.heap.objs.size)) Q E s₁ := by
  have KX : (hd2.heap_39 w.params).In (hid s.heap) := S.K
  have T := S.T
  have hrw : PySem.Challenge.rw_dm0159_02.row.prog = P2 := rfl
  revert hrw KX; k_fill; intro KX hrw; clear hrw
  w_top on
  dsimp only [stmtAt, law2, dOf2]
  obtain ⟨h1, g1, dr1, tk1, os1⟩ := s₁
  dsimp only at F N ⊢
  refine wpAny_Assign_ListComp_free (cl := [(Str.ofString "row", s.heap.objs.size + 1)]) (dueV es.reverse) (fun v y => y = v) ?hsw ?hclos (by decide) rfl (by decide) (by decide) ?hy ?hp ?_
  case hsw => rfl
  case hclos => rfl
  case hy => rfl
  case hp => rfl
  refine holdQ ?_
  k_steps
  have hsz : (refsG tn).size = es.length := by rw [refsG_size, hT.length]
  refine len_list (items := refsG tn) ⟨_, (N _ (.tail _ (.head _))).1, rfl, _, rfl⟩ (by omega) ?_
  rw [hsz]
  k_steps
  rename Heap => h2
  rename Fr _ _ h2 _ => F2
  rename News _ _ h2 _ => N2
  rename IsRange h2 _ _ _ _ _ _ _ => hR2
  unfold Hold
  refine wpAny_pyIter_range hR2 (small_one (by omega) (by omega) (by omega) (by omega)) ?_
  have hrs : Builtin.Range.rangeSize 0 (es.length : Int) 1 = (es.length : Int) := by
    unfold Builtin.Range.rangeSize
    split
    · split <;> omega
    · rename ¬ _ => q; exact absurd (by decide) q
  dsimp only
  have nI : (hid s.heap).get? h2.objs.size = none := next_is_new F2
  have hIL : s.heap.objs.size ≠ h2.objs.size := Nat.ne_of_lt F2.ns.lt
  have hIN : ∀ p ∈ (s.heap.objs.size + 1, oc) :: (l, listOf (refsG tn) n) :: (D, oD) :: (51, tabObj ps) :: tn, p.1 ≠ h2.objs.size := fun p hp => Nat.ne_of_lt (Heap.lt_size (N2 p hp).1)
  generalize hH3 : h2.push { cls := .type "range_iterator", data := .fields #[rawInt 0, rawInt (Builtin.Range.rangeSize 0 (es.length : Int) 1), rawInt 1] } = h3
  have k3 : ∀ b o, h2.get? b = some o → h3.get? b = some o := fun b o e => hH3 ▸ Heap.get?_push_of_some _ e
  have F3 := F2.keeps k3
  have N3 := N2.grown k3
  have hIt : IsRangeIter h3 h2.objs.size (0 + ((0 : Nat) : Int) * 1) ((es.length : Int) - ((0 : Nat) : Int)) 1 := by
    show h3.get? h2.objs.size = _
    rw [← hH3, hrs]
    simpa using Heap.get?_push_size _ rfl
  have hlt3 : h2.objs.size < h3.objs.size := Heap.lt_size hIt
  clear hH3
  refine ⟨h2.objs.size, [h2.objs.size], [h2.objs.size], es.length, _, _, m, rfl, (range_walks rfl 0 es.length).bound, by rw [sizeLine_eq]; omega, hIt, fun b hb => by rw [List.mem_singleton.mp hb]; exact hlt3, fun hb => hIL (List.mem_singleton.mp hb), F3.ns, ?quiet, ?fin⟩
  case quiet =>
    refine ⟨fun C i v s₃ m₃ E' _ hP hn hk hkeep _ => ?_, fun C i v s₃ m₃ E' _ hP _ hn hk _ _ => ?_⟩
    · obtain ⟨hi, t, rfl⟩ := hP
      have hlen : (refsG tn).toList.length = es.length := by rw [Array.length_toList]; exact hsz
      have kk : ∀ p ∈ (s.heap.objs.size + 1, oc) :: (l, listOf (refsG tn) n) :: (D, oD) :: (51, tabObj ps) :: tn, s₃.heap.get? p.1 = some p.2 := fun p hp => hkeep _ _ (fun q => hIN p hp (List.mem_singleton.mp q)) (N3 p hp).1
      have kb : ∀ b o, (hid s.heap).get? b = some o → s₃.heap.get? b = some o := fun b o e => hkeep _ _ (fun q => by rw [List.mem_singleton.mp q, nI] at e; cases e) (F3.keep b o e)
      have hrow := hT.row (h := s₃.heap) fun p hp => kk p (.tail _ (.tail _ (.tail _ (.tail _ hp))))
      obtain ⟨a, pl, wy, c, t1, t2, t3, hv, he, hTp, hc⟩ := hrow.get (List.getElem?_eq_getElem (by rw [hlen]; exact hi))
      have RE : RowEnv (compEnvC cscope [(Str.ofString "row", s.heap.objs.size + 1)] C (env2 s.heap.objs.size)) mg mb (s.heap.objs.size + 1) l a (refsG tn).toList i pl wy c s₃.heap :=
        { kind := rfl, krow := rfl, kk := rfl, kord := rfl, cell := rfl
          isC := ⟨_, kk _ (.head _), hoc⟩
          ns := ⟨m₃, t, hn, by rw [hk]; congr 2; omega⟩
          lst := ⟨_, kk _ (.tail _ (.head _)), rfl, n, by simp⟩
          get := (List.getElem?_eq_getElem (by rw [hlen]; exact hi)).trans (congrArg some hv)
          tup := ⟨t1, t2, t3, hTp⟩
          hi := by omega
          hge := rfl, hbe := rfl
          hg := S.T.g.keeps kb
          hb := S.T.b.keeps kb
          mo := mg_none_of S.gd.K S.gd.g rfl
          bo := (S.gd.bi _ (by decide)).trans (by kernel_rfl) }
      refine wpAny_tests_one (rowTest RE fun tk => ⟨?_, _, _, rfl, fun _ _ e => e⟩)
      show due (pl, wy, c) = dueAt es.reverse (0 + (i : Int)).toNat
      rw [show (0 + (i : Int)).toNat = i by omega]
      unfold dueAt
      rw [he]
    · exact wpAny_Name (wpAny_loadName_local rfl rfl hn hk ⟨rfl, _, _, rfl, fun _ _ e => e⟩) (by decide)
  case fin =>
    intro B h' tk' ys vs hB _ hpl hlen hvs hpair hns hkp
    obtain ⟨k, hpl⟩ := hpl
    have hys := paired_eq hpair
    have kb : ∀ b o, (hid s.heap).get? b = some o → h'.get? b = some o := fun b o e => hkp b o (fun q => by
      rw [q, show (hid s.heap).get? (env2 s.heap.objs.size).locals = none from Heap.get?_none_of_le F3.above] at e; cases e) (fun q => by rw [List.mem_singleton.mp q, nI] at e; cases e) (F3.keep b o e)
    refine hQ B h' tk' ys.toList k ⟨hns, kb, F3.above⟩ (fun p hp => ?_) ?_
    · rcases List.mem_cons.mp hp with rfl | hp
      · exact newOf F3 hB (by simpa using hpl)
      · exact ⟨hkp _ _ (N3 p hp).2.1 (fun q => hIN p hp (List.mem_singleton.mp q)) (N3 p hp).1, (N3 p hp).2⟩
    · rw [hys]
      have := ints_filter es.reverse vs 0 fun j v hv => by
        obtain ⟨_, t, e⟩ := hvs j v hv
        exact ⟨t, e⟩
      rw [hlen] at this
      exact this
end
end Mine
namespace Mine
open PySem.Calls
theorem rest51 {h₀ h : Heap} {L l B C : Addr} {oc : Obj} {ps : Array Value} {n k : Nat} {tn : NL} {es : List Ent} {ys : List Value} {v : Option Value} (hoc : oc.data = .cell v) (hT : Tups tn es) (c1 : TabOk h)
    (N : News h₀ L h ((51, tabObj ps) :: (B, listOf ys.toArray k) :: (C, oc) :: (l, listOf (refsG tn) n) :: tn)) : ∀ p ∈ (B, listOf ys.toArray k) :: (C, oc) :: (l, listOf (refsG tn) n) :: tn, p.1 ≠ 51 := by
  intro p hp
  rcases List.mem_cons.mp hp with rfl | hp
  · exact ne51 c1 (N _ (.tail _ (.head _))).1
  · rcases List.mem_cons.mp hp with rfl | hp
    · intro q
      have e1 := (N _ (.tail _ (.tail _ (.head _)))).1
      have e2 := (N _ (.head _)).1
      dsimp only at e1 e2 q
      rw [q, e2] at e1
      cases e1; cases hoc
    · rcases List.mem_cons.mp hp with rfl | hp
      · exact ne51 c1 (N _ (.tail _ (.tail _ (.tail _ (.head _))))).1
      · exact hT.ne51 c1 (fun p hp => (N p (.tail _ (.tail _ (.tail _ (.tail _ hp))))).1) p hp
section
local macro_rules | `(tactic| walk_at "call ref") => `(tactic| (k_here; (with_reducible show wpAny _ _ (call (Value.ref _) _) _ _ _); refine holdCall ?_))
variable {w : World} {mean : ExcName → Option Value} {mg mb : Str → Option Value} {s s₁ : Shared} {d u : Nat} {fr : Option (List Env)}
theorem whole2 {l B : Addr} {oc : Obj} {ps : Array Value} {m : FM} {n k : Nat} {tn : NL} {es : List Ent} {ys : List Value} {E : Value → Shared → Prop} {Q : Flow → Shared → Prop} (hdp : d ≤ 400) (hun : u ≤ 100) (S : St w mean mg mb s.heap) (hps : TriplesOk ps.toList)
    (hoc : oc.data = .cell (some (.ref l))) (hT : Tups tn es) (hel : es.length ≤ 64) (hw : ∀ e ∈ es, 0 ≤ e.2.1) (hco : Coh es)
    (F : Fr (hid s.heap) s.heap.objs.size s₁.heap m) (N : News (hid s.heap) s.heap.objs.size s₁.heap ((51, tabObj ps) :: (B, listOf ys.toArray k) :: (s.heap.objs.size + 1, oc) :: (l, listOf (refsG tn) n) :: tn))
    (hQ : ∀ s₂ h tk ps', After s₁ s₂ → TriplesOk ps'.toList → Fr (hid s.heap) s.heap.objs.size h (put m "whole" (.bool (es.any due))) → News (hid s.heap) s.heap.objs.size h ((51, tabObj ps') :: (B, listOf ys.toArray k) :: (s.heap.objs.size + 1, oc) :: (l, listOf (refsG tn) n) :: tn) → Q .next { s₂ with heap := h, toks := tk }) :
    wpAny (model P2 w) (A2 d fr u s.heap.objs.size) (exec (stmtAt law2.body 5) (env2 s.heap.objs.size)) Q E s₁ := by
  have KX : (hd2.heap_39 w.params).In (hid s.heap) := S.K
  have T := S.T
  have hrw : PySem.Challenge.rw_dm0159_02.row.prog = P2 := rfl
  revert hrw KX; k_fill; intro KX hrw; clear hrw
  w_top on
  dsimp only [stmtAt, law2, dOf2]
  obtain ⟨h1, g1, dr1, tk1, os1⟩ := s₁
  dsimp only at F N ⊢
  refine holdQ ?_
  k_steps
  unfold Hold
  have c1 := tabOkOf S F N (.head _) hps
  have hn : ∀ p ∈ tn, h1.get? p.1 = some p.2 := fun p hp => (N p (.tail _ (.tail _ (.tail _ (.tail _ hp))))).1
  have hl := (N _ (.tail _ (.tail _ (.tail _ (.head _))))).1
  have hlL : h1.IsList l (refsG tn).toList.toArray := ⟨_, hl, rfl, n, by simp⟩
  refine wpAny_call (askedC (es := es.reverse) (vs := (refsG tn).toList) rfl rfl ?d1 ?u1 (S.off (offOf F) c1) hlL (hT.row hn) (by rw [List.length_reverse]; exact hel) (fun e he => hw e (List.mem_reverse.mp he)) fun s₂ a₂ => ?_)
  case d1 => show d + 1 ≤ 700; omega
  case u1 => show u + 3 ≤ 3000; omega
  have hr51 := rest51 hoc hT c1 N
  obtain ⟨ps2, hps2, F2, N2⟩ := afterF (s₁ := ⟨h1, g1, dr1, tk1, os1⟩) S F N hr51 a₂
  have hq2 := hQ s₂
  rw [asked_eq (hco.sub fun e he => List.mem_reverse.mp he), List.any_reverse]
  have hq3 : ∀ h tk, Fr (hid s.heap) s.heap.objs.size h (put m "whole" (.bool (es.any due))) → News (hid s.heap) s.heap.objs.size h ((51, tabObj ps2) :: (B, listOf ys.toArray k) :: (s.heap.objs.size + 1, oc) :: (l, listOf (refsG tn) n) :: tn) → Q .next { s₂ with heap := h, toks := tk } := fun h tk => hQ s₂ h tk ps2 a₂ hps2
  clear F N hQ hq2 a₂ hn hl hlL c1
  obtain ⟨h2, g2, dr2, tk2, os2⟩ := s₂
  dsimp only at F2 N2 hq3 ⊢
  k_steps
  rename Fr _ _ _ _ => F3
  rename News _ _ _ _ => N3
  exact hq3 _ _ F3 N3
end
section
local macro_rules | `(tactic| walk_at "call ref") => `(tactic| (k_here; (with_reducible show wpAny _ _ (call (Value.ref _) _) _ _ _); refine holdCall ?_))
variable {w : World} {mean : ExcName → Option Value} {mg mb : Str → Option Value} {s s₁ : Shared} {d u : Nat} {fr : Option (List Env)}
theorem ret2 {l B : Addr} {oc : Obj} {ps : Array Value} {m : FM} {n k : Nat} {tn : NL} {es : List Ent} {ys : List Value} {E : Value → Shared → Prop} {Q : Flow → Shared → Prop} (hdp : d ≤ 400) (hun : u ≤ 100) (S : St w mean mg mb s.heap) (hps : TriplesOk ps.toList)
    (hoc : oc.data = .cell (some (.ref l))) (hT : Tups tn es) (hel : es.length ≤ 64) (hw : ∀ e ∈ es, 0 ≤ e.2.1) (hco : Coh es) (hI : IntsAre ys (duesI es.reverse 0 es.length))
    (hwh : m (Str.ofString "whole") = some (.bool (es.any due))) (hdu : m (Str.ofString "due") = some (.ref B))
    (F : Fr (hid s.heap) s.heap.objs.size s₁.heap m) (N : News (hid s.heap) s.heap.objs.size s₁.heap ((51, tabObj ps) :: (B, listOf ys.toArray k) :: (s.heap.objs.size + 1, oc) :: (l, listOf (refsG tn) n) :: tn))
    (hQ : ∀ s₂, Off s.heap s₂.heap → TabOk s₂.heap → (AllBare s₁.gens → AllBare s₂.gens) → s₂.os = s₁.os → s₂.drawn = s₁.drawn → Q (.ret (.bool true)) s₂) :
    wpAny (model P2 w) (A2 d fr u s.heap.objs.size) (exec (stmtAt law2.body 6) (env2 s.heap.objs.size)) Q E s₁ := by
  have em := put_same hwh
  rw [em] at F
  have em2 : put m "whole" (.bool (es.any due)) = put (put m "whole" (.bool (es.any due))) "due" (.ref B) := put_same ((if_neg (by decide)).trans hdu)
  rw [em2] at F
  have KX : (hd2.heap_39 w.params).In (hid s.heap) := S.K
  have T := S.T
  have hrw : PySem.Challenge.rw_dm0159_02.row.prog = P2 := rfl
  revert hrw KX; k_fill; intro KX hrw; clear hrw
  w_top on
  dsimp only [stmtAt, law2, dOf2]
  obtain ⟨h1, g1, dr1, tk1, os1⟩ := s₁
  dsimp only at F N ⊢
  have hvl := hI.length
  have hdl := duesI_len es.reverse 0 es.length
  refine holdQ ?_
  k_steps
  · rename Fr _ _ _ _ => F2
    rename News _ _ _ _ => N2
    have hsz : (refsG tn).size = es.length := by rw [refsG_size, hT.length]
    refine len_list (items := refsG tn) ⟨_, (N2 _ (.tail _ (.tail _ (.tail _ (.tail _ (.head _)))))).1, rfl, _, rfl⟩ (by omega) ?_
    rw [hsz]
    k_steps
    unfold Hold
    have hJ : News (hid s.heap) s.heap.objs.size _ ((51, tabObj ps) :: (B, listOf ys.toArray k) :: (s.heap.objs.size + 1, oc) :: (l, listOf (refsG tn) n) :: tn) := fun p hp => N2 p (.tail _ hp)
    have c2 := tabOkOf S F2 hJ (.head _) hps
    refine wpAny_call (foundC (es := es.reverse) (by rw [List.length_reverse]; exact hel) (fun e he => hw e (List.mem_reverse.mp he)) (hco.sub fun e he => List.mem_reverse.mp he) es.length _ _ _ l 0 es.length _ _ (Nat.le_refl _) rfl rfl ?d1 ?u1 (S.off (offOf F2) c2)
      (hT.at c2 (hJ _ (.tail _ (.tail _ (.tail _ (.head _))))).1 fun p hp => (hJ p (.tail _ (.tail _ (.tail _ (.tail _ hp))))).1) (Nat.zero_le _) (by rw [List.length_reverse]; exact Nat.le_refl _) fun s3 D3 vals3 n3 a3 hD3 hI3 hn3 => ?_)
    case d1 => show d + 1 + (es.length - 0) ≤ 690; omega
    case u1 => show u + 3 + 3 * (es.length - 0) ≤ 2990; omega
    obtain ⟨ps3, hps3, F3, N3⟩ := afterF S F2 hJ (rest51 hoc hT c2 hJ) a3
    have N3' : News (hid s.heap) s.heap.objs.size s3.heap ((D3, listOf vals3.toArray n3) :: (51, tabObj ps3) :: (B, listOf ys.toArray k) :: (s.heap.objs.size + 1, oc) :: (l, listOf (refsG tn) n) :: tn) := by
      intro p hp
      rcases List.mem_cons.mp hp with rfl | hp
      · exact newOf F2 hn3 hD3
      · exact N3 p hp
    have bg := a3.gens
    have bo := a3.os
    have bd := a3.drawn
    clear N3 hJ c2 N2 F2 a3 hD3 hn3
    obtain ⟨h3, g3, dr3, tk3, os3⟩ := s3
    dsimp only at F3 N3' bg bo bd hQ ⊢
    refine holdQ ?_
    k_steps
    unfold Hold
    refine holdQ ?_
    k_steps
    rename Fr _ _ _ _ => F4
    rename News _ _ _ _ => N4
    exact hQ _ (offOf F4) (tabOkOf S F4 N4 (.tail _ (.head _)) hps3) bg bo bd
  · rename (_ == _) = false => hf
    exfalso
    have := dues_whole es.reverse
    rw [List.length_reverse, List.any_reverse] at this
    unfold duesI at hf
    cases q : es.any due with
    | true =>
      rw [q] at hf this
      have h1 := this.mpr rfl
      have h2 : List.map (fun (n : Nat) => (n : Int)) (dues es.reverse 0 es.length) = [] := by simpa using hf
      exact h1 (List.map_eq_nil_iff.mp h2)
    | false =>
      rw [q] at hf this
      have h2 : ¬ (List.map (fun (n : Nat) => (n : Int)) (dues es.reverse 0 es.length) = []) := by simpa using hf
      have h1 := this.mp fun e => h2 (by rw [e]; rfl)
      cases h1
end
end Mine
namespace Mine
open PySem.Calls
theorem ledger1 {h₀ h : Heap} {L B D l C : Addr} {oB oD ol oc o5 : Obj} {tn : NL} (N : News h₀ L h ((B, oB) :: (C, oc) :: (l, ol) :: (D, oD) :: (51, o5) :: tn)) : News h₀ L h ((51, o5) :: (B, oB) :: (C, oc) :: (l, ol) :: tn) := by
  intro p hp
  rcases List.mem_cons.mp hp with rfl | hp
  · exact N _ (.tail _ (.tail _ (.tail _ (.tail _ (.head _)))))
  · rcases List.mem_cons.mp hp with rfl | hp
    · exact N _ (.head _)
    · rcases List.mem_cons.mp hp with rfl | hp
      · exact N _ (.tail _ (.head _))
      · rcases List.mem_cons.mp hp with rfl | hp
        · exact N _ (.tail _ (.tail _ (.head _)))
        · exact N _ (.tail _ (.tail _ (.tail _ (.tail _ (.tail _ hp)))))
section
variable {w : World} {mean : ExcName → Option Value} {mg mb : Str → Option Value} {A : Around} {R : Result → Shared → Prop} {s : Shared}
theorem lawC {l : Addr} {vs : List Value} {ns : List Int} (hA : A.handled = none) (hg : A.guards = some []) (hdp : A.depth ≤ 400) (hun : A.units ≤ 100) (S : St w mean mg mb s.heap)
    (hl : (hid s.heap).IsList l vs.toArray) (hI : IntsAre vs ns) (hlen : ns.length ≤ 63)
    (hR : ∀ s', After s s' → R (.ok (.ret (.bool true))) s') : codeAny (model P2 w) A (.call (.ref 87) ⟨[.ref l], []⟩) R s := by
  obtain ⟨ha, d, fr, gd, u⟩ := A
  dsimp only at hA hg hdp hun
  subst hA hg
  have hroom : d < recursionLimit := by show d < 1000; omega
  have KX : (hd2.heap_39 w.params).In (hid s.heap) := S.K
  have T := S.T
  have hf := S.gd.K 87 _ rfl
  have hcd : s.heap.CodeRec (.ref 86) (Str.ofString "law") := codeRec_of S.gd.K (by rfl)
  have hrw : PySem.Challenge.rw_dm0159_02.row.prog = P2 := rfl
  revert hrw KX; k_fill; intro KX hrw; clear hrw
  w_top on
  refine call_cellsN (name := Str.ofString "law") hroom hf rfl S.gd.lim hcd rfl (kinds_of (by kinds_ok)) (by decide) fun h₁ tk₁ cells F N0 X0 => ?_
  obtain ⟨oc, rfl, hoc⟩ := CellsAre.one (n := Str.ofString "row") (c := s.heap.objs.size + 1) X0
  replace hoc : oc.data = .cell none := hoc
  obtain ⟨ps, hps, N1⟩ := S.tab F
  replace F : Fr (hid s.heap) s.heap.objs.size h₁ (put (fun _ => none) "script" (.ref l)) := hid_fr F
  have N2 : News (hid s.heap) s.heap.objs.size h₁ [(s.heap.objs.size + 1, oc), (51, tabObj ps)] := by
    intro p hp
    rcases List.mem_cons.mp hp with rfl | hp
    · exact ⟨(N0 _ (.head _)).1, (N0 _ (.head _)).2.1, ghost_fresh (N0 _ (.head _)).2.2⟩
    · exact N1 p hp
  have hvl := hI.length
  clear N0 N1 X0
  refine execs_seq ?_
  k_steps
  refine ⟨rfl, ?_⟩
  unfold Hold
  refine execs_seq ?_
  k_steps
  refine ⟨rfl, ?_⟩
  unfold Hold
  refine execs_seq ?_
  k_steps
  refine ⟨rfl, ?_⟩
  unfold Hold
  refine execs_seq (wpAny_For ?_)
  k_steps
  rename Fr _ _ _ _ => F3
  rename News _ _ _ _ => N3
  rename IntsAre _ (ns ++ [20]) => hI3
  rename _ ∧ AllLt _ _ => l3
  rename Obj.data _ = Data.cell (some _) => hoc3
  clear hoc
  have N4 := ledger0 N3
  have hCl := cell_ne (N4 _ (.head _)).1 hoc3 (N4 _ (.tail _ (.head _))).1
  have h5l := tab_ne (N4 _ (.tail _ (.tail _ (.tail _ (.head _))))).1 (N4 _ (.tail _ (.head _))).1
  have hDl := Nat.ne_of_gt l3.2.1
  have hl3 : (ns ++ [20] : List Int).length ≤ 64 := by rw [List.length_append, List.length_singleton]; omega
  have hw3 := hI3.length
  refine for2 (s := s) (ns := ns ++ [20]) hdp hun S hps hoc3 hCl hDl h5l hI3 hl3 F3 ((if_neg (by decide)).trans (if_pos rfl)) (if_pos rfl) N4 fun m h tk news hJ F5 N5 => ?_
  obtain ⟨pl, wy, t1, t2, n, tn, es, hpl, hwy, rfl, htl, hT, hel, hK⟩ := hJ
  clear F3 N3 N4
  refine ⟨rfl, ?_⟩
  unfold Hold
  have hel' : es.length ≤ 64 := by omega
  refine execs_seq (due2 (s := s) hdp hun S hoc3 hT hel' F5 N5 fun B h6 tk6 ys k F6 N6 hI6 => ⟨rfl, ?_⟩)
  unfold Hold
  have N6' := ledger1 N6
  refine execs_seq (whole2 (s := s) hdp hun S hps hoc3 hT hel' (fun e he => (hK.ent e he).1) hK.coh F6 N6' fun s7 h7 tk7 ps7 a7 hps7 F7 N7 => ⟨rfl, ?_⟩)
  unfold Hold
  refine wpAny_execs_cons (ret2 (s := s) hdp hun S hps7 hoc3 hT hel' (fun e he => (hK.ent e he).1) hK.coh hI6 (if_pos rfl) ((if_neg (by decide)).trans (if_pos rfl)) F7 N7 fun s8 o8 c8 g8 os8 d8 => ?_)
  exact hR s8 ⟨o8, c8, fun q => g8 (a7.gens q), os8.trans a7.os, d8.trans a7.drawn⟩
end
end Mine
namespace Mine
open PySem.Calls
theorem oldOf {s s' : Shared} (hT : TabsAt [(55, 51)] s.heap) (a : After s s') : OldK s.heap s'.heap := by
  obtain ⟨hC, h51⟩ := hT (55, 51) (.head _)
  dsimp only at hC h51
  obtain ⟨_, ps, hP, _⟩ := a.code
  refine ⟨fun b o e => ?_, fun b o e => ?_⟩
  · by_cases hb : b = 51
    · subst hb
      rw [h51] at e
      cases e
      exact .inr (.inl ⟨(hC.tab h51).isCodeTable, rfl, #[], ps, rfl, by rw [Array.empty_append]; exact hP⟩)
    · exact .inl (a.off b o hb e)
  · by_cases hb : b = 51
    · subst hb; exact ⟨_, hP⟩
    · exact ⟨o, a.off b o hb e⟩
theorem stOf {w : World} {mean : ExcName → Option Value} {mg mb : Str → Option Value} {h : Heap} (hT : TabsAt [(55, 51)] h) (KX : (hd2.heap_39 w.params).In h) (T : Top hd2.view_39 (looseW hd2.view_39 [Str.ofString "_control_character_re"]) mean mg mb h) : St w mean mg mb h where
  K := fun a o e => hid_get (KX a o e) fun q => by rw [q, noTab] at e; cases e
  T := ghost_top hT T
  code := ⟨(hT (55, 51) (.head _)).1, #[], (hT (55, 51) (.head _)).2, trivial⟩
theorem tabsOf {w : World} {mean : ExcName → Option Value} {mg mb : Str → Option Value} {h : Heap} (KX : (hd2.heap_39 w.params).In h) (T : Top hd2.view_39 (looseW hd2.view_39 [Str.ofString "_control_character_re"]) mean mg mb h) : TabsAt [(55, 51)] h := by
  intro q hq
  rw [List.mem_singleton.mp hq]
  exact tab_of (x := Str.ofString "_has_control_character") (d := ((recsOf hd2.view_39).find? fun e => e.name == Str.ofString "_has_control_character").get (by decide +kernel)) T KX (Option.some_get _).symm (by kernel_rfl)
theorem final : PySem.Challenge.rw_dm0159_02.Holds := by
  refine hd2 ?_
  k_fill
  intro w s₀ s₁ mg mb G Y fa o pm cd doc dV kV ho hd hcd hD hmg hg args vals as hpre hlay hrd hwl hlo
  have KX := kIn_of Y
  have X := (Ground.X G).1
  have V := (Ground.X G).2
  refine Ground.open G ?_
  intro T B D TE TW
  try (refine guard_noD D (by decide +kernel) ?_; clear D)
  wrow_args hpre hlay hrd hwl hlo
  refine enter_call ?_
  have e87 : mg (Str.ofString "law") = some (.ref 87) := mg_of KX T.g rfl
  have efa : Value.ref fa = Value.ref 87 := Option.some.inj (hmg.symm.trans e87)
  rw [efa]
  have hT := tabsOf KX T
  rename IntsAre _ _ => hI
  rename Heap.IsList _ _ _ => hL
  rename ¬ _ < _ => hc
  refine lawC rfl rfl (by decide) (by decide) (stOf hT KX T) (ghost_list hT hL) hI (by omega) fun s' a => ?_
  refine ⟨.inl ⟨_, .bool true, [], rfl, ?_, .bool true, ?_, unshared_nil⟩, oldOf hT a, a.os, a.gens (.of_eq hg)⟩
  · exact raisesW_false (by wrow_none_raised)
  · exact postW_of (by wrow_shape) (by wtm_val) (by first | rfl | decide)
end Mine
theorem PySem.Challenge.cw_dm0159_02_holds : PySem.Challenge.rw_dm0159_02.Holds :=
  Mine.final

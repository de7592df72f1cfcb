import PyProof.Rows.All
import Wide.All
import OpenK.AllK
import Wide.FinOn
import Lean
import PySem.Challenge.RW_pe0213_01
open PySem PySem.W PyProof.Rows
set_option Elab.async false
set_option maxRecDepth 100000
set_option maxHeartbeats 8000000 in
open_top Mine.hd for PySem.Challenge.rw_pe0213_01

section
open PySem PySem.W PyProof.Rows
set_option Elab.async false
set_option maxRecDepth 100000
namespace Mine
theorem pa_pat : PlainAttrs "re.Pattern" :=
  ⟨⟨"object.__getattribute__", by rw [typeLookup_type, builtinLookup_eq_fast]; kernel_rfl, by decide +kernel⟩, by rw [typeLookup_type, builtinLookup_eq_fast]; kernel_rfl⟩
theorem slot_sub : Slot "re.Pattern" "sub" "re.Pattern.sub" :=
  .of (owner := "re.Pattern") (n := "sub") (by rw [typeLookup_type, builtinLookup_eq_fast]; kernel_rfl) (by decide +kernel) (by decide +kernel) (by decide +kernel)
    (by first | exact .inl (by decide +kernel) | exact .inr (by decide +kernel)) (by rw [isSubtype_type]; kernel_rfl)
theorem type_sub : typeOf (.builtin "re.Pattern.sub") = pure (.type "method_descriptor") := by show builtinType _ = _; rw [builtinType_eq_fast]; kernel_rfl
theorem entry_sub : entryFor table "re.Pattern.sub" = some Builtin.«re.Pattern.sub» := entryFor_of_tree (by kernel_rfl)
theorem entry_loop : entryFor table "re.Pattern.sub.loop" = some Builtin.«re.Pattern.sub.loop» := entryFor_of_tree (by kernel_rfl)
end Mine
end

section
open PySem PySem.W PyProof.Rows
set_option Elab.async false
set_option maxRecDepth 100000
namespace Mine
open PySem.Sre

def code2 : Array Nat := #[14, 9, 4, 1, 2, 16, 10, 16, 13, 0, 7, 7, 16, 13, 16, 10, 15, 18, 5, 16, 10, 15, 13, 11, 16, 13, 5, 5, 0, 16, 10, 1, 15, 2, 0, 1]
def code1 : Array Nat := #[14, 4, 0, 1, 1, 6, 1, 16, 46, 1]

def mkM (code text : Array Nat) (lim start ls : Nat) (must : Bool) (pc pos handed : Nat) (om : Bool) (fr : List Sre.Frame) (wt : Nat) (ans : Option Bool) (sn : Sre.Seen) : M :=
  { code, text, lim, start, lastStart := ls, mustAdvance := must, pc, pos, handed, outermost := om, marks := #[], frames := fr, weight := wt, answer := ans, seen := sn }

theorem runFor_succ (n : Nat) (m : M) (h : m.outcome = none) : m.runFor (n + 1) = (m.step).runFor n := by
  rw [M.runFor, h]; rfl
theorem runFor_fix (n : Nat) (m : M) (h : m.outcome.isSome = true) : m.runFor n = m := by
  cases n with
  | zero => rfl
  | succ n => rw [M.runFor, if_pos h]
theorem runFor_add (a b : Nat) (m : M) : m.runFor (a + b) = (m.runFor a).runFor b := by
  induction a generalizing m with
  | zero => rw [Nat.zero_add]; rfl
  | succ a ih =>
    cases h : m.outcome with
    | some o =>
      have h' : m.outcome.isSome = true := by rw [h]; rfl
      rw [runFor_fix (a + 1 + b) m h', runFor_fix (a + 1) m h', runFor_fix b m h']
    | none => rw [Nat.add_right_comm, runFor_succ _ _ h, runFor_succ _ _ h, ih]

theorem step_exec {m : M} (h1 : m.outcome = none) (h2 : m.answer = none) (h3 : m.pc < m.code.size) : m.step = m.exec := by
  simp only [M.step, h1, h2, h3, Option.isSome_none, Bool.false_eq_true, if_false, if_true]

theorem attemptFrom_plain {m : M} {s : Nat} {b : Bool} (hf : m.hasFirstSet = false) : m.attemptFrom s b = m.attemptAt s b := by
  unfold M.attemptFrom; rw [hf]; rfl

section
variable {text : Array Nat} {lim start ls pos handed wt : Nat} {must om : Bool} {fr : List Sre.Frame} {sn : Sre.Seen} {code : Array Nat} {pc : Nat}

theorem lit_ok (c : Nat) (hop : ops[code.getD pc 0]? = some .LITERAL) (hc : code.getD (pc + 1) 0 = c) (hs : pc < code.size) (hp : pos < lim) (ht : text.getD pos 0 = c) :
    (mkM code text lim start ls must pc pos handed om fr wt none sn).step = mkM code text lim start ls must (pc + 2) (pos + 1) handed om fr wt none (sn.add (code.getD pc 0)) := by
  have h1 : ¬ (pos ≥ lim) := by omega
  rw [step_exec (by rfl) (by rfl) (by exact hs)]
  simp only [mkM, M.exec, M.word, Nat.add_zero, hop, accepts, hc, ht, h1, itemWidth, if_false, beq_self_eq_true]
theorem lit_no (c : Nat) (hop : ops[code.getD pc 0]? = some .LITERAL) (hc : code.getD (pc + 1) 0 = c) (hs : pc < code.size) (ht : pos < lim → text.getD pos 0 ≠ c) :
    (mkM code text lim start ls must pc pos handed om fr wt none sn).step = mkM code text lim start ls must pc pos handed om fr wt (some false) (sn.add (code.getD pc 0)) := by
  rw [step_exec (by rfl) (by rfl) (by exact hs)]
  by_cases h1 : pos ≥ lim
  · simp only [mkM, M.exec, M.word, Nat.add_zero, hop, h1, M.say, if_true]
  · have h2 : (text.getD pos 0 == c) = false := beq_eq_false_iff_ne.mpr (ht (by omega))
    simp only [mkM, M.exec, M.word, Nat.add_zero, hop, accepts, hc, h1, h2, M.say, if_false]
theorem jump (hop : ops[code.getD pc 0]? = some .JUMP) (hs : pc < code.size) :
    (mkM code text lim start ls must pc pos handed om fr wt none sn).step = mkM code text lim start ls must (pc + 1 + code.getD (pc + 1) 0) pos handed om fr wt none (sn.add (code.getD pc 0)) := by
  rw [step_exec (by rfl) (by rfl) (by exact hs)]
  simp only [mkM, M.exec, M.word, Nat.add_zero, hop]
theorem succ_ok (hop : ops[code.getD pc 0]? = some .SUCCESS) (hs : pc < code.size) (hm : (om && (must && pos == start)) = false) :
    (mkM code text lim start ls must pc pos handed om fr wt none sn).step = mkM code text lim start ls must pc pos pos om fr wt (some true) (sn.add (code.getD pc 0)) := by
  rw [step_exec (by rfl) (by rfl) (by exact hs)]
  simp only [mkM, M.exec, M.word, Nat.add_zero, hop, M.say, Bool.false_and, Bool.false_or, hm, Bool.false_eq_true, if_false]
theorem branch (hop : ops[code.getD pc 0]? = some .BRANCH) (hs : pc < code.size) (hz : (code.getD (pc + 1) 0 == 0) = false) (hw : wt < 1000) :
    (mkM code text lim start ls must pc pos handed om fr wt none sn).step = mkM code text lim start ls must (pc + 2) pos pos om ({ wait := .nextBranch, pc := pc + 1, pos, outermost := om } :: fr) (wt + 1) none (sn.add (code.getD pc 0)) := by
  rw [step_exec (by rfl) (by rfl) (by exact hs)]
  have h : ¬ (wt + 1 + 0 > 16777216) := by omega
  simp only [mkM, M.exec, M.word, Nat.add_zero, hop, M.alternative, hz, Bool.false_eq_true, if_false, M.attempt, M.keep, M.frame, Option.isSome_none]
  rw [if_neg (by show ¬ (wt + 1 + 0 > 16777216); omega)]
  rfl
theorem ret_branch_yes {f : Sre.Frame} (hf : f.wait = .nextBranch) :
    (mkM code text lim start ls must pc pos handed om (f :: fr) wt (some true) sn).step = mkM code text lim start ls must f.pc f.pos handed f.outermost fr (wt - (1 + f.kept.marks.size)) (some true) sn := by
  simp only [M.step, mkM, Option.isSome_none, Bool.false_eq_true, if_false, M.resume, hf, if_true, M.say]
theorem ret_start_yes {f : Sre.Frame} (hf : f.wait = .nextStart) :
    (mkM code text lim start ls must pc pos handed om (f :: fr) wt (some true) sn).step = mkM code text lim start ls must f.pc f.pos handed f.outermost fr (wt - (1 + f.kept.marks.size)) (some true) sn := by
  simp only [M.step, mkM, Option.isSome_none, Bool.false_eq_true, if_false, M.resume, hf, if_true, M.say]
theorem ret_end {b : Bool} : (mkM code text lim start ls must pc pos handed om [] wt (some b) sn).step = { mkM code text lim start ls must pc pos handed om [] wt (some b) sn with outcome := some (if b then .matched else .failed) } := by
  simp only [M.step, mkM, Option.isSome_none, Bool.false_eq_true, if_false]
theorem ret_branch_no {fpc fpos : Nat} {fo : Bool} (hz : (code.getD (fpc + code.getD fpc 0) 0 == 0) = false) (hw : wt < 1000) :
    (mkM code text lim start ls must pc pos handed om ({ wait := .nextBranch, pc := fpc, pos := fpos, outermost := fo } :: fr) (wt + 1) (some false) sn).step =
      mkM code text lim start ls must (fpc + code.getD fpc 0 + 1) fpos fpos fo ({ wait := .nextBranch, pc := fpc + code.getD fpc 0, pos := fpos, outermost := fo } :: fr) (wt + 1) none sn := by
  simp only [M.step, mkM, Option.isSome_none, Bool.false_eq_true, if_false, M.resume, M.alternative, M.putBack, hz, M.attempt, M.frame]
  rw [if_neg (by show ¬ (wt + 1 - (1 + 0) + 1 + 0 > 16777216); omega)]
  rfl
theorem assert_not (hop : ops[code.getD pc 0]? = some .ASSERT_NOT) (hs : pc < code.size) (hb : code.getD (pc + 2) 0 = 0) (hw : wt < 1000) :
    (mkM code text lim start ls must pc pos handed om fr wt none sn).step = mkM code text lim start ls must (pc + 3) pos pos false ({ wait := .lookNot, pc, pos, outermost := om } :: fr) (wt + 1) none (sn.add (code.getD pc 0)) := by
  rw [step_exec (by rfl) (by rfl) (by exact hs)]
  simp only [mkM, M.exec, M.word, Nat.add_zero, hop, hb, Nat.not_lt_zero, if_false, M.attempt, M.keep, M.frame, Option.isSome_none, Bool.and_false, Bool.false_eq_true, if_true, Nat.sub_zero]
  rw [if_neg (by show ¬ (wt + 1 + 0 > 16777216); omega)]
  rfl
theorem ret_lookNot_no {fpc fpos : Nat} {fo : Bool} :
    (mkM code text lim start ls must pc pos handed om ({ wait := .lookNot, pc := fpc, pos := fpos, outermost := fo } :: fr) (wt + 1) (some false) sn).step =
      mkM code text lim start ls must (fpc + 1 + code.getD (fpc + 1) 0) fpos handed fo fr wt none sn := by
  simp only [M.step, mkM, Option.isSome_none, Bool.false_eq_true, if_false, M.resume, M.putBack, M.word]
  rfl
theorem ret_lookNot_yes {fpc fpos : Nat} {fo : Bool} :
    (mkM code text lim start ls must pc pos handed om ({ wait := .lookNot, pc := fpc, pos := fpos, outermost := fo } :: fr) (wt + 1) (some true) sn).step =
      mkM code text lim start ls must fpc fpos handed fo fr wt (some false) sn := by
  simp only [M.step, mkM, Option.isSome_none, Bool.false_eq_true, if_false, M.resume, M.say, if_true]
  rfl
theorem at_line (hop : ops[code.getD pc 0]? = some .AT) (hs : pc < code.size) (hb : code.getD (pc + 1) 0 = 1) (ha : (pos == 0 || text.getD (pos - 1) 0 == 10) = true) :
    (mkM code text lim start ls must pc pos handed om fr wt none sn).step = mkM code text lim start ls must (pc + 2) pos handed om fr wt none ((sn.add (code.getD pc 0)).add 44) := by
  rw [step_exec (by rfl) (by rfl) (by exact hs)]
  simp only [mkM, M.exec, M.word, Nat.add_zero, hop, hb, M.isAt, ha, if_true]
theorem at_line_no (hop : ops[code.getD pc 0]? = some .AT) (hs : pc < code.size) (hb : code.getD (pc + 1) 0 = 1) (ha : (pos == 0 || text.getD (pos - 1) 0 == 10) = false) :
    (mkM code text lim start ls must pc pos handed om fr wt none sn).step = mkM code text lim start ls must pc pos handed om fr wt (some false) ((sn.add (code.getD pc 0)).add 44) := by
  rw [step_exec (by rfl) (by rfl) (by exact hs)]
  simp only [mkM, M.exec, M.word, Nat.add_zero, hop, hb, M.isAt, ha, Bool.false_eq_true, if_false, M.say]
theorem ret_start_no_end {fpc fpos : Nat} {fo : Bool} (h : ¬ fpos < ls) :
    (mkM code text lim start ls must pc pos handed om ({ wait := .nextStart, pc := fpc, pos := fpos, outermost := fo } :: fr) (wt + 1) (some false) sn).step =
      mkM code text lim start ls must fpc fpos handed fo fr wt (some false) sn := by
  simp only [M.step, mkM, Option.isSome_none, Bool.false_eq_true, if_false, M.resume, M.say, h]
  rfl
theorem ret_start_no_next {fpc fpos : Nat} {fo : Bool} (h : fpos < ls) (hf : ∀ m : M, m.code = code → m.hasFirstSet = false) (hw : wt < 1000) :
    (mkM code text lim start ls must pc pos handed om ({ wait := .nextStart, pc := fpc, pos := fpos, outermost := fo } :: fr) (wt + 1) (some false) sn).step =
      mkM code text lim (fpos + 1) ls false fpc (fpos + 1) (fpos + 1) false ({ wait := .nextStart, pc := fpc, pos := fpos + 1, outermost := false } :: fr) (wt + 1) none sn := by
  simp only [M.step, mkM, Option.isSome_none, Bool.false_eq_true, if_false, M.resume, M.say, h, if_true]
  rw [attemptFrom_plain (hf _ rfl)]
  simp only [M.attemptAt, M.attempt]
  rw [if_neg (by show ¬ (wt + 1 - (1 + 0) + 1 + 0 > 16777216); omega)]
  rfl
end

theorem noFirst1 : ∀ m : M, m.code = code1 → m.hasFirstSet = false := by
  intro m h; unfold M.hasFirstSet; rw [h]; rfl
theorem first2 : ∀ m : M, m.code = code2 → m.hasFirstSet = true := by
  intro m h; unfold M.hasFirstSet; rw [h]; rfl

def Ends (m : M) (k : Nat) (P : M → Prop) : Prop := ∃ n, n ≤ k ∧ (m.runFor n).outcome.isSome = true ∧ P (m.runFor n)
theorem Ends.step {m m' : M} {k : Nat} {P : M → Prop} (ho : m.outcome = none) (hs : m.step = m') (h : Ends m' k P) : Ends m (k + 1) P := by
  obtain ⟨n, h1, h2, h3⟩ := h
  refine ⟨n + 1, by omega, ?_, ?_⟩ <;> rw [runFor_succ _ _ ho, hs] <;> assumption
theorem Ends.now {m : M} {k : Nat} {P : M → Prop} (ho : m.outcome.isSome = true) (h : P m) : Ends m k P := ⟨0, Nat.zero_le _, ho, h⟩
theorem Ends.more {m : M} {k k' : Nat} {P : M → Prop} (h : Ends m k P) (hk : k ≤ k') : Ends m k' P := by
  obtain ⟨n, h1, h2⟩ := h
  exact ⟨n, by omega, h2⟩

def Hit (s e : Nat) (m : M) : Prop := (match m.outcome with | some .matched => True | _ => False) ∧ m.start = s ∧ m.handed = e
def Miss (m : M) : Prop := match m.outcome with | some .failed => True | _ => False

section
variable {text : Array Nat} {lim start ls pos handed wt : Nat} {must om : Bool} {sn : Sre.Seen}

theorem eol_crlf {s : Nat} (h0 : text.getD s 0 = 13) (h1 : text.getD (s + 1) 0 = 10) (hl : s + 1 < lim) :
    Ends (mkM code2 text lim s ls false 10 s s om [{ wait := .nextStart, pc := 10, pos := s, outermost := om }] 1 none sn) 20 (Hit s (s + 2)) := by
  refine .step rfl (branch rfl (by decide) rfl (by omega)) ?_
  refine .step rfl (lit_ok 13 rfl rfl (by decide) (by omega) h0) ?_
  refine .step rfl (lit_ok 10 rfl rfl (by decide) (by omega) h1) ?_
  refine .step rfl (jump rfl (by decide)) ?_
  refine .step rfl (succ_ok rfl (by decide) (by simp)) ?_
  refine .step rfl (ret_branch_yes rfl) ?_
  refine .step rfl (ret_start_yes rfl) ?_
  refine .step rfl ret_end ?_
  exact .now rfl ⟨trivial, rfl, rfl⟩
theorem eol_lf {s : Nat} (h0 : text.getD s 0 = 10) (hl : s < lim) :
    Ends (mkM code2 text lim s ls false 10 s s om [{ wait := .nextStart, pc := 10, pos := s, outermost := om }] 1 none sn) 20 (Hit s (s + 1)) := by
  refine .step rfl (branch rfl (by decide) rfl (by omega)) ?_
  refine .step rfl (lit_no 13 rfl rfl (by decide) (fun _ => by rw [h0]; decide)) ?_
  refine .step rfl (ret_branch_no rfl (by omega)) ?_
  refine .step rfl (lit_ok 10 rfl rfl (by decide) (by omega) h0) ?_
  refine .step rfl (jump rfl (by decide)) ?_
  refine .step rfl (succ_ok rfl (by decide) (by simp)) ?_
  refine .step rfl (ret_branch_yes rfl) ?_
  refine .step rfl (ret_start_yes rfl) ?_
  refine .step rfl ret_end ?_
  exact .now rfl ⟨trivial, rfl, rfl⟩
theorem eol_cr {s : Nat} (h0 : text.getD s 0 = 13) (h1 : s + 1 < lim → text.getD (s + 1) 0 ≠ 10) (hl : s < lim) :
    Ends (mkM code2 text lim s ls false 10 s s om [{ wait := .nextStart, pc := 10, pos := s, outermost := om }] 1 none sn) 20 (Hit s (s + 1)) := by
  refine .step rfl (branch rfl (by decide) rfl (by omega)) ?_
  refine .step rfl (lit_ok 13 rfl rfl (by decide) (by omega) h0) ?_
  refine .step rfl (lit_no 10 rfl rfl (by decide) h1) ?_
  refine .step rfl (ret_branch_no rfl (by omega)) ?_
  refine .step rfl (lit_no 10 rfl rfl (by decide) (fun _ => by rw [h0]; decide)) ?_
  refine .step rfl (ret_branch_no rfl (by omega)) ?_
  refine .step rfl (lit_ok 13 rfl rfl (by decide) (by omega) h0) ?_
  refine .step rfl (assert_not rfl (by decide) rfl (by omega)) ?_
  refine .step rfl (lit_no 10 rfl rfl (by decide) h1) ?_
  refine .step rfl ret_lookNot_no ?_
  refine .step rfl (jump rfl (by decide)) ?_
  refine .step rfl (succ_ok rfl (by decide) (by simp)) ?_
  refine .step rfl (ret_branch_yes rfl) ?_
  refine .step rfl (ret_start_yes rfl) ?_
  refine .step rfl ret_end ?_
  exact .now rfl ⟨trivial, rfl, rfl⟩
end

def isEol (c : Nat) : Prop := c = 10 ∨ c = 13
theorem inSet_yes {c : Nat} {sn : Sre.Seen} (h : isEol c) : ∃ sn', inSet code2 c code2.size 5 true sn = .ok (true, sn') := by
  rcases h with rfl | rfl
  · exact ⟨_, rfl⟩
  · exact ⟨_, rfl⟩
theorem inSet_no {c : Nat} {sn : Sre.Seen} (h : ¬ isEol c) : ∃ sn', inSet code2 c code2.size 5 true sn = .ok (false, sn') := by
  have h1 : (c == 10) = false := beq_eq_false_iff_ne.mpr fun e => h (.inl e)
  have h2 : (c == 13) = false := beq_eq_false_iff_ne.mpr fun e => h (.inr e)
  refine ⟨((sn.add 16).add 16).add 0, ?_⟩
  show inSet code2 c 36 5 true sn = _
  unfold inSet
  show (if (c == 10) = true then _ else inSet code2 c 35 7 true (sn.add 16)) = _
  rw [h1, if_neg Bool.false_ne_true]
  unfold inSet
  show (if (c == 13) = true then _ else inSet code2 c 34 9 true ((sn.add 16).add 16)) = _
  rw [h2, if_neg Bool.false_ne_true]
  rfl

theorem admitted_hit {m : M} (hc : m.code = code2) {s : Nat} (hs : s < m.lim) (he : isEol (m.text.getD s 0)) : ∀ (n : Nat) (p fuel : Nat) (sn : Sre.Seen), s = p + n → n < fuel →
    (∀ i, p ≤ i → i < s → ¬ isEol (m.text.getD i 0)) → ∃ sn', m.admitted fuel p sn = .ok (some s, sn') := by
  intro n
  induction n with
  | zero =>
    intro p fuel sn hsp hf _
    obtain ⟨fuel, rfl⟩ : ∃ f, fuel = f + 1 := ⟨fuel - 1, by omega⟩
    have : s = p := by omega
    subst this
    obtain ⟨sn', e⟩ := inSet_yes (sn := sn) he
    unfold M.admitted
    rw [if_neg (by omega), hc, e]
    exact ⟨sn', rfl⟩
  | succ n ih =>
    intro p fuel sn hsp hf hno
    obtain ⟨fuel, rfl⟩ : ∃ f, fuel = f + 1 := ⟨fuel - 1, by omega⟩
    obtain ⟨sn', e⟩ := inSet_no (sn := sn) (hno p (Nat.le_refl _) (by omega))
    unfold M.admitted
    rw [if_neg (by omega), hc, e]
    exact ih (p + 1) fuel sn' (by omega) (by omega) fun i h1 h2 => hno i (by omega) h2
theorem admitted_miss {m : M} (hc : m.code = code2) : ∀ (fuel p : Nat) (sn : Sre.Seen), (∀ i, p ≤ i → i < m.lim → ¬ isEol (m.text.getD i 0)) → ∃ sn', m.admitted fuel p sn = .ok (none, sn') := by
  intro fuel
  induction fuel with
  | zero => intro p sn _; exact ⟨sn, rfl⟩
  | succ fuel ih =>
    intro p sn hno
    unfold M.admitted
    by_cases h : p ≥ m.lim
    · rw [if_pos h]; exact ⟨sn, rfl⟩
    · obtain ⟨sn', e⟩ := inSet_no (sn := sn) (hno p (Nat.le_refl _) (by omega))
      rw [if_neg h, hc, e]
      exact ih (p + 1) sn' fun i h1 h2 => hno i (by omega) h2

theorem attemptFrom_some {m : M} {s s' : Nat} {sn' : Sre.Seen} {b : Bool} (hf : m.hasFirstSet = true) (e : m.admitted (m.lim + 1 - s) s m.seen = .ok (some s', sn')) :
    m.attemptFrom s b = M.attemptAt { m with mustAdvance := false, seen := sn' } s' b := by
  unfold M.attemptFrom; rw [hf, e]; rfl
theorem attemptFrom_none {m : M} {s : Nat} {sn' : Sre.Seen} {b : Bool} (hf : m.hasFirstSet = true) (e : m.admitted (m.lim + 1 - s) s m.seen = .ok (none, sn')) :
    m.attemptFrom s b = M.say { m with seen := sn' } false := by
  unfold M.attemptFrom; rw [hf, e]; rfl
section
variable {text : Array Nat} {lim start ls pos handed wt : Nat} {must om : Bool} {sn : Sre.Seen}
theorem attemptFrom_hit {s p : Nat} {b : Bool} (hps : p ≤ s) (hs : s < lim) (he : isEol (text.getD s 0)) (hno : ∀ i, p ≤ i → i < s → ¬ isEol (text.getD i 0)) :
    ∃ sn', (mkM code2 text lim start ls must 10 pos handed om [] 0 none sn).attemptFrom p b = mkM code2 text lim s ls false 10 s s b [{ wait := .nextStart, pc := 10, pos := s, outermost := b }] 1 none sn' := by
  obtain ⟨sn', e⟩ := admitted_hit (m := mkM code2 text lim start ls must 10 pos handed om [] 0 none sn) rfl hs he (s - p) p (lim + 1 - p) sn (by omega) (by omega) hno
  refine ⟨sn', ?_⟩
  exact (attemptFrom_some (first2 _ rfl) e).trans rfl
theorem attemptFrom_miss {p : Nat} {b : Bool} (hno : ∀ i, p ≤ i → i < lim → ¬ isEol (text.getD i 0)) :
    ∃ sn', (mkM code2 text lim start ls must 10 pos handed om [] 0 none sn).attemptFrom p b = mkM code2 text lim start ls must 10 pos handed om [] 0 (some false) sn' := by
  obtain ⟨sn', e⟩ := admitted_miss (m := mkM code2 text lim start ls must 10 pos handed om [] 0 none sn) rfl (lim + 1 - p) p sn hno
  refine ⟨sn', ?_⟩
  exact (attemptFrom_none (first2 _ rfl) e).trans rfl

theorem forSearch2 {p : Nat} : forSearch code2 text 0 p lim must = if (decide (p > lim) || decide (lim - p < 1)) = true then mkM code2 text lim p 0 must 10 p p true [] 0 (some false) (({} : Sre.Seen).add 14)
    else (mkM code2 text lim p lim must 10 p p true [] 0 none (({} : Sre.Seen).add 14)).attemptFrom p true := by
  rfl
theorem forSearch1 {p : Nat} : forSearch code1 text 0 p lim must = if (decide (p > lim) || decide (lim - p < 1)) = true then mkM code1 text lim p 0 must 5 p p true [] 0 (some false) (({} : Sre.Seen).add 14)
    else mkM code1 text lim p lim must 5 p p true [{ wait := .nextStart, pc := 5, pos := p, outermost := true }] 1 none (({} : Sre.Seen).add 14) := by
  rfl

theorem search2_hit {s e p : Nat} (hps : p ≤ s) (hs : s < lim) (hno : ∀ i, p ≤ i → i < s → ¬ isEol (text.getD i 0))
    (h : (text.getD s 0 = 13 ∧ s + 1 < lim ∧ text.getD (s + 1) 0 = 10 ∧ e = s + 2) ∨ (text.getD s 0 = 10 ∧ e = s + 1) ∨ (text.getD s 0 = 13 ∧ (s + 1 < lim → text.getD (s + 1) 0 ≠ 10) ∧ e = s + 1)) :
    Ends (forSearch code2 text 0 p lim must) 20 (Hit s e) := by
  have he : isEol (text.getD s 0) := by
    rcases h with h | h | h
    · exact .inr h.1
    · exact .inl h.1
    · exact .inr h.1
  rw [forSearch2, if_neg (by simp; omega)]
  obtain ⟨sn', e'⟩ := attemptFrom_hit (start := p) (ls := lim) (pos := p) (handed := p) (must := must) (om := true) (sn := ({} : Sre.Seen).add 14) (b := true) hps hs he hno
  rw [e']
  rcases h with ⟨h1, h2, h3, rfl⟩ | ⟨h1, rfl⟩ | ⟨h1, h2, rfl⟩
  · exact eol_crlf h1 h3 h2
  · exact eol_lf h1 hs
  · exact eol_cr h1 h2 hs
theorem search2_miss {p : Nat} (hno : ∀ i, p ≤ i → i < lim → ¬ isEol (text.getD i 0)) : Ends (forSearch code2 text 0 p lim must) 20 Miss := by
  rw [forSearch2]
  split
  · exact .step rfl ret_end (.now rfl trivial)
  · obtain ⟨sn', e'⟩ := attemptFrom_miss (start := p) (ls := lim) (pos := p) (handed := p) (must := must) (om := true) (sn := ({} : Sre.Seen).add 14) (p := p) (b := true) hno
    rw [e']
    exact .step rfl ret_end (.now rfl trivial)

def dotAt (text : Array Nat) (i : Nat) : Prop := (i == 0 || text.getD (i - 1) 0 == 10) = true ∧ text.getD i 0 = 46
theorem scan1_hit {s : Nat} (hs : s < lim) (hd : dotAt text s) : ∀ (n p : Nat) (must om : Bool) (sn : Sre.Seen), s = p + n → (∀ i, p ≤ i → i < s → ¬ dotAt text i) →
    Ends (mkM code1 text lim p lim must 5 p p om [{ wait := .nextStart, pc := 5, pos := p, outermost := om }] 1 none sn) (4 * n + 10) (Hit s (s + 1)) := by
  intro n
  induction n with
  | zero =>
    intro p must om sn hsp _
    have : s = p := by omega
    subst this
    refine .step rfl (at_line rfl (by decide) rfl hd.1) ?_
    refine .step rfl (lit_ok 46 rfl rfl (by decide) hs hd.2) ?_
    refine .step rfl (succ_ok rfl (by decide) ?_) ?_
    · have : (s + 1 == s) = false := beq_eq_false_iff_ne.mpr (by omega)
      rw [this]; simp
    refine .step rfl (ret_start_yes rfl) ?_
    refine .step rfl ret_end ?_
    exact .now rfl ⟨trivial, rfl, rfl⟩
  | succ n ih =>
    intro p must om sn hsp hno
    have hp := hno p (Nat.le_refl _) (by omega)
    cases ha : (p == 0 || text.getD (p - 1) 0 == 10) with
    | false =>
      refine Ends.more (.step rfl (at_line_no rfl (by decide) rfl ha) (.step rfl (ret_start_no_next (by omega) noFirst1 (by omega)) (ih (p + 1) false false _ (by omega) fun i h1 h2 => hno i (by omega) h2))) (by omega)
    | true =>
      refine Ends.more (.step rfl (at_line rfl (by decide) rfl ha) (.step rfl (lit_no 46 rfl rfl (by decide) fun _ e => hp ⟨ha, e⟩) (.step rfl (ret_start_no_next (by omega) noFirst1 (by omega)) (ih (p + 1) false false _ (by omega) fun i h1 h2 => hno i (by omega) h2)))) (by omega)
theorem scan1_miss : ∀ (n p : Nat) (must om : Bool) (sn : Sre.Seen), lim = p + n → (∀ i, p ≤ i → i < lim → ¬ dotAt text i) →
    Ends (mkM code1 text lim p lim must 5 p p om [{ wait := .nextStart, pc := 5, pos := p, outermost := om }] 1 none sn) (4 * n + 10) Miss := by
  intro n
  induction n with
  | zero =>
    intro p must om sn hsp _
    cases ha : (p == 0 || text.getD (p - 1) 0 == 10) with
    | false =>
      exact .step rfl (at_line_no rfl (by decide) rfl ha) (.step rfl (ret_start_no_end (by omega)) (.step rfl ret_end (.now rfl trivial)))
    | true =>
      exact .step rfl (at_line rfl (by decide) rfl ha) (.step rfl (lit_no 46 rfl rfl (by decide) fun h => absurd h (by omega)) (.step rfl (ret_start_no_end (by omega)) (.step rfl ret_end (.now rfl trivial))))
  | succ n ih =>
    intro p must om sn hsp hno
    have hp := hno p (Nat.le_refl _) (by omega)
    cases ha : (p == 0 || text.getD (p - 1) 0 == 10) with
    | false =>
      refine Ends.more (.step rfl (at_line_no rfl (by decide) rfl ha) (.step rfl (ret_start_no_next (by omega) noFirst1 (by omega)) (ih (p + 1) false false _ (by omega) fun i h1 h2 => hno i (by omega) h2))) (by omega)
    | true =>
      refine Ends.more (.step rfl (at_line rfl (by decide) rfl ha) (.step rfl (lit_no 46 rfl rfl (by decide) fun _ e => hp ⟨ha, e⟩) (.step rfl (ret_start_no_next (by omega) noFirst1 (by omega)) (ih (p + 1) false false _ (by omega) fun i h1 h2 => hno i (by omega) h2)))) (by omega)
theorem search1_hit {s p : Nat} (hps : p ≤ s) (hs : s < lim) (hd : dotAt text s) (hno : ∀ i, p ≤ i → i < s → ¬ dotAt text i) : Ends (forSearch code1 text 0 p lim must) (4 * lim + 10) (Hit s (s + 1)) := by
  rw [forSearch1, if_neg (by simp; omega)]
  exact (scan1_hit hs hd (s - p) p must true _ (by omega) hno).more (by omega)
theorem search1_miss {p : Nat} (hno : ∀ i, p ≤ i → i < lim → ¬ dotAt text i) : Ends (forSearch code1 text 0 p lim must) (4 * lim + 10) Miss := by
  rw [forSearch1]
  split
  · exact Ends.more (k := 1) (.step rfl ret_end (.now (k := 0) rfl trivial)) (by omega)
  · rename_i h
    exact (scan1_miss (lim - p) p must true _ (by simp at h; omega) hno).more (by omega)
end
end Mine
end

section
open PySem PySem.W PyProof.Rows
set_option Elab.async false
set_option maxRecDepth 100000
namespace Mine
open PySem.Builtin PySem.Builtin.Re

section
variable {M : Model} {A : Around} {E : Value → Shared → Prop} {s : Shared}

theorem runFor_same {m : Sre.M} {a b : Nat} (ha : (m.runFor a).outcome.isSome = true) (hb : (m.runFor b).outcome.isSome = true) : m.runFor a = m.runFor b := by
  rcases Nat.le_total a b with h | h
  · obtain ⟨c, rfl⟩ := Nat.exists_eq_add_of_le h
    rw [runFor_add, runFor_fix c _ ha]
  · obtain ⟨c, rfl⟩ := Nat.exists_eq_add_of_le h
    rw [runFor_add, runFor_fix c _ hb]

theorem drive {P : Sre.M → Prop} {Q : Sre.M → Shared → Prop} (hQ : ∀ m, m.outcome.isSome = true → P m → Q m s) : ∀ (turns : Nat) (m : Sre.M) (k : Nat), Ends m k P → k < 4 * turns → wpAny M A (reDrive turns m) Q E s := by
  intro turns
  induction turns with
  | zero => intro m k _ h; omega
  | succ t ih =>
    intro m k ⟨n, hn, ho, hp⟩ hk
    unfold reDrive
    show wpAny M A (if (m.runFor 4).outcome.isSome = true then pure (m.runFor 4) else _) Q E s
    by_cases h4 : (m.runFor 4).outcome.isSome = true
    · rw [if_pos h4]
      exact wpAny_pure (hQ _ h4 (runFor_same ho h4 ▸ hp))
    · rw [if_neg h4]
      have hn4 : 4 < n := by
        rcases Nat.lt_or_ge 4 n with h | h
        · exact h
        · obtain ⟨c, e⟩ := Nat.exists_eq_add_of_le h
          rw [e, runFor_add, runFor_fix c _ ho] at h4
          exact absurd ho h4
      obtain ⟨c, rfl⟩ := Nat.exists_eq_add_of_le (Nat.le_of_lt hn4)
      rw [runFor_add] at ho hp
      exact wpAny_bind (wpAny_rule (ih _ (k - 4) ⟨c, by omega, ho, hp⟩ (by omega)))

theorem forIn_quiet {α : Type} {f : α → PUnit → Sem (ForInStep PUnit)} : ∀ (l : List α) {Q : PUnit → Shared → Prop}, (∀ x Q', Q' (.yield ⟨⟩) s → wpAny M A (f x ⟨⟩) Q' E s) → Q ⟨⟩ s → wpAny M A (forIn l ⟨⟩ f) Q E s
  | [], _, _, h => by rw [List.forIn_nil]; exact wpAny_pure h
  | x :: l, _, hf, h => by
    rw [List.forIn_cons]
    exact wpAny_bind (hf x _ (forIn_quiet l hf h))

theorem runToEnd {m : Sre.M} {k : Nat} {P : Sre.M → Prop} {Q : Option Sre.M → Shared → Prop} (h : Ends m k P) (hk : k < 2 ^ 60)
    (hQ : ∀ m', P m' → (match m'.outcome with | some .matched => Q (some m') s | some .failed => Q none s | _ => False)) : wpAny M A (reRunToEnd m) Q E s := by
  unfold reRunToEnd
  refine wpAny_bind (drive (P := P) (fun m' ho hp => ?_) (2 ^ 64) m k h (by omega))
  refine wpAny_bind (forIn_quiet _ (fun x Q' hq => ?_) ?_)
  · split
    · exact wpAny_bind (wpAny_rule (wpAny_pure hq))
    · exact wpAny_bind (wpAny_pure (wpAny_pure hq))
  · have := hQ m' hp
    cases hm : m'.outcome with
    | none => rw [hm] at this; exact this.elim
    | some o =>
      rw [hm] at this
      cases o with
      | matched => exact wpAny_pure this
      | failed => exact wpAny_pure this
      | stuck w => exact this.elim
end

structure PatIs (h : Heap) (p : Addr) (code : Array Nat) : Prop where
  ex : ∃ v0 v1 v3 v4 cd oc n items, h.get? p = some ⟨.type "re.Pattern", none, .fields #[v0, v1, .int 0 0, v3, v4, .ref cd, .int 0 0], #[]⟩ ∧ h.get? cd = some oc ∧ oc.data = .seq items n ∧ items.map (fun v => (reRawOf v).toNat) = code
theorem PatIs.keeps {h h' : Heap} {p : Addr} {code : Array Nat} (x : PatIs h p code) (hk : ∀ b o, h.get? b = some o → h'.get? b = some o) : PatIs h' p code := by
  obtain ⟨v0, v1, v3, v4, cd, oc, n, items, h1, h2, h3, h4⟩ := x.ex
  exact ⟨v0, v1, v3, v4, cd, oc, n, items, hk _ _ h1, hk _ _ h2, h3, h4⟩

section
variable {M : Model} {A : Around} {E : Value → Shared → Prop} {s : Shared} {p : Addr} {code : Array Nat} {x : Str} {t : Tok}
theorem wholeTarget {Q : ReTarget → Shared → Prop} (hp : PatIs s.heap p code) (h : Q ⟨.ref p, .str x t, code, x.cps, 0, 0, 0, x.cps.size⟩ s) : wpAny M A (reWholeTarget (.ref p) (.str x t)) Q E s := by
  obtain ⟨v0, v1, v3, v4, cd, oc, n, items, h1, h2, h3, h4⟩ := hp.ex
  unfold reWholeTarget
  refine wpAny_bind (wpAny_fieldsOf h1 rfl ?_)
  refine wpAny_bind (m := reTextOf (.str x t)) (wpAny_pure (a := (x.cps, 0)) ?_)
  show wpAny M A (do let its ← reRawItems (.ref cd); pure (ReTarget.mk (.ref p) (.str x t) (its.map (·.toNat)) x.cps 0 0 0 x.cps.size)) Q E s
  refine wpAny_bind ?_
  unfold reRawItems
  refine wpAny_bind (wpAny_seqItems h2 h3 ?_)
  refine wpAny_pure (wpAny_pure ?_)
  have e : (Array.map (fun x => x.toNat) (Array.map reRawOf ((some items).getD #[]))) = code := by rw [← h4, Array.map_map]; rfl
  rw [e]
  exact h
theorem nextFound {text : Array Nat} {q lim k : Nat} {must : Bool} {P : Sre.M → Prop} {Q : Option Sre.M → Shared → Prop} {pv sv : Value} (h : Ends (Sre.forSearch code text 0 q lim must) k P) (hk : k < 2 ^ 60)
    (hQ : ∀ m', P m' → (match m'.outcome with | some .matched => Q (some m') s | some .failed => Q none s | _ => False)) : wpAny M A (reNextFound ⟨pv, sv, code, text, 0, 0, 0, lim⟩ q must) Q E s := runToEnd h hk hQ
end

inductive Subs (code text : Array Nat) (repl : List Nat) : Nat → List Nat → Prop
  | stop {p : Nat} (h : ∀ must, ∃ k, k < 2 ^ 60 ∧ Ends (Sre.forSearch code text 0 p text.size must) k Miss) : Subs code text repl p (text.toList.drop p)
  | more {p q e : Nat} {out : List Nat} (h1 : p ≤ q) (h2 : q < e) (h3 : e ≤ text.size) (h : ∀ must, ∃ k, k < 2 ^ 60 ∧ Ends (Sre.forSearch code text 0 p text.size must) k (Hit q e)) (r : Subs code text repl e out) :
      Subs code text repl p ((text.toList.drop p).take (q - p) ++ repl ++ out)

end Mine
end

section
open PySem PySem.W PyProof.Rows
set_option Elab.async false
set_option maxRecDepth 100000
namespace Mine
open PySem.Builtin PySem.Builtin.Re

def textOf (l : List (Str × Tok)) : List Nat := l.flatMap fun p => p.1.cps.toList
theorem joinNil : ∀ xs : List Str, (Str.join Str.empty xs).cps.toList = xs.flatMap fun x => x.cps.toList
  | [] => rfl
  | [x] => by simp [Str.join]
  | x :: y :: r => by
    have h := joinNil (y :: r)
    show (x ++ Str.empty ++ Str.join Str.empty (y :: r)).cps.toList = _
    rw [Str.cps_append, Str.cps_append, Array.toList_append, Array.toList_append, h]
    simp [Str.empty]
theorem joinText (l : List (Str × Tok)) : (Txt.join Str.empty (l.map (·.1))).cps.toList = textOf l := by
  show (Builtin.Str.glued Str.empty (l.map (·.1))).cps.toList = _
  rw [StrLaws.glued_eq_join, joinNil, List.flatMap_map]
  rfl
theorem textOf_len (l : List (Str × Tok)) : ((l.map (·.1)).map (·.length)).sum = (textOf l).length := by
  induction l with
  | nil => rfl
  | cons p l ih =>
    simp only [List.map_cons, List.sum_cons, ih, textOf, List.flatMap_cons, List.length_append]
    rfl
theorem textOf_snoc (l : List (Str × Tok)) (x : Str) (t : Tok) : textOf (l ++ [(x, t)]) = textOf l ++ x.cps.toList := by
  simp [textOf]
theorem ext_list (a : Array Nat) (i j : Nat) : (a.extract i j).toList = (a.toList.drop i).take (j - i) := by
  rw [Array.toList_extract]
theorem strValues_snoc (l : List (Str × Tok)) (x : Str) (t : Tok) : (strValues l).toArray.push (.str x t) = (strValues (l ++ [(x, t)])).toArray := by
  simp [strValues]

section
variable {prog : Program} {w : World} {A : Around} {E : Value → Shared → Prop} {gs : Array GenState} {dr : Drawn} {os : OsState}

theorem joinCall {D : Addr} {l : List (Str × Tok)} {t : Tok} {s : Shared} {Q : Value → Shared → Prop} (hl : s.heap.IsList D (strValues l).toArray) (hsz : (textOf l).length ≤ 2 ^ 20)
    (h : ∀ t' k y, y.cps.toList = textOf l → Q (.str y t') { s with toks := k }) : wpAny (model prog w) A (call (.builtin "str.join") [.str Str.empty t, .ref D]) Q E s := by
  have hok : Builtin.Str.tooLong ((l.map (·.1)).toArray.foldl (· + ·.length + (Str.empty).length) 0) = false := by
    rw [StrLaws.joinTotal, textOf_len]
    show decide ((textOf l).length + _ * 0 > 2 ^ 24) = false
    exact decide_eq_false (by omega)
  refine call_meets F.slot_str_join (typeIs_str _ _ _) F.entry_str_join (F.args_str_join_2 _ _) (meets_str_join_list Str.empty t D l hok) ⟨hl, ?_⟩
  exact post_join (Q := fun v s' => Q v s') l ⟨joinFit_length hok, fun t' k => h t' k _ (joinText l)⟩

theorem pushPiece {D : Addr} {l : List (Str × Tok)} {x : Str} {t : Tok} {s : Shared} {Q : Unit → Shared → Prop} (hl : s.heap.PlainList D (strValues l).toArray) (hsz : l.length ≤ 2 ^ 20)
    (h : ∀ h', h'.PlainList D (strValues (l ++ [(x, t)])).toArray → Heap.SameBut D s.heap h' → Q () { s with heap := h' }) : wpAny (model prog w) A (updateSeq D (·.push (.str x t))) Q E s := by
  obtain ⟨n, ho⟩ := hl
  have hz : (strValues l).toArray.size ≤ sizeLine := by
    rw [List.size_toArray, strValues, List.length_map]; show l.length ≤ 2 ^ 24; omega
  refine wpAny_updateSeq ho rfl (h _ ⟨n + 1, ?_⟩ (Heap.SameBut.update ..)) hz (by rw [Array.size_push]; omega)
  rw [Heap.get?_update_self _ ho (by rw [Obj.mapSeq_push_plain]; rfl), Obj.mapSeq_push_plain, strValues_snoc]

theorem codeAny_entry {id : String} {args : Args} {b : Builtin} {R : Result → Shared → Prop} {s : Shared} (hb : entryFor table id = some b)
    (h : wpAny (model prog w) (A.under (.builtin id args)) (b args) (fun fin s' => match fin with | .done f => R (.ok f) s' | .again c' => c'.quiet = true ∧ codeAny (model prog w) A c' R s') (fun e s' => R (.error e) s') s) :
    codeAny (model prog w) A (.builtin id args) R s := by
  refine codeAny_of_tree ?_
  show wpAny _ _ (match entryFor table id with | some b => b args | none => unsupported ((withoutEnding? id "#data").getD id)) _ _ s
  rw [hb]; exact h
def loopArgs (p : Addr) (x : Str) (t : Tok) (r : Str) (u : Tok) (n q : Int) (must : Bool) (D : Addr) : Args :=
  ⟨[.ref p, .str x t, .str r u, .int 0 0, .int 0 0, .int n 0, .int q 0, .int q 0, .bool must, .ref D, .bool false], []⟩

theorem sub_loop {p : Addr} {code : Array Nat} {x r : Str} {t u : Tok} {D : Addr} {h₀ : Heap} {R : Result → Shared → Prop} (hx : x.cps.size ≤ 10000) (hr : r.cps.size ≤ 4) (hp : PatIs h₀ p code) (hD : h₀.get? D = none) :
    ∀ (q : Nat) (out : List Nat), Subs code x.cps r.cps.toList q out →
    ∀ (n : Int) (must : Bool) (l : List (Str × Tok)) (h : Heap) (tk : Nat), q ≤ x.cps.size → (∀ b o, h₀.get? b = some o → h.get? b = some o) →
      h.PlainList D (strValues l).toArray → l.length ≤ 2 * q → (textOf l).length ≤ 5 * q →
      (∀ y h' t' k, y.cps.toList = textOf l ++ out → (∀ b o, h₀.get? b = some o → h'.get? b = some o) → R (.ok (.ret (.str y t'))) ⟨h', gs, dr, k, os⟩) →
      codeAny (model prog w) A (.builtin "re.Pattern.sub.loop" (loopArgs p x t r u n q must D)) R ⟨h, gs, dr, tk, os⟩ := by
  intro q out hS
  have up : ∀ {h h' : Heap}, (∀ b o, h₀.get? b = some o → h.get? b = some o) → Heap.SameBut D h h' → ∀ b o, h₀.get? b = some o → h'.get? b = some o := fun hk hs b o e =>
    hs.extBut b o (by rintro rfl; rw [hD] at e; cases e) (hk b o e)
  induction hS with
  | @stop q hs =>
    intro n must l h tk hq hk hl hl1 hl2 hR
    refine codeAny_entry entry_loop ?_
    unfold loopArgs
    generalize A.under _ = A'
    unfold «re.Pattern.sub.loop»
    refine wpAny_bind (wholeTarget (hp.keeps hk) ?_)
    refine wpAny_bind (m := reLiteralCannotBeTurned (.str r u)) (wpAny_pure (a := ()) ?_)
    obtain ⟨k, hk1, hk2⟩ := hs must
    refine wpAny_bind (m := reNextFound _ _ _) (nextFound hk2 hk1 fun m' hm => ?_)
    unfold Miss at hm
    split at hm
    · rename_i ho
      rw [ho]
      have fin : ∀ (l' : List (Str × Tok)) (h' : Heap) (tk' : Nat), (∀ b o, h₀.get? b = some o → h'.get? b = some o) → h'.PlainList D (strValues l').toArray → textOf l' = textOf l ++ List.drop q x.cps.toList →
          wpAny (model prog w) A' (do
            let joiner ← reSlice x.cps 0 0 0
            let its ← seqItems? (.ref D)
            let text ← if (its.getD #[]).isEmpty = true then pure joiner else call (.builtin "str.join") [joiner, .ref D]
            ret text)
            (fun fin s' => match fin with | .done f => R (.ok f) s' | .again c' => c'.quiet = true ∧ codeAny (model prog w) A c' R s') (fun e s' => R (.error e) s') ⟨h', gs, dr, tk', os⟩ := by
        intro l' h' tk' hk' hl' hlt
        have hlen : (textOf l').length ≤ 2 ^ 20 := by
          have hx' : x.cps.toList.length ≤ 10000 := by simpa using hx
          rw [hlt, List.length_append, List.length_drop]; omega
        have hemp : (⟨x.cps.extract 0 0⟩ : Str) = Str.empty := by simp [Str.empty]
        refine wpAny_bind (m := mkStr ⟨x.cps.extract 0 0⟩) ?_
        rw [hemp]
        refine wpAny_mkStr ?_ (by decide)
        obtain ⟨nn, ho'⟩ := hl'
        refine wpAny_bind (wpAny_seqItems ho' rfl ?_)
        cases l' with
        | nil =>
          refine wpAny_bind ?_
          show wpAny _ _ (pure _) _ _ _
          refine wpAny_pure (wpAny_pure ?_)
          exact hR Str.empty h' _ _ (by rw [← hlt]; rfl) hk'
        | cons a l' =>
          refine wpAny_bind ?_
          show wpAny _ _ (call _ _) _ _ _
          refine joinCall ⟨_, ho', rfl, nn, rfl⟩ hlen fun t' k y hy => wpAny_pure ?_
          exact hR y h' t' k (hy.trans hlt) hk'
      show wpAny _ _ (if (q : Int).toNat < x.cps.size then _ else _) _ _ _
      by_cases hqs : q < x.cps.size
      · rw [if_pos (by simpa using hqs)]
        refine wpAny_bind (m := mkStr ⟨x.cps.extract q x.cps.size⟩) (wpAny_mkStr ?_ (by show (x.cps.extract q x.cps.size).size ≤ 2 ^ 24; rw [Array.size_extract]; omega))
        refine wpAny_bind (pushPiece hl (by omega) fun h'' hl'' hs'' => ?_)
        exact fin _ h'' _ (up hk hs'') hl'' (by rw [textOf_snoc, ext_list, List.take_of_length_le (by simp)])
      · rw [if_neg (by simpa using hqs)]
        exact fin l h tk hk hl (by rw [List.drop_eq_nil_of_le (by simpa using Nat.not_lt.mp hqs), List.append_nil])
    · exact hm.elim
  | @more q s e out h1 h2 h3 hs hS ih =>
    intro n must l h tk hq hk hl hl1 hl2 hR
    refine codeAny_entry entry_loop ?_
    unfold loopArgs
    generalize A.under _ = A'
    unfold «re.Pattern.sub.loop»
    refine wpAny_bind (wholeTarget (hp.keeps hk) ?_)
    refine wpAny_bind (m := reLiteralCannotBeTurned (.str r u)) (wpAny_pure (a := ()) ?_)
    obtain ⟨k, hk1, hk2⟩ := hs must
    refine wpAny_bind (m := reNextFound _ _ _) (nextFound hk2 hk1 fun m' hm => ?_)
    obtain ⟨hm, hms, hmh⟩ := hm
    split at hm
    · rename_i ho
      rw [ho]
      subst hms hmh
      have last : ∀ (l' : List (Str × Tok)) (h' : Heap) (tk' : Nat), (∀ b o, h₀.get? b = some o → h'.get? b = some o) → h'.PlainList D (strValues l').toArray → l'.length ≤ 2 * q + 1 → textOf l' = textOf l ++ List.take (m'.start - q) (List.drop q x.cps.toList) →
          wpAny (model prog w) A' (updateSeq D (·.push (.str r u)) >>= fun _ => again (.builtin "re.Pattern.sub.loop" (loopArgs p x t r u (n + 1) m'.handed (m'.handed == m'.start) D)))
            (fun fin s' => match fin with | .done f => R (.ok f) s' | .again c' => c'.quiet = true ∧ codeAny (model prog w) A c' R s') (fun e s' => R (.error e) s') ⟨h', gs, dr, tk', os⟩ := by
        intro l' h' tk' hk' hl' hln hlt
        have hlen : (textOf l').length ≤ 5 * q + (m'.start - q) := by
          rw [hlt, List.length_append, List.length_take]; omega
        refine wpAny_bind (pushPiece hl' (by omega) fun h'' hl'' hs'' => wpAny_pure ⟨plainId_quiet (by decide +kernel) _, ?_⟩)
        refine ih (n + 1) _ (l' ++ [(r, u)]) h'' tk' h3 (up hk' hs'') hl'' (by rw [List.length_append, List.length_singleton]; omega) ?_ fun y h3 t' k hy hk3 => hR y h3 t' k ?_ hk3
        · have hr' : r.cps.toList.length ≤ 4 := by simpa using hr
          rw [textOf_snoc, List.length_append]; omega
        · rw [hy, textOf_snoc, hlt]; simp [List.append_assoc]
      show wpAny _ _ (if (q : Int).toNat < m'.start then _ else _) _ _ _
      by_cases hqs : q < m'.start
      · rw [if_pos (by simpa using hqs)]
        refine wpAny_bind (m := mkStr ⟨x.cps.extract q m'.start⟩) (wpAny_mkStr ?_ (by show (x.cps.extract q m'.start).size ≤ 2 ^ 24; rw [Array.size_extract]; omega))
        refine wpAny_bind (pushPiece hl (by omega) fun h'' hl'' hs'' => ?_)
        exact last _ h'' _ (up hk hs'') hl'' (by rw [List.length_append, List.length_singleton]; omega) (by rw [textOf_snoc, ext_list])
      · rw [if_neg (by simpa using hqs)]
        exact last l h tk hk hl (by omega) (by rw [show m'.start - q = 0 by omega]; simp)
    · exact hm.elim

theorem args_sub (a b c : Value) : argsOk "re.Pattern.sub" ⟨[a, b, c], []⟩ := by
  unfold argsOk; kernel_rfl
theorem noCall_str : typeLookup (.type "str") "__call__" = pure none := by rw [typeLookup_type, builtinLookup_eq_fast]; kernel_rfl
theorem sub_named (a b : Value) : reNamed "re.Pattern.sub" "sub" ["repl", "string", "count"] 2 [a, b] [] = pure [some a, some b, none] := by rfl

theorem sub_call {p : Addr} {code : Array Nat} {x r : Str} {t u : Tok} {h₀ : Heap} {tk : Nat} {out : List Nat} {Q : Value → Shared → Prop} (hx : x.cps.size ≤ 10000) (hr : r.cps.size ≤ 4) (h92 : r.cps.contains 92 = false) (hp : PatIs h₀ p code)
    (hS : Subs code x.cps r.cps.toList 0 out)
    (hQ : ∀ y h' t' k, y.cps.toList = out → (∀ b o, h₀.get? b = some o → h'.get? b = some o) → Q (.str y t') ⟨h', gs, dr, k, os⟩) :
    wpAny (model prog w) A (call (.builtin "re.Pattern.sub") [.ref p, .str r u, .str x t]) Q E ⟨h₀, gs, dr, tk, os⟩ := by
  obtain ⟨v0, v1, v3, v4, cd, oc, n, items, h1, _⟩ := id hp.ex
  refine wpAny_call (codeAny_call_builtin slot_sub.plain entry_sub (slot_sub.check _ _ _ _ _ _ _ _ ⟨_, h1, rfl⟩ (args_sub _ _ _) ?_))
  generalize A.in1 = A'
  show wpAny _ _ (reSubstitute "re.Pattern.sub" "sub" false _) _ _ _
  unfold reSubstitute
  dsimp only
  rw [sub_named]
  refine wpAny_bind (wpAny_pure ?_)
  refine wpAny_bind (wpAny_pure ?_)
  refine wpAny_bind (wpAny_specialOf (typeIs_str _ _ _) noCall_str ?_)
  rw [if_neg (by simp)]
  refine wpAny_bind (m := asStr? (.str r u)) (wpAny_pure (a := some r) ?_)
  dsimp only
  rw [h92]
  refine wpAny_bind (wpAny_pure ?_)
  rw [if_neg (by simp), if_pos (by simp)]
  refine wpAny_bind (wpAny_pure ?_)
  refine wpAny_bind (wpAny_holding (wholeTarget hp ?_))
  rw [if_neg (by simp)]
  refine wpAny_bind (m := newList []) (wpAny_newObj_type ?_ (by size_fits))
  refine wpAny_pure ⟨plainId_quiet (by decide +kernel) _, ?_⟩
  have hnew : h₀.get? h₀.objs.size = none := by
    cases e : h₀.get? h₀.objs.size with
    | none => rfl
    | some o => exact absurd (Heap.lt_size e) (Nat.lt_irrefl _)
  exact sub_loop hx hr hp hnew 0 out hS 0 false [] _ tk (Nat.zero_le _) (fun b o e => Heap.get?_push_of_some _ e) ⟨0, Heap.get?_push_size _ rfl⟩ (Nat.le_refl _) (Nat.le_refl _) fun y h' t' k hy hk => hQ y h' t' k hy hk

theorem sub_method {p : Addr} {code : Array Nat} {pos : Pos} {a b : Sem Value} {s : Shared} {Q : Value → Shared → Prop} (hp : PatIs s.heap p code)
    (h : wpAny (model prog w) A a (fun v s₁ => wpAny (model prog w) A b (fun u s₂ => wpAny (model prog w) A (call (.builtin "re.Pattern.sub") [.ref p, v, u]) Q E s₂) E s₁) E s) :
    MethodOnS prog w A E "sub" (.ref p) pos [(false, a), (false, b)] Q s := by
  obtain ⟨v0, v1, v3, v4, cd, oc, n, items, h1, _⟩ := id hp.ex
  refine ⟨"re.Pattern", _, pa_pat, slot_sub, type_sub, ⟨_, h1, rfl⟩, fun a e => ⟨_, by cases e; exact h1, rfl⟩, ?_⟩
  exact Calls.callWith_builtin rfl (Calls.evalArgs_plain (Calls.spliced_cons (wpAny_mono h (fun _ _ h₁ => Calls.spliced_cons (wpAny_mono h₁ (fun _ _ h₂ => Calls.spliced_nil h₂) fun _ _ e => e)) fun _ _ e => e)))
end
end Mine
end

section
open PySem PySem.W PyProof.Rows
set_option Elab.async false
set_option maxRecDepth 100000
namespace Mine

theorem drop_cons {text : Array Nat} {p : Nat} (h : p < text.size) : text.toList.drop p = text.getD p 0 :: text.toList.drop (p + 1) := by
  have h' : p < text.toList.length := by simpa using h
  rw [List.drop_eq_getElem_cons h']
  simp [Array.getD, h]

theorem subs_of {code text : Array Nat} {repl : List Nat} (F : Nat → List Nat) (D : Nat → Prop) (e : Nat → Nat)
    (hstep : ∀ p, p < text.size → ¬ D p → F p = text.getD p 0 :: F (p + 1)) (hend : F text.size = [])
    (hhit : ∀ s, s < text.size → D s → F s = repl ++ F (e s) ∧ s < e s ∧ e s ≤ text.size)
    (hfind : ∀ p s must, p ≤ s → s < text.size → D s → (∀ i, p ≤ i → i < s → ¬ D i) → ∃ k, k < 2 ^ 60 ∧ Ends (Sre.forSearch code text 0 p text.size must) k (Hit s (e s)))
    (hmiss : ∀ p must, (∀ i, p ≤ i → i < text.size → ¬ D i) → ∃ k, k < 2 ^ 60 ∧ Ends (Sre.forSearch code text 0 p text.size must) k Miss) :
    ∀ p, p ≤ text.size → Subs code text repl p (F p) := by
  have run : ∀ n p, p + n ≤ text.size → (∀ i, p ≤ i → i < p + n → ¬ D i) → F p = (text.toList.drop p).take n ++ F (p + n) := by
    intro n
    induction n with
    | zero => intro p _ _; simp
    | succ n ih =>
      intro p hp hno
      rw [hstep p (by omega) (hno p (Nat.le_refl _) (by omega)), ih (p + 1) (by omega) (fun i h1 h2 => hno i (by omega) (by omega)), drop_cons (p := p) (by omega), List.take_succ_cons, List.cons_append]
      congr 3; omega
  have least : ∀ n p, p + n = text.size → (∀ i, p ≤ i → i < text.size → ¬ D i) ∨ ∃ s, p ≤ s ∧ s < text.size ∧ D s ∧ ∀ i, p ≤ i → i < s → ¬ D i := by
    intro n
    induction n with
    | zero => intro p hp; exact .inl fun i h1 h2 => by omega
    | succ n ih =>
      intro p hp
      by_cases hd : D p
      · exact .inr ⟨p, Nat.le_refl _, by omega, hd, fun i h1 h2 => by omega⟩
      · rcases ih (p + 1) (by omega) with hh | ⟨s, h1, h2, h3, h4⟩
        · refine .inl fun i h1 h2 => ?_
          rcases Nat.eq_or_lt_of_le h1 with rfl | h
          · exact hd
          · exact hh i h h2
        · refine .inr ⟨s, by omega, h2, h3, fun i h5 h6 => ?_⟩
          rcases Nat.eq_or_lt_of_le h5 with rfl | h
          · exact hd
          · exact h4 i h h6
  intro p
  induction hn : text.size - p using Nat.strongRecOn generalizing p with
  | ind n ih =>
    intro hp
    rcases least (text.size - p) p (by omega) with h | ⟨s, h1, h2, h3, h4⟩
    · rw [run (text.size - p) p (by omega) (fun i a b => h i a (by omega)), show p + (text.size - p) = text.size by omega, hend, List.append_nil, List.take_of_length_le (by simp)]
      exact .stop fun must => hmiss p must h
    · obtain ⟨e1, e2, e3⟩ := hhit s h2 h3
      rw [run (s - p) p (by omega) (fun i a b => h4 i a (by omega)), show p + (s - p) = s by omega, e1, ← List.append_assoc]
      exact .more h1 e2 e3 (fun must => hfind p s must h1 h2 h3 h4) (ih (text.size - e s) (by omega) (e s) rfl e3)

def fixL : List Nat → List Nat
  | [] => []
  | c :: r => if c = 10 then 13 :: 10 :: fixL r else if c = 13 then (if r.head? = some 10 then 13 :: 10 :: fixL r.tail else 13 :: 10 :: fixL r) else c :: fixL r
termination_by l => l.length
decreasing_by all_goals (simp; try omega)
def quoL : Bool → List Nat → List Nat
  | _, [] => []
  | b, c :: r => if b = true ∧ c = 46 then 46 :: 46 :: quoL false r else c :: quoL (c == 10) r

theorem fix_nil : fixL [] = [] := by unfold fixL; rfl
theorem fix_plain {c : Nat} {r : List Nat} (h1 : c ≠ 10) (h2 : c ≠ 13) : fixL (c :: r) = c :: fixL r := by
  rw [fixL, if_neg h1, if_neg h2]
theorem fix_lf {r : List Nat} : fixL (10 :: r) = 13 :: 10 :: fixL r := by rw [fixL, if_pos rfl]
theorem fix_crlf {r : List Nat} : fixL (13 :: 10 :: r) = 13 :: 10 :: fixL r := by
  rw [fixL, if_neg (by decide), if_pos rfl, if_pos (by rfl)]; rfl
theorem fix_cr {r : List Nat} (h : r.head? ≠ some 10) : fixL (13 :: r) = 13 :: 10 :: fixL r := by
  rw [fixL, if_neg (by decide), if_pos rfl, if_neg h]

theorem subs2 (text : Array Nat) : Subs code2 text [13, 10] 0 (fixL text.toList) := by
  have key := subs_of (code := code2) (text := text) (repl := [13, 10]) (fun p => fixL (text.toList.drop p)) (fun p => isEol (text.getD p 0))
    (fun s => if text.getD s 0 = 13 ∧ s + 1 < text.size ∧ text.getD (s + 1) 0 = 10 then s + 2 else s + 1) ?_ ?_ ?_ ?_ ?_ 0 (Nat.zero_le _)
  · simpa using key
  · intro p hp hd
    show fixL (text.toList.drop p) = _
    rw [drop_cons hp]
    exact fix_plain (fun e => hd (.inl e)) fun e => hd (.inr e)
  · show fixL (text.toList.drop text.size) = _
    rw [List.drop_eq_nil_of_le (by simp), fix_nil]
  · intro s hs hd
    show fixL (text.toList.drop s) = _ ∧ _
    rw [drop_cons hs]
    by_cases hc : text.getD s 0 = 13 ∧ s + 1 < text.size ∧ text.getD (s + 1) 0 = 10
    · rw [if_pos hc]
      refine ⟨?_, by omega, by omega⟩
      rw [drop_cons hc.2.1, hc.1, hc.2.2]
      exact fix_crlf
    · rw [if_neg hc]
      refine ⟨?_, by omega, by omega⟩
      rcases hd with h | h
      · rw [h]; exact fix_lf
      · rw [h]
        refine fix_cr fun e => hc ⟨h, ?_⟩
        by_cases h1 : s + 1 < text.size
        · rw [drop_cons h1] at e
          exact ⟨h1, by simpa using e⟩
        · rw [List.drop_eq_nil_of_le (by simp; omega)] at e
          cases e
  · intro p s must h1 h2 h3 h4
    refine ⟨20, by decide, search2_hit h1 h2 h4 ?_⟩
    by_cases hc : text.getD s 0 = 13 ∧ s + 1 < text.size ∧ text.getD (s + 1) 0 = 10
    · rw [if_pos hc]; exact .inl ⟨hc.1, hc.2.1, hc.2.2, rfl⟩
    · rw [if_neg hc]
      rcases h3 with h | h
      · exact .inr (.inl ⟨h, rfl⟩)
      · exact .inr (.inr ⟨h, fun a b => hc ⟨h, a, b⟩, rfl⟩)
  · intro p must h
    exact ⟨20, by decide, search2_miss h⟩

def bol (text : Array Nat) (p : Nat) : Bool := p == 0 || text.getD (p - 1) 0 == 10
theorem subs1 (text : Array Nat) (hsz : text.size < 2 ^ 50) : Subs code1 text [46, 46] 0 (quoL true text.toList) := by
  have key := subs_of (code := code1) (text := text) (repl := [46, 46]) (fun p => quoL (bol text p) (text.toList.drop p)) (fun p => dotAt text p) (fun s => s + 1) ?_ ?_ ?_ ?_ ?_ 0 (Nat.zero_le _)
  · simpa [bol] using key
  · intro p hp hd
    show quoL _ (text.toList.drop p) = _
    rw [drop_cons hp, quoL, if_neg (show ¬ (bol text p = true ∧ text.getD p 0 = 46) from hd)]
    rfl
  · show quoL _ (text.toList.drop text.size) = _
    rw [List.drop_eq_nil_of_le (by simp)]; rfl
  · intro s hs hd
    refine ⟨?_, by omega, by omega⟩
    show quoL _ (text.toList.drop s) = _
    rw [drop_cons hs, quoL, if_pos (show bol text s = true ∧ text.getD s 0 = 46 from hd)]
    have : bol text (s + 1) = false := by
      have := hd.2
      simp only [bol, Nat.add_sub_cancel, this]; rfl
    rw [this]; rfl
  · intro p s must h1 h2 h3 h4
    exact ⟨4 * text.size + 10, by omega, search1_hit h1 h2 h3 h4⟩
  · intro p must h
    exact ⟨4 * text.size + 10, by omega, search1_miss h⟩
end Mine
end

section
open PySem PySem.W PyProof.Rows
set_option Elab.async false
set_option maxRecDepth 100000
namespace Mine

noncomputable abbrev KK : Params → Frag := Mine.hd.heap_39
abbrev NoE : Value → Shared → Prop := fun _ _ => False
def Ext (h h' : Heap) : Prop := ∀ b o, h.get? b = some o → h'.get? b = some o
theorem Ext.refl (h : Heap) : Ext h h := fun _ _ e => e
theorem Ext.trans {a b c : Heap} (x : Ext a b) (y : Ext b c) : Ext a c := fun b o e => y b o (x b o e)

structure G (w : World) (mg mb : Str → Option Value) (h : Heap) : Prop where
  X : (KK w.params).In h
  g : h.Ns mainGlobals mg
  b : h.Ns builtinsNs mb
  lim : h.NoLimit
  bu : ∀ x : Str, x ≠ "__name__" → mb x = bootBuiltins x
theorem G.keeps {w : World} {mg mb : Str → Option Value} {h h' : Heap} (x : G w mg mb h) (k : Ext h h') : G w mg mb h' :=
  ⟨x.X.keeps k, x.g.keeps k, x.b.keeps k, x.lim.keeps k, x.bu⟩

structure Room (n : Nat) (A : Around) : Prop where
  hd : A.handled = none
  dp : A.depth + 2 * n < 900
  un : A.units + 8 * n + 200 < cLine
theorem Room.deeper {n : Nat} {A : Around} {env : Env} (r : Room (n + 1) A) : Room n (A.deeper env) :=
  ⟨r.hd, by have := r.dp; show A.depth + 1 + 2 * n < 900; omega, by have := r.un; show A.units + 3 + 8 * n + 200 < cLine; omega⟩
theorem Room.less {n k : Nat} {A : Around} (r : Room n A) (h : k ≤ n) : Room k A := ⟨r.hd, by have := r.dp; omega, by have := r.un; omega⟩
theorem Room.room {n : Nat} {A : Around} (r : Room n A) : A.depth < recursionLimit := by have := r.dp; show _ < 1000; omega

structure EnvIs (env : Env) (L : Addr) (ks : List (Str × NameKind)) (cl : List (Str × Addr)) : Prop where
  kind : env.scope.kind = .function
  loc : env.locals = L
  glob : env.globals = mainGlobals
  bui : env.builtins = builtinsNs
  names : env.scope.names = ks
  cells : env.cells = cl

section
variable {prog : Program} {w : World} {mg mb : Str → Option Value} {A : Around} {E : Value → Shared → Prop} {gs : Array GenState} {dr : Drawn} {tk : Nat} {os : OsState} {h₀ h : Heap} {L : Addr} {m : Str → Option Value} {env : Env} {ks : List (Str × NameKind)} {cl : List (Str × Addr)}

theorem enter {f : Addr} {oc : Value} {od : Option Addr} {osl : Array (Option Value)} {fd : FuncData} {body : List Stmt} {args : List Value} {binds : List (Str × Value)} {n : Nat} {P : Value → Heap → Prop} {Q : Value → Shared → Prop}
    (g : G w mg mb h) (r : Room (n + 1) A) (hl : (KK w.params).lookup f = some ⟨oc, od, .func fd, osl⟩) (hcd : codeIn (KK w.params) fd.code fd.qualname = true) (hbody : fd.body = .stmts body)
    (hglob : fd.globals = mainGlobals) (hbui : fd.builtins = builtinsNs) (hclo : fd.closure = [])
    (hbind : bindArgs fd ⟨args, []⟩ = pure binds) (hcell : (fd.scope.names.all fun x => x.2 != .cell) = true) (hloc : (binds.all fun x => fd.scope.names.lookup x.1 == some .local) = true)
    (hco : fd.scope.isCoroutine = false) (hgen : fd.scope.isGenerator = false) (hk : fd.scope.kind = .function)
    (body_ : ∀ (A' : Around) env L h₁ tk₁, Room n A' → EnvIs env L fd.scope.names [] → Fr h L h₁ (fun x => binds.reverse.lookup x) → G w mg mb h₁ → Ext h h₁ →
      wpAny (model prog w) A' (execs body env) (fun fl s' => ∃ h' tk', s' = ⟨h', gs, dr, tk', os⟩ ∧ Ext h h' ∧ P (match fl with | .ret v => v | _ => .none) h') NoE ⟨h₁, gs, dr, tk₁, os⟩)
    (hQ : ∀ v h' tk', Ext h h' → P v h' → Q v ⟨h', gs, dr, tk', os⟩) :
    wpAny (model prog w) A (call (.ref f) args) Q E ⟨h, gs, dr, tk, os⟩ := by
  refine wpAny_call (codeAny_call_def (fd := fd) (body := body) (binds := binds) r.room (g.X _ _ hl) rfl g.lim (codeRec_of g.X hcd) hbody (.of_eq hbind) (fun x hx => ?_) (fun x hx => ?_) (fun h₁ hns hk₁ => ?_) hco hgen hk)
  · have := List.all_eq_true.mp hcell x hx
    intro e; rw [e] at this; cases this
  · have := List.all_eq_true.mp hloc x hx
    exact eq_of_beq this
  · have F : Fr h h.objs.size h₁ (fun x => binds.reverse.lookup x) := ⟨hns, hk₁, Nat.le_refl _⟩
    refine wpAny_noRaise (wpAny_mono (body_ _ (callEnv fd h.objs.size f) h.objs.size h₁ _ r.deeper ⟨hk, rfl, hglob, hbui, rfl, hclo⟩ F (g.keeps hk₁) hk₁) (fun fl s' hs => ?_) fun _ _ e => e)
    obtain ⟨h', tk', rfl, e1, e2⟩ := hs
    exact hQ _ h' tk' e1 e2
end
end Mine
end

section
open PySem PySem.W PyProof.Rows
set_option Elab.async false
set_option maxRecDepth 100000
namespace Mine

def upd (m : Str → Option Value) (x : Str) (v : Value) : Str → Option Value := fun y => if y = x then some v else m y
theorem upd_eq {m : Str → Option Value} {x : Str} {v : Value} : upd m x v x = some v := if_pos rfl
theorem upd_ne {m : Str → Option Value} {x y : Str} {v : Value} {u : Option Value} (h : decide (y = x) = false) (hm : m y = u) : upd m x v y = u := (if_neg (of_decide_eq_false h)).trans hm

mutual
inductive Is (h : Heap) : Value → PyData → Prop
  | bool (b : Bool) : Is h (.bool b) (.bool b)
  | int (i : Int) (t : Tok) : Is h (.int i t) (.int i)
  | str (x : Str) (t : Tok) : Is h (.str x t) (.str x)
  | tup {a : Addr} {o : Obj} {vs : List Value} {n : Nat} {xs : List PyData} : h.get? a = some o → o.cls = .type "tuple" → o.data = .seq vs.toArray n → Iss h vs xs → Is h (.ref a) (.tuple xs)
  | lst {a : Addr} {o : Obj} {vs : List Value} {n : Nat} {xs : List PyData} : h.get? a = some o → o.cls = .type "list" → o.data = .seq vs.toArray n → Iss h vs xs → Is h (.ref a) (.list xs)
inductive Iss (h : Heap) : List Value → List PyData → Prop
  | nil : Iss h [] []
  | cons {v : Value} {vs : List Value} {d : PyData} {ds : List PyData} : Is h v d → Iss h vs ds → Iss h (v :: vs) (d :: ds)
end

/-- every sequence stays -/
def Sq (h h' : Heap) : Prop := ∀ b o xs n, h.get? b = some o → o.data = .seq xs n → h'.get? b = some o
/-- every tuple stays -/
def Tq (h h' : Heap) : Prop := ∀ b o xs n, h.get? b = some o → o.data = .seq xs n → o.cls = .type "tuple" → h'.get? b = some o
theorem Ext.sq {h h' : Heap} (x : Ext h h') : Sq h h' := fun b o _ _ e _ => x b o e
theorem Sq.tq {h h' : Heap} (x : Sq h h') : Tq h h' := fun b o xs n e e' _ => x b o xs n e e'
theorem Sq.trans {a b c : Heap} (x : Sq a b) (y : Sq b c) : Sq a c := fun p o xs n e e' => y p o xs n (x p o xs n e e') e'
theorem Tq.trans {a b c : Heap} (x : Tq a b) (y : Tq b c) : Tq a c := fun p o xs n e e' f => y p o xs n (x p o xs n e e' f) e' f
theorem Ext.tq {h h' : Heap} (x : Ext h h') : Tq h h' := x.sq.tq
theorem sq_same {h h' : Heap} {L : Addr} {m : Str → Option Value} (hn : h.Ns L m) (hs : Heap.SameBut L h h') : Sq h h' := fun b o xs n e e' => by
  refine hs.extBut b o ?_ e
  rintro rfl
  obtain ⟨o', es, ep, a1, a2, _⟩ := hn
  rw [a1] at e; cases e
  rw [a2] at e'; cases e'
theorem tq_list {h h' : Heap} {D : Addr} {o' : Obj} (hD : h.get? D = some o') (hc : o'.cls = .type "list") (hs : Heap.SameBut D h h') : Tq h h' := fun b o xs n e e' f => by
  refine hs.extBut b o ?_ e
  rintro rfl
  rw [hD] at e; cases e
  rw [hc] at f; exact absurd f (by decide)

mutual
theorem Is.sq {h h' : Heap} (x : Sq h h') : ∀ {v : Value} {d : PyData}, Is h v d → Is h' v d
  | _, _, .bool b => .bool b
  | _, _, .int i t => .int i t
  | _, _, .str y t => .str y t
  | _, _, .tup a b c d => .tup (x _ _ _ _ a c) b c (Iss.sq x d)
  | _, _, .lst a b c d => .lst (x _ _ _ _ a c) b c (Iss.sq x d)
theorem Iss.sq {h h' : Heap} (x : Sq h h') : ∀ {vs : List Value} {ds : List PyData}, Iss h vs ds → Iss h' vs ds
  | _, _, .nil => .nil
  | _, _, .cons a b => .cons (Is.sq x a) (Iss.sq x b)
end
mutual
def noL : PyData → Bool
  | .list _ => false
  | .tuple xs => noLs xs
  | _ => true
def noLs : List PyData → Bool
  | [] => true
  | x :: r => noL x && noLs r
end
mutual
theorem Is.tq {h h' : Heap} (x : Tq h h') : ∀ {v : Value} {d : PyData}, noL d = true → Is h v d → Is h' v d
  | _, _, _, .bool b => .bool b
  | _, _, _, .int i t => .int i t
  | _, _, _, .str y t => .str y t
  | _, _, hn, .tup a b c d => .tup (x _ _ _ _ a c b) b c (Iss.tq x (by simpa [noL] using hn) d)
  | _, _, hn, .lst _ _ _ _ => by simp [noL] at hn
theorem Iss.tq {h h' : Heap} (x : Tq h h') : ∀ {vs : List Value} {ds : List PyData}, noLs ds = true → Iss h vs ds → Iss h' vs ds
  | _, _, _, .nil => .nil
  | _, _, hn, .cons a b => by
    simp only [noLs, Bool.and_eq_true] at hn
    exact .cons (Is.tq x hn.1 a) (Iss.tq x hn.2 b)
end
mutual
theorem Is.reads {h : Heap} : ∀ {v : Value} {d : PyData}, Is h v d → ∃ as, Reads h v d as
  | _, _, .bool b => ⟨_, .bool b⟩
  | _, _, .int i t => ⟨_, .int i t⟩
  | _, _, .str y t => ⟨_, .str y t⟩
  | _, _, .tup a b c d => by obtain ⟨as, r⟩ := Iss.reads d; exact ⟨_, .tuple a b c (by simpa using r)⟩
  | _, _, .lst a b c d => by obtain ⟨as, r⟩ := Iss.reads d; exact ⟨_, .list a b c (by simpa using r)⟩
theorem Iss.reads {h : Heap} : ∀ {vs : List Value} {ds : List PyData}, Iss h vs ds → ∃ as, ReadsAll h vs ds as
  | _, _, .nil => ⟨_, .nil⟩
  | _, _, .cons a b => by obtain ⟨as, r⟩ := Is.reads a; obtain ⟨bs, q⟩ := Iss.reads b; exact ⟨_, .cons r q⟩
end
theorem Is.int_inv {h : Heap} {v : Value} {i : Int} (x : Is h v (.int i)) : ∃ t, v = .int i t := by cases x; exact ⟨_, rfl⟩
theorem Is.str_inv {h : Heap} {v : Value} {i : Str} (x : Is h v (.str i)) : ∃ t, v = .str i t := by cases x; exact ⟨_, rfl⟩
theorem Is.bool_inv {h : Heap} {v : Value} {i : Bool} (x : Is h v (.bool i)) : v = .bool i := by cases x; rfl
theorem Is.tup_inv {h : Heap} {v : Value} {xs : List PyData} (x : Is h v (.tuple xs)) : ∃ a vs, v = .ref a ∧ IsTup h a vs.toArray ∧ Iss h vs xs := by
  cases x with
  | tup a b c d => exact ⟨_, _, rfl, ⟨_, a, b, _, c⟩, d⟩
theorem Is.lst_inv {h : Heap} {v : Value} {xs : List PyData} (x : Is h v (.list xs)) : ∃ a vs, v = .ref a ∧ h.IsList a vs.toArray ∧ Iss h vs xs := by
  cases x with
  | lst a b c d => exact ⟨_, _, rfl, ⟨_, a, b, _, c⟩, d⟩
theorem Iss.length {h : Heap} : ∀ {vs : List Value} {ds : List PyData}, Iss h vs ds → vs.length = ds.length
  | _, _, .nil => rfl
  | _, _, .cons _ b => by rw [List.length_cons, List.length_cons, Iss.length b]
theorem Iss.get {h : Heap} : ∀ {vs : List Value} {ds : List PyData} (i : Nat) {d : PyData}, Iss h vs ds → ds[i]? = some d → ∃ v, vs[i]? = some v ∧ Is h v d
  | _, _, _, _, .nil, e => by simp at e
  | _, _, 0, _, .cons a _, e => by simp at e; subst e; exact ⟨_, rfl, a⟩
  | _, _, i + 1, _, .cons _ b, e => by simp at e; simpa using Iss.get i b e
theorem Iss.append {h : Heap} : ∀ {vs us : List Value} {ds es : List PyData}, Iss h vs ds → Iss h us es → Iss h (vs ++ us) (ds ++ es)
  | _, _, _, _, .nil, y => y
  | _, _, _, _, .cons a b, y => .cons a (Iss.append b y)
theorem Iss.two {h : Heap} {a b : Value} {d e : PyData} (x : Is h a d) (y : Is h b e) : Iss h [a, b] [d, e] := .cons x (.cons y .nil)

section
variable {prog : Program} {w : World} {mg mb : Str → Option Value} {A : Around} {E : Value → Shared → Prop} {gs : Array GenState} {dr : Drawn} {tk : Nat} {os : OsState} {h₀ h : Heap} {L : Addr} {m : Str → Option Value} {env : Env} {ks : List (Str × NameKind)} {cl : List (Str × Addr)}

theorem r_loc {x : Str} {pos : Pos} {v : Value} {Q : Value → Shared → Prop} (e : EnvIs env L ks cl) (F : Fr h₀ L h m) (hk : ks.lookup x = some .local) (hv : m x = some v) (hd : (x == ("__debug__" : Str)) = false)
    (hQ : Q v ⟨h, gs, dr, tk, os⟩) : wpAny (model prog w) A (eval (.Name x pos) env) Q E ⟨h, gs, dr, tk, os⟩ :=
  wpAny_Name (wpAny_loadName_local e.kind (by show env.scope.names.lookup x = _; rw [e.names]; exact hk) (by rw [e.loc]; exact F.ns) hv hQ) hd
theorem r_glob {x : Str} {pos : Pos} {v : Value} {Q : Value → Shared → Prop} (e : EnvIs env L ks cl) (F : Fr h₀ L h m) (g : G w mg mb h₀) (hk : ks.lookup x = some .globalImplicit) (hv : nsIn (Mine.hd.heap_39 w.params) mainGlobals x = some (some v))
    (hd : (x == ("__debug__" : Str)) = false) (hQ : Q v ⟨h, gs, dr, tk, os⟩) : wpAny (model prog w) A (eval (.Name x pos) env) Q E ⟨h, gs, dr, tk, os⟩ :=
  Calls.Name_function_global e.kind (by show env.scope.names.lookup x = _; rw [e.names]; exact hk) (Calls.loadGlobal_global (mg := mg) (by rw [e.glob]; exact g.g.keeps F.keep) (mg_of g.X g.g hv) hQ) hd
theorem r_bui {x : Str} {pos : Pos} {v : Value} {Q : Value → Shared → Prop} (e : EnvIs env L ks cl) (F : Fr h₀ L h m) (g : G w mg mb h₀) (hk : ks.lookup x = some .globalImplicit) (hv : nsIn (Mine.hd.heap_39 w.params) mainGlobals x = some none)
    (hb : bootBuiltins x = some v) (hn : decide (x = "__name__") = false) (hd : (x == ("__debug__" : Str)) = false) (hQ : Q v ⟨h, gs, dr, tk, os⟩) : wpAny (model prog w) A (eval (.Name x pos) env) Q E ⟨h, gs, dr, tk, os⟩ :=
  Calls.Name_function_global e.kind (by show env.scope.names.lookup x = _; rw [e.names]; exact hk)
    (Calls.loadGlobal_builtin (mg := mg) (mb := mb) (by rw [e.glob]; exact g.g.keeps F.keep) (mg_none_of g.X g.g hv) (by rw [e.bui]; exact g.b.keeps F.keep) ((g.bu x (of_decide_eq_false hn)).trans hb) hQ) hd
theorem r_store {x : Str} {v : Value} {Q : Unit → Shared → Prop} (e : EnvIs env L ks cl) (F : Fr h₀ L h m) (hk : ks.lookup x = some .local)
    (hQ : ∀ h' tk', Fr h₀ L h' (upd m x v) → Heap.SameBut L h h' → Q () ⟨h', gs, dr, tk', os⟩) : wpAny (model prog w) A (storeName env x v) Q E ⟨h, gs, dr, tk, os⟩ :=
  wpAny_storeName_local (m := m) (by show env.scope.names.lookup x = _; rw [e.names]; exact hk) (by rw [e.loc]; exact F.ns) (fun h' hn hs => by rw [e.loc] at hn hs; exact hQ h' _ (F.set hn hs) hs)
    (by rw [e.kind]; rfl)

-- statements
theorem x_nil {Q : Flow → Shared → Prop} {s : Shared} (hQ : Q .next s) : wpAny (model prog w) A (execs [] env) Q E s := wpAny_execs_nil hQ
theorem x_assign {x : Str} {p' p : Pos} {val : Expr} {rest : List Stmt} {Q : Flow → Shared → Prop} {s : Shared} (hs : swapsWith val (some (.Name x p')) p.line env = pure false)
    (hQ : wpAny (model prog w) A (eval val env) (fun v s₁ => wpAny (model prog w) A (storeName env x v) (fun _ s₂ => wpAny (model prog w) A (execs rest env) Q E s₂) E s₁) E s) :
    wpAny (model prog w) A (execs (.Assign [.Name x p'] val p :: rest) env) Q E s := wpAny_execs_cons (wpAny_Assign_Name hQ hs)
theorem x_ret {e : Expr} {p : Pos} {rest : List Stmt} {Q : Flow → Shared → Prop} {s : Shared} (hQ : wpAny (model prog w) A (eval e env) (fun v s₁ => Q (.ret v) s₁) E s) :
    wpAny (model prog w) A (execs (.Return (some e) p :: rest) env) Q E s := wpAny_execs_cons (wpAny_Return_some hQ)
theorem x_if {test : Expr} {body orelse : List Stmt} {p : Pos} {rest : List Stmt} {Q : Flow → Shared → Prop} {s : Shared}
    (hQ : wpAny (model prog w) A (isTrue test env (eval test env)) (fun b s₁ => if b = true then wpAny (model prog w) A (execs body env) (fun f s₂ => match f with | .next => wpAny (model prog w) A (execs rest env) Q E s₂ | f => Q f s₂) E s₁
      else wpAny (model prog w) A (execs orelse env) (fun f s₂ => match f with | .next => wpAny (model prog w) A (execs rest env) Q E s₂ | f => Q f s₂) E s₁) E s) :
    wpAny (model prog w) A (execs (.If test body orelse p :: rest) env) Q E s := wpAny_execs_cons (wpAny_If hQ)
theorem x_if_ret {test e : Expr} {p pr : Pos} {rest : List Stmt} {Q : Flow → Shared → Prop} {s : Shared}
    (hQ : wpAny (model prog w) A (isTrue test env (eval test env)) (fun b s₁ => if b = true then wpAny (model prog w) A (eval e env) (fun v s₂ => Q (.ret v) s₂) E s₁ else wpAny (model prog w) A (execs rest env) Q E s₁) E s) :
    wpAny (model prog w) A (execs (.If test [.Return (some e) pr] [] p :: rest) env) Q E s := by
  refine x_if (wpAny_mono hQ (fun b s₁ h₁ => ?_) fun _ _ e => e)
  cases b with
  | true => exact x_ret h₁
  | false => exact x_nil h₁
theorem x_aug {x : Str} {p' p : Pos} {op : Operator} {val : Expr} {rest : List Stmt} {Q : Flow → Shared → Prop} {s : Shared}
    (hQ : wpAny (model prog w) A (loadName env x) (fun old s₁ => wpAny (model prog w) A (eval val env) (fun v s₂ => wpAny (model prog w) A (inplaceOp op old v) (fun r s₃ => wpAny (model prog w) A (storeName env x r) (fun _ s₄ => wpAny (model prog w) A (execs rest env) Q E s₄) E s₃) E s₂) E s₁) E s) :
    wpAny (model prog w) A (execs (.AugAssign (.Name x p') op val p :: rest) env) Q E s := wpAny_execs_cons (wpAny_AugAssign_Name hQ)
theorem r_ite {p : Prop} [Decidable p] {X Y : Prop} (h1 : p → X) (h2 : ¬ p → Y) : if decide p = true then X else Y := by
  by_cases h : p
  · rw [decide_eq_true h]; exact h1 h
  · rw [decide_eq_false h]; exact h2 h
theorem r_iteb {b : Bool} {X Y : Prop} (h1 : b = true → X) (h2 : b = false → Y) : if b = true then X else Y := by
  cases b with
  | true => exact h1 rfl
  | false => exact h2 rfl

-- constants
theorem r_int {i : Int} {k : Nat} {pos : Pos} {Q : Value → Shared → Prop} (hQ : ∀ t' tk', Q (.int i t') ⟨h, gs, dr, tk', os⟩) : wpAny (model prog w) A (eval (.Constant (.int i) k pos) env) Q E ⟨h, gs, dr, tk, os⟩ := wpAny_Constant_int (hQ _ _)
theorem r_str {x : Str} {k : Nat} {pos : Pos} {Q : Value → Shared → Prop} (hQ : ∀ t' tk', Q (.str x t') ⟨h, gs, dr, tk', os⟩) : wpAny (model prog w) A (eval (.Constant (.str x) k pos) env) Q E ⟨h, gs, dr, tk, os⟩ := Calls.Constant_str (hQ _ _)
theorem r_bool {b : Bool} {k : Nat} {pos : Pos} {Q : Value → Shared → Prop} {s : Shared} (hQ : Q (.bool b) s) : wpAny (model prog w) A (eval (.Constant (.bool b) k pos) env) Q E s := Constant_bool hQ
theorem r_none {k : Nat} {pos : Pos} {Q : Value → Shared → Prop} {s : Shared} (hQ : Q .none s) : wpAny (model prog w) A (eval (.Constant .none k pos) env) Q E s := Constant_none hQ

-- ints
section
variable {a b : Int} {t u : Tok} {Q : Value → Shared → Prop}
theorem r_add (hQ : ∀ t' tk', Q (.int (a + b) t') ⟨h, gs, dr, tk', os⟩) : wpAny (model prog w) A (binaryOp .Add (.int a t) (.int b u)) Q E ⟨h, gs, dr, tk, os⟩ := P.add_int (hQ _ _)
theorem r_iadd (hQ : ∀ t' tk', Q (.int (a + b) t') ⟨h, gs, dr, tk', os⟩) : wpAny (model prog w) A (inplaceOp .Add (.int a t) (.int b u)) Q E ⟨h, gs, dr, tk, os⟩ := P.iadd_int (hQ _ _)
theorem r_isub (hQ : ∀ t' tk', Q (.int (a - b) t') ⟨h, gs, dr, tk', os⟩) : wpAny (model prog w) A (inplaceOp .Sub (.int a t) (.int b u)) Q E ⟨h, gs, dr, tk, os⟩ := P.isub_int (hQ _ _)
theorem r_subi (hQ : ∀ t' tk', Q (.int (a - b) t') ⟨h, gs, dr, tk', os⟩) : wpAny (model prog w) A (binaryOp .Sub (.int a t) (.int b u)) Q E ⟨h, gs, dr, tk, os⟩ := P.sub_int (hQ _ _)
theorem r_mod (hb : b ≠ 0) (hQ : ∀ t' tk', Q (.int (a.fmod b) t') ⟨h, gs, dr, tk', os⟩) : wpAny (model prog w) A (binaryOp .Mod (.int a t) (.int b u)) Q E ⟨h, gs, dr, tk, os⟩ := mod_int' hb (hQ _ _)
theorem r_lt (hQ : Q (.bool (decide (a < b))) ⟨h, gs, dr, tk, os⟩) : wpAny (model prog w) A (compareOp .Lt (.int a t) (.int b u)) Q E ⟨h, gs, dr, tk, os⟩ := P.lt_int hQ
theorem r_le (hQ : Q (.bool (decide (a ≤ b))) ⟨h, gs, dr, tk, os⟩) : wpAny (model prog w) A (compareOp .LtE (.int a t) (.int b u)) Q E ⟨h, gs, dr, tk, os⟩ := P.le_int hQ
theorem r_gt (hQ : Q (.bool (decide (a > b))) ⟨h, gs, dr, tk, os⟩) : wpAny (model prog w) A (compareOp .Gt (.int a t) (.int b u)) Q E ⟨h, gs, dr, tk, os⟩ := P.gt_int hQ
theorem r_ge (hQ : Q (.bool (decide (a ≥ b))) ⟨h, gs, dr, tk, os⟩) : wpAny (model prog w) A (compareOp .GtE (.int a t) (.int b u)) Q E ⟨h, gs, dr, tk, os⟩ := P.ge_int hQ
theorem r_eqi (hQ : Q (.bool (decide (a = b))) ⟨h, gs, dr, tk, os⟩) : wpAny (model prog w) A (compareOp .Eq (.int a t) (.int b u)) Q E ⟨h, gs, dr, tk, os⟩ := P.eq_int (by rw [show (a == b) = decide (a = b) from rfl]; exact hQ)
theorem r_nei (hQ : Q (.bool (decide (a ≠ b))) ⟨h, gs, dr, tk, os⟩) : wpAny (model prog w) A (compareOp .NotEq (.int a t) (.int b u)) Q E ⟨h, gs, dr, tk, os⟩ := P.ne_int (by rw [show (a != b) = decide (a ≠ b) by rw [bne, show (a == b) = decide (a = b) from rfl, ← decide_not]]; exact hQ)
theorem r_max (r : Room 0 A) (hQ : ∀ t' h' tk', Ext h h' → Q (.int (max a b) t') ⟨h', gs, dr, tk', os⟩) : wpAny (model prog w) A (call (.builtin "max") [.int a t, .int b u]) Q E ⟨h, gs, dr, tk, os⟩ := by
  refine max_two_ints r.hd fun h' tk' k => ?_
  split
  · rename_i hc; have := hQ u h' tk' k; rwa [show max a b = b by omega] at this
  · rename_i hc; have := hQ t h' tk' k; rwa [show max a b = a by omega] at this
theorem r_min (r : Room 0 A) (hQ : ∀ t' h' tk', Ext h h' → Q (.int (min a b) t') ⟨h', gs, dr, tk', os⟩) : wpAny (model prog w) A (call (.builtin "min") [.int a t, .int b u]) Q E ⟨h, gs, dr, tk, os⟩ := by
  refine min_two_ints r.hd fun h' tk' k => ?_
  split
  · rename_i hc; have := hQ u h' tk' k; rwa [show min a b = b by omega] at this
  · rename_i hc; have := hQ t h' tk' k; rwa [show min a b = a by omega] at this
theorem r_abs (hQ : ∀ t' tk', Q (.int (a.natAbs : Int) t') ⟨h, gs, dr, tk', os⟩) : wpAny (model prog w) A (call (.builtin "abs") [.int a t]) Q E ⟨h, gs, dr, tk, os⟩ :=
  call_abs_int fun u tk' => by have := hQ u tk'; rwa [show (a.natAbs : Int) = if a < 0 then -a else a by split <;> omega] at this
end
end
end Mine
end

section
open PySem PySem.W PyProof.Rows
set_option Elab.async false
set_option maxRecDepth 100000
namespace Mine
section
variable {prog : Program} {w : World} {mg mb : Str → Option Value} {A : Around} {E : Value → Shared → Prop} {gs : Array GenState} {dr : Drawn} {tk : Nat} {os : OsState} {h₀ h : Heap} {L : Addr} {m : Str → Option Value} {env : Env} {ks : List (Str × NameKind)} {cl : List (Str × Addr)}

theorem r_mul {a b : Int} {t u : Tok} {Q : Value → Shared → Prop} (ha : -1000000 ≤ a ∧ a ≤ 1000000) (hQ : ∀ t' tk', Q (.int (a * b) t') ⟨h, gs, dr, tk', os⟩) : wpAny (model prog w) A (binaryOp .Mult (.int a t) (.int b u)) Q E ⟨h, gs, dr, tk, os⟩ :=
  P.mul_int (hQ _ _) (IntMulOk.of_left (intBits_le_64 (by omega) (by omega)))
theorem r_div {a b : Int} {t u : Tok} {Q : Value → Shared → Prop} (hb : b ≠ 0) (ha : 0 ≤ a ∧ a ≤ 1000000 ∧ 0 < b ∧ b ≤ 1000) (hQ : ∀ t' tk', Q (.int (a.fdiv b) t') ⟨h, gs, dr, tk', os⟩) : wpAny (model prog w) A (binaryOp .FloorDiv (.int a t) (.int b u)) Q E ⟨h, gs, dr, tk, os⟩ :=
  floordiv_int hb (hQ _ _) (.inl (PyProof.noPylong_small (by omega)))
theorem r_truth {b : Bool} {Q : Bool → Shared → Prop} {s : Shared} (hQ : Q b s) : wpAny (model prog w) A (truthy (.bool b)) Q E s := wpAny_truthy_bool hQ
theorem r_titem {value slice : Expr} {a : Addr} {l : List Value} {k : Int} {u : Tok} {j : Nat} {x : Value} {Q : Value → Shared → Prop} (F : Fr h₀ L h m) (ht : IsTup h₀ a l.toArray)
    (hj : seqIndex? k l.length = some j) (hx : l[j]? = some x) (hlo : -(2 ^ 63) ≤ k) (hhi : k < 2 ^ 63)
    (hs : subscripted slice false (.ref a) (.int k u) = operate [.ref a, .int k u] (getItem (.ref a) (.int k u))) (hQ : Q x ⟨h, gs, dr, tk, os⟩) :
    wpAny (model prog w) A (subscriptTail value slice (.ref a) (.int k u)) Q E ⟨h, gs, dr, tk, os⟩ := item_tupleT (ht.keeps F.keep) hlo hhi hj hx hQ hs

theorem bb_abs : bootBuiltins (Str.ofString "abs") = some (.builtin "abs") := by kernel_rfl
theorem bb_max : bootBuiltins (Str.ofString "max") = some (.builtin "max") := by kernel_rfl
theorem bb_min : bootBuiltins (Str.ofString "min") = some (.builtin "min") := by kernel_rfl
theorem bb_len : bootBuiltins (Str.ofString "len") = some (.builtin "len") := by kernel_rfl
theorem bb_sum : bootBuiltins (Str.ofString "sum") = some (.builtin "sum") := by kernel_rfl
theorem bb_zip : bootBuiltins (Str.ofString "zip") = some (.type "zip") := by kernel_rfl
theorem bb_range : bootBuiltins (Str.ofString "range") = some (.type "range") := by kernel_rfl
theorem bb_list : bootBuiltins (Str.ofString "list") = some (.type "list") := by kernel_rfl
theorem bb_tuple : bootBuiltins (Str.ofString "tuple") = some (.type "tuple") := by kernel_rfl
-- calls of built-ins
theorem c_b1 {pos : Pos} {id : String} {e₁ : Expr} {Q : Value → Shared → Prop} {s : Shared} (hs : starEach [e₁] env = [(false, eval e₁ env)])
    (hQ : wpAny (model prog w) A (eval e₁ env) (fun v₁ s₁ => wpAny (model prog w) A (call (.builtin id) [v₁]) Q E s₁) E s) :
    wpAny (model prog w) A (callWith pos (.builtin id) [] (backTo pos (starEach [e₁] env)) []) Q E s := by
  rw [hs]
  exact Calls.callWith_builtin rfl (Calls.evalArgs_plain (Calls.spliced_cons (wpAny_mono hQ (fun _ _ h₁ => Calls.spliced_nil h₁) fun _ _ e => e)))
theorem c_b2 {pos : Pos} {id : String} {e₁ e₂ : Expr} {Q : Value → Shared → Prop} {s : Shared} (hs : starEach [e₁, e₂] env = [(false, eval e₁ env), (false, eval e₂ env)])
    (hQ : wpAny (model prog w) A (eval e₁ env) (fun v₁ s₁ => wpAny (model prog w) A (eval e₂ env) (fun v₂ s₂ => wpAny (model prog w) A (call (.builtin id) [v₁, v₂]) Q E s₂) E s₁) E s) :
    wpAny (model prog w) A (callWith pos (.builtin id) [] (backTo pos (starEach [e₁, e₂] env)) []) Q E s := by
  rw [hs]
  exact Calls.callWith_builtin rfl (Calls.evalArgs_plain (Calls.spliced_cons (wpAny_mono hQ (fun _ _ h₁ => Calls.spliced_cons (wpAny_mono h₁ (fun _ _ h₂ => Calls.spliced_nil h₂) fun _ _ e => e)) fun _ _ e => e)))

theorem r_call {func : Expr} {args : List Expr} {pos : Pos} {Q : Value → Shared → Prop} {s : Shared}
    (he : eval (.Call func args [] pos) env = (do callWith pos (← eval func env) [] (backTo pos (starEach args env)) (backToKw pos (keywordEach [] env))))
    (hQ : wpAny (model prog w) A (eval func env) (fun f s₁ => wpAny (model prog w) A (callWith pos f [] (backTo pos (starEach args env)) []) Q E s₁) E s) :
    wpAny (model prog w) A (eval (.Call func args [] pos) env) Q E s := Call_ hQ he
end

end Mine
end

section
open PySem PySem.W PyProof.Rows
set_option Elab.async false
set_option maxRecDepth 100000
namespace Mine

def S (l : List Nat) : Str := ⟨l.toArray⟩
theorem S_eq {x : Str} {l : List Nat} (h : x.cps.toList = l) : x = S l := by subst h; rfl
theorem S_list (l : List Nat) : (S l).cps.toList = l := rfl
theorem S_len (l : List Nat) : (S l).length = l.length := by show l.toArray.size = _; simp
theorem S_inj {a b : List Nat} (h : S a = S b) : a = b := by have := congrArg (fun x : Str => x.cps.toList) h; exact this

def clipN (v : Option Int) (d n : Nat) : Nat := match v with | none => d | some i => (max 0 (min (if i < 0 then i + n else i) n)).toNat
def cut (l u : Option Int) (xs : List Nat) : List Nat := (xs.drop (clipN l 0 xs.length)).take (clipN u xs.length xs.length - clipN l 0 xs.length)
theorem range_pick (xs : List Nat) : ∀ (n a : Nat), ((List.range n).map fun k => a + k).filterMap (fun i => xs[i]?) = (xs.drop a).take n := by
  intro n
  induction n with
  | zero => intro a; simp
  | succ n ih =>
    intro a
    rw [List.range_succ_eq_map, List.map_cons, List.map_map]
    have e : ((fun k => a + k) ∘ Nat.succ) = fun k => (a + 1) + k := by funext k; simp; omega
    rw [e, List.filterMap_cons]
    rcases Nat.lt_or_ge a xs.length with h | h
    · rw [List.drop_eq_getElem_cons h, List.take_succ_cons, ← ih (a + 1)]
      simp [h]
    · have h1 : xs[a + 0]? = none := by simpa using h
      rw [h1, ih (a + 1), List.drop_eq_nil_of_le h, List.drop_eq_nil_of_le (by omega)]
      simp
theorem clip_le (v : Option Int) (n : Nat) : clipN v n n ≤ n := by
  cases v with
  | none => exact Nat.le_refl _
  | some i => simp only [clipN]; omega
theorem picked_eq (x : Str) (l u : Option (Int × Tok)) : slicePicked x l u none = (List.range (clipN (u.map (·.1)) x.cps.toList.length x.cps.toList.length - clipN (l.map (·.1)) 0 x.cps.toList.length)).map fun k => clipN (l.map (·.1)) 0 x.cps.toList.length + k := by
  have hn : x.length = x.cps.toList.length := by show x.cps.size = _; simp
  have key : ∀ (a b : Option Int) (n : Nat), Builtin.Str.strSliceIndices a b 1 n = (List.range (clipN b n n - clipN a 0 n)).map fun k => clipN a 0 n + k := by
    intro a b n
    have lo : ∀ i : Int, (max 0 (min (if i < 0 then i + n else i) n) : Int) = (((max 0 (min (if i < 0 then i + n else i) n)).toNat : Nat) : Int) := fun i => (Int.toNat_of_nonneg (Int.le_max_left 0 _)).symm
    have : Builtin.Str.strSliceIndices a b 1 n = sliceRange ((clipN a 0 n : Nat) : Int) ((clipN b n n : Nat) : Int) 1 := by
      cases a with
      | none => cases b with
        | none => rfl
        | some j => exact congrArg (fun q => sliceRange 0 q 1) (lo j)
      | some i => cases b with
        | none => exact congrArg (fun q => sliceRange q n 1) (lo i)
        | some j => exact (congrArg (fun q => sliceRange q (max 0 (min (if j < 0 then j + n else j) n)) 1) (lo i)).trans (congrArg (fun q => sliceRange _ q 1) (lo j))
    rw [this]
    generalize clipN a 0 n = p
    generalize clipN b n n = q
    unfold sliceRange
    have hc : (if (1 : Int) > 0 then (if (p : Int) < (q : Int) then ((q : Int) - p + 1 - 1) / 1 else 0) else (if (p : Int) > q then ((p : Int) - q - 1 - 1) / (-1) else 0)).toNat = q - p := by
      rw [if_pos (by decide)]
      split
      · rw [Int.ediv_one]; omega
      · rw [Int.toNat_zero]; omega
    show (List.range (if (1 : Int) > 0 then (if (p : Int) < (q : Int) then ((q : Int) - p + 1 - 1) / 1 else 0) else (if (p : Int) > q then ((p : Int) - q - 1 - 1) / (-1) else 0)).toNat).map _ = _
    rw [hc]
    refine List.map_congr_left fun k _ => ?_
    show ((p : Int) + 1 * (k : Int)).toNat = _
    omega
  unfold slicePicked
  rw [show ((none : Option (Int × Tok)).map (·.1)).getD 1 = (1 : Int) from rfl, key, hn]
theorem picked_cut (x : Str) (l u : Option (Int × Tok)) : ((slicePicked x l u none).filterMap (x.cps[·]?)) = cut (l.map (·.1)) (u.map (·.1)) x.cps.toList := by
  rw [picked_eq]
  have e : (fun i : Nat => x.cps[i]?) = fun i => x.cps.toList[i]? := by funext i; simp
  rw [e, range_pick]
  rfl
theorem cut_all (xs : List Nat) : cut none none xs = xs := by simp [cut, clipN]
theorem clip_nat (k n : Nat) : (max 0 (min (if (k : Int) < 0 then (k : Int) + n else k) n)).toNat = min k n := by
  rw [if_neg (Int.not_lt.mpr (Int.natCast_nonneg k))]
  rcases Nat.le_total k n with h | h
  · rw [Nat.min_eq_left h, Int.min_eq_left (Int.ofNat_le.mpr h), Int.max_eq_right (Int.natCast_nonneg k)]; rfl
  · rw [Nat.min_eq_right h, Int.min_eq_right (Int.ofNat_le.mpr h), Int.max_eq_right (Int.natCast_nonneg n)]; rfl
theorem cut_from (xs : List Nat) (k : Nat) : cut (some (k : Int)) none xs = xs.drop k := by
  simp only [cut, clipN]
  rcases Nat.le_total k xs.length with h | h
  · have e : (max 0 (min (if (k : Int) < 0 then (k : Int) + xs.length else k) xs.length)).toNat = k := (clip_nat k _).trans (Nat.min_eq_left h)
    rw [e, List.take_of_length_le (by simp)]
  · have e : (max 0 (min (if (k : Int) < 0 then (k : Int) + xs.length else k) xs.length)).toNat = xs.length := (clip_nat k _).trans (Nat.min_eq_right h)
    rw [e, List.drop_eq_nil_of_le h, List.drop_eq_nil_of_le (Nat.le_refl _)]; simp
theorem cut_to (xs : List Nat) (k : Nat) : cut none (some (k : Int)) xs = xs.take k := by
  simp only [cut, clipN, List.drop_zero, Nat.sub_zero]
  rcases Nat.le_total k xs.length with h | h
  · rw [show (max 0 (min (if (k : Int) < 0 then (k : Int) + xs.length else k) xs.length)).toNat = k from (clip_nat k _).trans (Nat.min_eq_left h)]
  · rw [show (max 0 (min (if (k : Int) < 0 then (k : Int) + xs.length else k) xs.length)).toNat = xs.length from (clip_nat k _).trans (Nat.min_eq_right h), List.take_of_length_le h, List.take_of_length_le (Nat.le_refl _)]
theorem cut_back (xs : List Nat) (k : Nat) (hk : 0 < k) : cut none (some (-(k : Int))) xs = xs.take (xs.length - k) := by
  simp only [cut, clipN, List.drop_zero, Nat.sub_zero]
  rw [show (max 0 (min (if -(k : Int) < 0 then -(k : Int) + xs.length else -(k : Int)) xs.length)).toNat = xs.length - k by rw [if_pos (by omega), Int.min_eq_left (by omega)]; omega]

section
variable {prog : Program} {w : World} {mg mb : Str → Option Value} {A : Around} {E : Value → Shared → Prop} {gs : Array GenState} {dr : Drawn} {tk : Nat} {os : OsState} {h₀ h : Heap} {L : Addr} {m : Str → Option Value} {env : Env} {ks : List (Str × NameKind)} {cl : List (Str × Addr)}
variable {a b : List Nat} {t u : Tok} {Q : Value → Shared → Prop}

theorem e_none {s : Shared} (hQ : Q .none s) : wpAny (model prog w) A (evalPart none env) Q E s := fun _ _ _ => hQ
theorem e_some {e : Expr} {s : Shared} (hQ : wpAny (model prog w) A (eval e env) Q E s) : wpAny (model prog w) A (evalPart (some e) env) Q E s := hQ
def CutGo (Q : Value → Shared → Prop) (gs : Array GenState) (dr : Drawn) (os : OsState) (o vl vu : Value) (s : Shared) : Prop :=
  ∃ x t l u, o = .str (S x) t ∧ vl = partValue l ∧ vu = partValue u ∧ s.gens = gs ∧ s.drawn = dr ∧ s.os = os ∧ x.length ≤ 10000 ∧ ∀ t' h' tk', Ext s.heap h' → Q (.str (S (cut (l.map (·.1)) (u.map (·.1)) x)) t') ⟨h', gs, dr, tk', os⟩
theorem r_cut {value : Expr} {lower upper : Option Expr} {p pos : Pos} (ht : ∀ o r, letTemporaryGo value o r = pure ())
    (hQ : wpAny (model prog w) A (eval value env) (fun o s₁ => wpAny (model prog w) A (evalPart lower env) (fun vl s₂ => wpAny (model prog w) A (evalPart upper env) (fun vu s₃ => CutGo Q gs dr os o vl vu s₃) E s₂) E s₁) E ⟨h, gs, dr, tk, os⟩) :
    wpAny (model prog w) A (eval (.Subscript value (.Slice lower upper none p) pos) env) Q E ⟨h, gs, dr, tk, os⟩ := by
  refine wpAny_Subscript_str_slice (wpAny_mono hQ (fun o s₁ h₁ => wpAny_mono h₁ (fun vl s₂ h₂ => wpAny_mono h₂ (fun vu s₃ h₃ => ?_) fun _ _ e => e) fun _ _ e => e) fun _ _ e => e) ht
  obtain ⟨x, t, l, u, rfl, rfl, rfl, e1, e2, e3, e4, hq⟩ := h₃
  refine ⟨S x, t, l, u, rfl, rfl, rfl, ?_⟩
  unfold sliceMade
  have hsl : (if (((none : Option (Int × Tok)).map (·.1)).getD (1 : Int) == 1 && (slicePicked (S x) l u none).length == (S x).length) = true then S x else (⟨((slicePicked (S x) l u none).filterMap ((S x).cps[·]?)).toArray⟩ : Str)) = S (cut (l.map (·.1)) (u.map (·.1)) x) := by
    have hp := picked_cut (S x) l u
    rw [S_list] at hp
    split
    · rename_i hc
      simp only [Bool.and_eq_true, beq_iff_eq] at hc
      have h2 := hc.2
      rw [picked_eq, List.length_map, List.length_range, S_list, S_len] at h2
      have h3 := clip_le (u.map (·.1)) x.length
      congr 1
      unfold cut
      rcases Nat.eq_zero_or_pos x.length with hz | hz
      · rw [List.length_eq_zero_iff.mp hz]; simp
      · rw [show clipN (l.map (·.1)) 0 x.length = 0 by omega, List.drop_zero, List.take_of_length_le (by omega)]
    · rw [hp]; rfl
  have hle : (cut (l.map (·.1)) (u.map (·.1)) x).length ≤ x.length := by unfold cut; rw [List.length_take, List.length_drop]; omega
  refine post_val_or_str ⟨?_, fun t' k => ?_⟩
  · rw [hsl, S_len]; show _ ≤ 2 ^ 24; omega
  · rw [hsl]
    have := hq t' (s₃.heap.push { cls := .type "slice", data := .fields #[partValue l, partValue u, .none] }) k fun b o e => Heap.get?_push_of_some _ e
    rw [← e1, ← e2, ← e3] at this
    exact this
theorem go_from {k : Nat} (hl : a.length ≤ 10000) (hQ : ∀ t' h' tk', Ext h h' → Q (.str (S (a.drop k)) t') ⟨h', gs, dr, tk', os⟩) : CutGo Q gs dr os (.str (S a) t) (.int (k : Nat) u) .none ⟨h, gs, dr, tk, os⟩ :=
  ⟨a, t, some (_, u), none, rfl, rfl, rfl, rfl, rfl, rfl, hl, fun t' h' tk' x => by
    show Q (.str (S (cut (some (k : Int)) none a)) t') _
    rw [cut_from]; exact hQ t' h' tk' x⟩
theorem go_all (hl : a.length ≤ 10000) (hQ : ∀ t' h' tk', Ext h h' → Q (.str (S a) t') ⟨h', gs, dr, tk', os⟩) : CutGo Q gs dr os (.str (S a) t) .none .none ⟨h, gs, dr, tk, os⟩ :=
  ⟨a, t, none, none, rfl, rfl, rfl, rfl, rfl, rfl, hl, fun t' h' tk' x => by
    show Q (.str (S (cut none none a)) t') _
    rw [cut_all]; exact hQ t' h' tk' x⟩
theorem go_to {k : Nat} (hl : a.length ≤ 10000) (hQ : ∀ t' h' tk', Ext h h' → Q (.str (S (a.take k)) t') ⟨h', gs, dr, tk', os⟩) : CutGo Q gs dr os (.str (S a) t) .none (.int (k : Nat) u) ⟨h, gs, dr, tk, os⟩ :=
  ⟨a, t, none, some (_, u), rfl, rfl, rfl, rfl, rfl, rfl, hl, fun t' h' tk' x => by
    show Q (.str (S (cut none (some (k : Int)) a)) t') _
    rw [cut_to]; exact hQ t' h' tk' x⟩
theorem go_back {k : Nat} (hk : 0 < k) (hl : a.length ≤ 10000) (hQ : ∀ t' h' tk', Ext h h' → Q (.str (S (a.take (a.length - k))) t') ⟨h', gs, dr, tk', os⟩) : CutGo Q gs dr os (.str (S a) t) .none (.int (-(k : Nat)) u) ⟨h, gs, dr, tk, os⟩ :=
  ⟨a, t, none, some (_, u), rfl, rfl, rfl, rfl, rfl, rfl, hl, fun t' h' tk' x => by
    show Q (.str (S (cut none (some (-(k : Int))) a)) t') _
    rw [cut_back _ _ hk]; exact hQ t' h' tk' x⟩
end
end Mine
end

section
open PySem PySem.W PyProof.Rows
set_option Elab.async false
set_option maxRecDepth 100000
namespace Mine
section
variable {prog : Program} {w : World} {mg mb : Str → Option Value} {A : Around} {E : Value → Shared → Prop} {gs : Array GenState} {dr : Drawn} {tk : Nat} {os : OsState} {h₀ h : Heap} {L : Addr} {m : Str → Option Value} {env : Env} {ks : List (Str × NameKind)} {cl : List (Str × Addr)}
variable {a b : List Nat} {t u : Tok} {Q : Value → Shared → Prop}

theorem r_strS {x : Str} {k : Nat} {pos : Pos} (hQ : ∀ t' tk', Q (.str (S x.cps.toList) t') ⟨h, gs, dr, tk', os⟩) : wpAny (model prog w) A (eval (.Constant (.str x) k pos) env) Q E ⟨h, gs, dr, tk, os⟩ := Calls.Constant_str (hQ _ _)
theorem r_sadd (hl : a.length + b.length ≤ 10000) (hQ : ∀ t' tk', Q (.str (S (a ++ b)) t') ⟨h, gs, dr, tk', os⟩) : wpAny (model prog w) A (binaryOp .Add (.str (S a) t) (.str (S b) u)) Q E ⟨h, gs, dr, tk, os⟩ :=
  SB.add (fun t' k => by
    have e : S a ++ S b = S (a ++ b) := S_eq (by rw [Str.cps_append, Array.toList_append]; rfl)
    rw [e]; exact hQ t' k) (by rw [S_len, S_len]; show _ ≤ 2 ^ 24; omega)
theorem mul_flat (l : List Nat) : ∀ (n : Nat) (acc : Array Nat), ((List.replicate n l.toArray).foldl (· ++ ·) acc).toList = acc.toList ++ (List.replicate n l).flatten := by
  intro n
  induction n with
  | zero => intro acc; simp
  | succ n ih =>
    intro acc
    rw [List.replicate_succ, List.foldl_cons, ih, List.replicate_succ, List.flatten_cons, Array.toList_append, List.append_assoc]
theorem mul_S (l : List Nat) (n : Int) : Txt.mul (S l) n = S (List.replicate n.toNat l).flatten := by
  refine S_eq ?_
  unfold Txt.mul
  split
  · rw [show n.toNat = 0 by omega]; rfl
  · split
    · rename_i h1 h2
      rw [S_list]
      simp only [Bool.or_eq_true, beq_iff_eq] at h2
      rcases h2 with h2 | h2
      · rw [h2]; simp
      · rw [S_len] at h2
        rw [List.length_eq_zero_iff.mp h2]; simp
    · show ((List.replicate n.toNat l.toArray).foldl (· ++ ·) #[]).toList = _
      rw [mul_flat]; simp
theorem r_smul {n : Int} (hn : 0 ≤ n ∧ n ≤ 1000) (hl : a.length = 1) (hQ : ∀ t' tk', Q (.str (S (List.replicate n.toNat a).flatten) t') ⟨h, gs, dr, tk', os⟩) :
    wpAny (model prog w) A (binaryOp .Mult (.str (S a) t) (.int n u)) Q E ⟨h, gs, dr, tk, os⟩ := by
  refine SB.mul ⟨?_, fun h1 _ => ?_, fun _ _ => ?_⟩ fun t' k => ?_
  · simp; omega
  · rw [S_len, hl]
    have : (1 : Int) ≤ (2 ^ 63 - 1) / n := (Int.le_ediv_iff_mul_le (by omega)).mpr (by omega)
    omega
  · rw [S_len, hl]
    show decide (1 * n.toNat > 2 ^ 24) = false
    exact decide_eq_false (by omega)
  · rw [mul_S]; exact hQ t' k
theorem r_seq (hQ : Q (.bool (decide (a = b))) ⟨h, gs, dr, tk, os⟩) : wpAny (model prog w) A (compareOp .Eq (.str (S a) t) (.str (S b) u)) Q E ⟨h, gs, dr, tk, os⟩ :=
  P.eq_str (by show Q (.bool (a == b)) _; rw [show (a == b) = decide (a = b) from Bool.eq_iff_iff.mpr (by simp)]; exact hQ)
theorem r_sne (hQ : Q (.bool (decide (a ≠ b))) ⟨h, gs, dr, tk, os⟩) : wpAny (model prog w) A (compareOp .NotEq (.str (S a) t) (.str (S b) u)) Q E ⟨h, gs, dr, tk, os⟩ :=
  P.ne_str (by show Q (.bool (a != b)) _; rw [show (a != b) = decide (a ≠ b) from Bool.eq_iff_iff.mpr (by simp)]; exact hQ)
theorem r_strue {Q : Bool → Shared → Prop} (hl : a.length ≤ 10000) (hQ : ∀ tk', Q (decide (a ≠ [])) ⟨h, gs, dr, tk', os⟩) : wpAny (model prog w) A (truthy (.str (S a) t)) Q E ⟨h, gs, dr, tk, os⟩ :=
  SBL.truthy (by rw [S_len]; omega) (by
    have e : (((S a).length : Int) != 0) = decide (a ≠ []) := Bool.eq_iff_iff.mpr (by rw [S_len]; simp)
    rw [e]; exact hQ _)
theorem r_slen (hl : a.length ≤ 10000) (hQ : ∀ t' tk', Q (.int a.length t') ⟨h, gs, dr, tk', os⟩) : wpAny (model prog w) A (call (.builtin "len") [.str (S a) t]) Q E ⟨h, gs, dr, tk, os⟩ :=
  len_str (by rw [S_len]; omega) (by rw [S_len]; exact hQ _ _)
theorem r_sitem {value slice : Expr} {i : Int} {c : Nat} (hc : (seqIndex? i a.length).bind (a[·]?) = some c) (hlo : -10000 ≤ i ∧ i ≤ 10000)
    (hs : subscripted slice false (.str (S a) t) (.int i u) = operate [.str (S a) t, .int i u] (getItem (.str (S a) t) (.int i u))) (hQ : ∀ t' tk', Q (.str (S [c]) t') ⟨h, gs, dr, tk', os⟩) :
    wpAny (model prog w) A (subscriptTail value slice (.str (S a) t) (.int i u)) Q E ⟨h, gs, dr, tk, os⟩ :=
  tail_any (typeIs_str _ _ _) F.slot_str_getitem.lookup (PyProof.Rows.getItem_str (c := c) (by simp; omega) (by rw [S_len]; simpa [S] using hc) (hQ _ _)) hs

theorem r_lit {x : Str} {l : List Nat} {k : Nat} {pos : Pos} (hx : x = S l) (hQ : ∀ t' tk', Q (.str (S l) t') ⟨h, gs, dr, tk', os⟩) : wpAny (model prog w) A (eval (.Constant (.str x) k pos) env) Q E ⟨h, gs, dr, tk, os⟩ := by
  subst hx; exact Calls.Constant_str (hQ _ _)
theorem lit_tab : Str.ofString "\t" = S [9] := by rfl
theorem lit_blank : Str.ofString " " = S [32] := by rfl
theorem lit_dot : Str.ofString "." = S [46] := by rfl
theorem lit_dots : Str.ofString ".." = S [46, 46] := by rfl
theorem lit_a : Str.ofString "a" = S [97] := by rfl
theorem lit_ad : Str.ofString "a." = S [97, 46] := by rfl
theorem lit_lf : Str.ofString "\n" = S [10] := by rfl
theorem lit_cr : Str.ofString "\r" = S [13] := by rfl
theorem lit_crlf : Str.ofString "\r\n" = S [13, 10] := by rfl
theorem lit_empty : Str.ofString "" = S [] := by rfl
theorem flat1 (n : Nat) (c : Nat) : (List.replicate n [c]).flatten = List.replicate n c := by
  induction n with
  | zero => rfl
  | succ n ih => rw [List.replicate_succ, List.flatten_cons, ih, List.replicate_succ]; rfl
theorem r_smul1 {n : Int} {c : Nat} (hn : 0 ≤ n ∧ n ≤ 1000) (hQ : ∀ t' tk', Q (.str (S (List.replicate n.toNat c)) t') ⟨h, gs, dr, tk', os⟩) :
    wpAny (model prog w) A (binaryOp .Mult (.str (S [c]) t) (.int n u)) Q E ⟨h, gs, dr, tk, os⟩ := r_smul hn rfl (by rw [flat1]; exact hQ)
theorem idx_nat {k n : Nat} (h : k < n) : seqIndex? (k : Int) n = some k := by
  unfold seqIndex?
  simp only [show ¬ ((k : Int) < 0) by omega, if_false]
  rw [if_pos (by simp; omega)]; simp
theorem idx_neg {k n : Nat} (h0 : 0 < k) (h : k ≤ n) : seqIndex? (-(k : Int)) n = some (n - k) := by
  unfold seqIndex?
  simp only [show (-(k : Int) < 0) by omega, if_true]
  rw [if_pos (by simp; omega)]; congr 1; omega
theorem r_litemS {value slice : Expr} {l : Addr} {vs : List Value} {k : Int} (y : List Nat) (hl : h.IsList l vs.toArray) (h0 : 0 ≤ k ∧ k < 100000) (hx : ∃ t, vs[k.toNat]? = some (.str (S y) t))
    (hs : subscripted slice false (.ref l) (.int k u) = operate [.ref l, .int k u] (getItem (.ref l) (.int k u))) (hQ : ∀ t, Q (.str (S y) t) ⟨h, gs, dr, tk, os⟩) :
    wpAny (model prog w) A (subscriptTail value slice (.ref l) (.int k u)) Q E ⟨h, gs, dr, tk, os⟩ := by
  obtain ⟨t, hx⟩ := hx
  refine tail_any hl.typeIs slot_list_getitem.lookup (wpAny_getItem_list hl h0.1 (by omega) (by simpa using hx) (hQ t)) hs
theorem r_itrue {a : Int} {Q : Bool → Shared → Prop} {s : Shared} (hQ : Q (decide (a ≠ 0)) s) : wpAny (model prog w) A (truthy (.int a t)) Q E s :=
  P.truthy_int (by rw [show (a != 0) = decide (a ≠ 0) by rw [bne, show (a == 0) = decide (a = 0) from rfl, ← decide_not]]; exact hQ)
theorem r_ldn {x : Str} {v : Value} (e : EnvIs env L ks cl) (F : Fr h₀ L h m) (hk : ks.lookup x = some .local) (hv : m x = some v)
    (hQ : Q v ⟨h, gs, dr, tk, os⟩) : wpAny (model prog w) A (loadName env x) Q E ⟨h, gs, dr, tk, os⟩ :=
  wpAny_loadName_local e.kind (by show env.scope.names.lookup x = _; rw [e.names]; exact hk) (by rw [e.loc]; exact F.ns) hv hQ
theorem drop_ne {α : Type} {k : Nat} {a : List α} : List.drop k a ≠ [] ↔ k < a.length := by
  rw [ne_eq, List.drop_eq_nil_iff]; omega
theorem take_ne {α : Type} {k : Nat} {a : List α} (h : k ≤ a.length) : List.take (a.length - k) a ≠ [] ↔ k < a.length := by
  rw [ne_eq, List.take_eq_nil_iff, ← List.length_eq_zero_iff]; omega
-- displays
theorem r_newTuple {vs : List Value} (hl : vs.length ≤ 1000) (hQ : ∀ a h', Ext h h' → IsTup h' a vs.toArray → h.objs.size ≤ a → Q (.ref a) ⟨h', gs, dr, tk, os⟩) : wpAny (model prog w) A (newTuple vs) Q E ⟨h, gs, dr, tk, os⟩ :=
  wpAny_newObj_type (hQ _ _ (fun b o e => Heap.get?_push_of_some _ e) ⟨_, Heap.get?_push_size _ rfl, rfl, _, rfl⟩ (Nat.le_refl _)) (by show vs.toArray.size ≤ 2 ^ 24; rw [List.size_toArray]; omega)
theorem r_newList {vs : List Value} (hl : vs.length ≤ 1000) (hQ : ∀ a h', Ext h h' → h'.PlainList a vs.toArray → h.get? a = none → h.objs.size ≤ a → Q (.ref a) ⟨h', gs, dr, tk, os⟩) : wpAny (model prog w) A (newList vs) Q E ⟨h, gs, dr, tk, os⟩ := by
  refine wpAny_newObj_type (hQ _ _ (fun b o e => Heap.get?_push_of_some _ e) ⟨_, Heap.get?_push_size _ rfl⟩ ?_ (Nat.le_refl _)) (by show vs.toArray.size ≤ 2 ^ 24; rw [List.size_toArray]; omega)
  cases e : h.get? h.objs.size with
  | none => rfl
  | some o => exact absurd (Heap.lt_size e) (Nat.lt_irrefl _)
theorem r_litem {value slice : Expr} {l : Addr} {vs : List Value} {k : Int} {x : Value} (hl : h.IsList l vs.toArray) (h0 : 0 ≤ k ∧ k < 100000) (hx : vs[k.toNat]? = some x)
    (hs : subscripted slice false (.ref l) (.int k u) = operate [.ref l, .int k u] (getItem (.ref l) (.int k u))) (hQ : Q x ⟨h, gs, dr, tk, os⟩) :
    wpAny (model prog w) A (subscriptTail value slice (.ref l) (.int k u)) Q E ⟨h, gs, dr, tk, os⟩ :=
  tail_any hl.typeIs slot_list_getitem.lookup (wpAny_getItem_list hl h0.1 (by omega) (by simpa using hx) hQ) hs
theorem x_splmore {e : Expr} {rest : List Expr} {pos : Pos} {Q : List Value → Shared → Prop} {s : Shared} (he : starEach (e :: rest) env = (false, eval e env) :: starEach rest env)
    (hQ : wpAny (model prog w) A (eval e env) (fun v s₁ => wpAny (model prog w) A (spliced (backTo pos (starEach rest env))) (fun vs s₂ => Q (v :: vs) s₂) E s₁) E s) :
    wpAny (model prog w) A (spliced (backTo pos (starEach (e :: rest) env))) Q E s := spliced_more hQ he
theorem x_splnone {pos : Pos} {Q : List Value → Shared → Prop} {s : Shared} (hQ : Q [] s) : wpAny (model prog w) A (spliced (backTo pos (starEach [] env))) Q E s := spliced_none hQ
end
end Mine
end

section
open PySem PySem.W PyProof.Rows
set_option Elab.async false
set_option maxRecDepth 100000
namespace Mine

def Off (X : List Addr) (h h' : Heap) : Prop := ∀ b o, b ∉ X → h.get? b = some o → h'.get? b = some o
theorem Off.refl (X : List Addr) (h : Heap) : Off X h h := fun _ _ _ e => e
theorem Off.trans {X : List Addr} {a b c : Heap} (x : Off X a b) (y : Off X b c) : Off X a c := fun p o n e => y p o n (x p o n e)
theorem Off.ext {X : List Addr} {a b c : Heap} (x : Off X a b) (y : Ext b c) : Off X a c := fun p o n e => y p o (x p o n e)
theorem Off.same {X : List Addr} {a b c : Heap} {L : Addr} (x : Off X a b) (y : Heap.SameBut L b c) (hL : L ∈ X) : Off X a c := fun p o n e => y.extBut p o (fun q => n (q ▸ hL)) (x p o n e)
theorem Off.more {X Y : List Addr} {a b : Heap} (x : Off X a b) (h : ∀ p ∈ X, p ∈ Y) : Off Y a b := fun p o n e => x p o (fun q => n (h p q)) e
theorem Ext.off {X : List Addr} {a b : Heap} (x : Ext a b) : Off X a b := fun p o _ e => x p o e
theorem same_off {X : List Addr} {a b : Heap} {L : Addr} (y : Heap.SameBut L a b) (hL : L ∈ X) : Off X a b := (Off.refl X a).same y hL

section
variable {prog : Program} {w : World} {mg mb : Str → Option Value} {A : Around} {E : Value → Shared → Prop} {gs : Array GenState} {dr : Drawn} {tk : Nat} {os : OsState} {h₀ h : Heap} {L : Addr} {m : Str → Option Value} {env : Env} {ks : List (Str × NameKind)} {cl : List (Str × Addr)}

def Turn (gs : Array GenState) (dr : Drawn) (os : OsState) (h₀ : Heap) (L : Addr) (X : List Addr) (h₁ : Heap) (J : Heap → (Str → Option Value) → Prop) (Q : Flow → Shared → Prop) : Flow → Shared → Prop
  | .ret v, s' => Q (.ret v) s'
  | .brk, s' => Q .next s'
  | _, s' => ∃ h' m' tk', s' = ⟨h', gs, dr, tk', os⟩ ∧ Fr h₀ L h' m' ∧ J h' m' ∧ Off X h₁ h'

theorem for_walk {I : Addr} {fp wr X : List Addr} {n : Nat} {P : Nat → Value → Prop} {St : Nat → Heap → Prop} {x : Str} {px : Pos} {body : List Stmt} {Q : Flow → Shared → Prop}
    (Inv : Nat → Heap → (Str → Option Value) → Prop) (W : Walks prog w A I fp wr n P St) (e : EnvIs env L ks cl) (hx : ks.lookup x = some .local) (hX : L ∈ X) (hfp : ∀ b ∈ fp, b ∉ X) (hwr : ∀ b ∈ wr, h₀.get? b = none)
    (hst : St 0 h) (F : Fr h₀ L h m) (hI : Inv 0 h m) (stable : ∀ i h₁ h₂ m₁, Inv i h₁ m₁ → Off (L :: wr) h₁ h₂ → Inv i h₂ m₁)
    (turn : ∀ i v h₁ m₁ tk₁, i < n → P i v → Inv i h₁ m₁ → Off (wr ++ X) h h₁ → Fr h₀ L h₁ (upd m₁ x v) → wpAny (model prog w) A (execs body env) (Turn gs dr os h₀ L X h₁ (Inv (i + 1)) Q) NoE ⟨h₁, gs, dr, tk₁, os⟩)
    (done : ∀ h₁ m₁ tk₁, Fr h₀ L h₁ m₁ → Inv n h₁ m₁ → Off (wr ++ X) h h₁ → Q .next ⟨h₁, gs, dr, tk₁, os⟩) :
    codeAny (model prog w) A (.forLoop (.Name x px) (.ref I) body [] env) (fun r s' => match r with | .ok f => Q f s' | .error e => cameBackBy (model prog w) A env E e s') ⟨h, gs, dr, tk, os⟩ := by
  have never : ∀ {α : Type} {t : Sem α} {Q' : α → Shared → Prop} {s : Shared} {N : Value → Shared → Prop}, wpAny (model prog w) A t Q' NoE s → wpAny (model prog w) A t Q' N s := fun hh => wpAny_noRaise hh
  have hLw : ∀ b ∈ wr, b ≠ L := fun b hb q => hfp b (W.sub b hb) (q ▸ hX)
  refine codeAny_forLoop (fun k s' => ∃ i h₁ m₁ tk₁, s' = ⟨h₁, gs, dr, tk₁, os⟩ ∧ i ≤ n ∧ k = n - i ∧ St i h₁ ∧ Fr h₀ L h₁ m₁ ∧ Inv i h₁ m₁ ∧ Off (wr ++ X) h h₁) ?_ n ⟨0, h, m, tk, rfl, Nat.zero_le _, rfl, hst, F, hI, Off.refl _ _⟩
  rintro k s' ⟨i, h₁, m₁, tk₁, rfl, hi, rfl, hst₁, F₁, I₁, O₁⟩
  have step : ∀ h₂ : Heap, (∀ b o, b ∉ wr → h₁.get? b = some o → h₂.get? b = some o) → Fr h₀ L h₂ m₁ ∧ Inv i h₂ m₁ ∧ Off (wr ++ X) h h₂ := fun h₂ hk =>
    ⟨⟨F₁.ns.at' fun o q => hk L o (fun hm => hLw L hm rfl) q, fun b o q => hk b o (fun hm => by have := hwr b hm; rw [this] at q; cases q) (F₁.keep b o q), F₁.above⟩,
      stable i h₁ h₂ m₁ I₁ fun b o hb q => hk b o (fun hm => hb (.tail _ hm)) q, fun b o hb q => hk b o (fun hm => hb (List.mem_append_left _ hm)) (O₁ b o hb q)⟩
  rcases Nat.lt_or_ge i n with hlt | hge
  · refine W.item i _ _ _ hlt hst₁ fun v h₂ tk₂ hP hst₂ hk₂ => ?_
    obtain ⟨F₂, I₂, O₂⟩ := step h₂ hk₂
    refine wpAny_assign_Name (wpAny_storeName_local (m := m₁) (by show env.scope.names.lookup x = _; rw [e.names]; exact hx) (by rw [e.loc]; exact F₂.ns) (fun h₃ hn hs => ?_) (by rw [e.kind]; rfl))
    rw [e.loc] at hn hs
    refine wpAny_mono (never (turn i v h₃ m₁ _ hlt hP (stable i h₂ h₃ m₁ I₂ (same_off hs (.head _))) (O₂.same hs (List.mem_append_right _ hX)) (F₂.set hn hs))) (fun fl s₄ h₄ => ?_) fun _ _ q => q
    have fin : (∃ h' m' tk', s₄ = ⟨h', gs, dr, tk', os⟩ ∧ Fr h₀ L h' m' ∧ Inv (i + 1) h' m' ∧ Off X h₃ h') → ∃ k', k' < n - i ∧ ∃ i h₁ m₁ tk₁, s₄ = ⟨h₁, gs, dr, tk₁, os⟩ ∧ i ≤ n ∧ k' = n - i ∧ St i h₁ ∧ Fr h₀ L h₁ m₁ ∧ Inv i h₁ m₁ ∧ Off (wr ++ X) h h₁ := by
      rintro ⟨h', m', tk', rfl, F', I', O'⟩
      refine ⟨n - (i + 1), by omega, i + 1, h', m', tk', rfl, hlt, rfl, ?_, F', I', ?_⟩
      · exact W.frame _ _ _ hst₂ fun b hb o q => O' b o (hfp b hb) (hs.extBut b o (fun z => hfp b hb (z ▸ hX)) q)
      · exact (O₂.same hs (List.mem_append_right _ hX)).trans (O'.more fun p hp => List.mem_append_right _ hp)
    cases fl with
    | next => exact fin h₄
    | cont => exact fin h₄
    | brk => exact h₄
    | ret v => exact h₄
  · have : i = n := by omega
    subst this
    refine W.done _ _ _ hst₁ fun h₂ tk₂ hk₂ => ?_
    obtain ⟨F₂, I₂, O₂⟩ := step h₂ hk₂
    exact wpAny_execs_nil (done h₂ m₁ tk₂ F₂ I₂ O₂)
end
end Mine
end

section
open PySem PySem.W PyProof.Rows
set_option Elab.async false
set_option maxRecDepth 100000
namespace Mine
section
variable {prog : Program} {w : World} {mg mb : Str → Option Value} {A : Around} {E : Value → Shared → Prop} {gs : Array GenState} {dr : Drawn} {tk : Nat} {os : OsState} {h₀ h : Heap} {L : Addr} {m : Str → Option Value} {env : Env} {ks : List (Str × NameKind)} {cl : List (Str × Addr)}

theorem fresh_none {h : Heap} {a : Addr} (ha : h.objs.size ≤ a) : h.get? a = none := by
  cases e : h.get? a with
  | none => rfl
  | some o => exact absurd (Heap.lt_size e) (Nat.not_lt.mpr ha)

theorem x_for {x : Str} {px pos : Pos} {iter : Expr} {body rest : List Stmt} {Q : Flow → Shared → Prop} {s : Shared} (hs : ∀ x, foldedSetIterable iter env x = pure x)
    (hQ : wpAny (model prog w) A (eval iter env) (fun xv s₁ => wpAny (model prog w) A (pyIter xv) (fun it s₂ => codeAny (model prog w) A (.forLoop (.Name x px) it body [] env)
      (fun r s' => match r with | .ok f => (match f with | .next => wpAny (model prog w) A (execs rest env) Q E s' | f => Q f s') | .error e => cameBackBy (model prog w) A env E e s') s₂) E s₁) E s) :
    wpAny (model prog w) A (execs (.For (.Name x px) iter body [] pos :: rest) env) Q E s := wpAny_execs_cons (wpAny_For hQ hs)

theorem small_ok {a b : Int} (ha : -1000000 ≤ a ∧ a ≤ 1000000) (hb : -1000000 ≤ b ∧ b ≤ 1000000) : Builtin.Range.small a b 1 = true ∧ Builtin.Range.rangeSize a b 1 = ((b - a).toNat : Int) := by
  have hz : Builtin.Range.rangeSize a b 1 = ((b - a).toNat : Int) := by
    unfold Builtin.Range.rangeSize
    rw [if_pos (by decide)]
    split
    · rw [Int.ediv_one]; omega
    · omega
  refine ⟨?_, hz⟩
  unfold Builtin.Range.small
  rw [hz]
  simp only [Builtin.Range.rangeFitsLong, Bool.and_eq_true, Bool.or_eq_true, decide_eq_true_eq, show ((1 : Int) > 0) from by decide, if_true]
  refine ⟨⟨⟨⟨?_, ?_⟩, ?_⟩, ?_⟩, .inr ?_⟩ <;> omega

theorem for_range {r : Addr} {a b : Int} {t u v : Tok} {X : List Addr} {x : Str} {px : Pos} {body : List Stmt} {Q : Flow → Shared → Prop} (Inv : Nat → Heap → (Str → Option Value) → Prop) (n : Nat) (hn : (b - a).toNat = n)
    (hr : IsRange h r a b 1 t u v) (hab : (-1000000 ≤ a ∧ a ≤ 1000000) ∧ -1000000 ≤ b ∧ b ≤ 1000000) (rm : Room 0 A) (e : EnvIs env L ks cl) (hx : ks.lookup x = some .local) (hX : L ∈ X) (hXh : ∀ b ∈ X, b < h.objs.size) (F : Fr h₀ L h m)
    (hI : ∀ h', Ext h h' → Inv 0 h' m) (stable : ∀ I i h₁ h₂ m₁, h.objs.size ≤ I → Inv i h₁ m₁ → Off [L, I] h₁ h₂ → Inv i h₂ m₁)
    (turn : ∀ i t h₁ m₁ tk₁, i < n → Inv i h₁ m₁ → Off X h h₁ → Fr h₀ L h₁ (upd m₁ x (.int (a + i) t)) → wpAny (model prog w) A (execs body env) (Turn gs dr os h₀ L X h₁ (Inv (i + 1)) Q) NoE ⟨h₁, gs, dr, tk₁, os⟩)
    (done : ∀ h₁ m₁ tk₁, Fr h₀ L h₁ m₁ → Inv n h₁ m₁ → Off X h h₁ → Q .next ⟨h₁, gs, dr, tk₁, os⟩) :
    wpAny (model prog w) A (pyIter (.ref r)) (fun it s₂ => codeAny (model prog w) A (.forLoop (.Name x px) it body [] env) (fun r s' => match r with | .ok f => Q f s' | .error e => cameBackBy (model prog w) A env E e s') s₂) E ⟨h, gs, dr, tk, os⟩ := by
  obtain ⟨sm, sz⟩ := small_ok hab.1 hab.2
  refine wpAny_pyIter_range hr sm ?_
  have offI : ∀ {h₁ : Heap}, Off ([h.objs.size] ++ X) (h.push { cls := .type "range_iterator", data := .fields #[rawInt a, rawInt (Builtin.Range.rangeSize a b 1), rawInt 1] }) h₁ → Off X h h₁ := fun O p o hp q => O p o (by
      intro hm
      rcases List.mem_append.mp hm with hm | hm
      · exact absurd (Heap.lt_size q) ((List.mem_singleton.mp hm) ▸ Nat.lt_irrefl _)
      · exact hp hm) (Heap.get?_push_of_some _ q)
  refine for_walk (fun i h₁ m₁ => Inv i h₁ m₁) (Walks.range rm.hd h.objs.size a 1 n) e hx hX ?_ ?_ ?_ (F.push _) (hI _ fun p o q => Heap.get?_push_of_some _ q) (fun i h₁ h₂ m₁ hi ho => stable h.objs.size i h₁ h₂ m₁ (Nat.le_refl _) hi ho) ?_ ?_
  · intro p hp hm
    have := hXh p hm
    rw [List.mem_singleton.mp hp] at this
    exact Nat.lt_irrefl _ this
  · intro p hp
    rw [List.mem_singleton.mp hp]
    exact next_is_new F
  · show (h.push _).get? h.objs.size = _
    rw [sz, hn]
    simpa using Heap.get?_push_size _ rfl
  · rintro i v h₁ m₁ tk₁ hi ⟨t', rfl⟩ hI₁ O₁ F₁
    rw [Int.mul_one] at F₁
    exact turn i t' h₁ m₁ tk₁ hi hI₁ (offI O₁) F₁
  · intro h₁ m₁ tk₁ F₁ I₁ O₁
    exact done h₁ m₁ tk₁ F₁ I₁ (offI O₁)

theorem x_while {test : Expr} {body rest : List Stmt} {pos : Pos} {Q : Flow → Shared → Prop} (J : Nat → Heap → (Str → Option Value) → Prop) {n : Nat} (F : Fr h₀ L h m) (hJ : J n h m)
    (turn : ∀ n h₁ m₁ tk₁, Fr h₀ L h₁ m₁ → J n h₁ m₁ → wpAny (model prog w) A (isTrue test env (eval test env)) (fun b s₂ =>
      if b = true then wpAny (model prog w) A (execs body env) (fun f s₃ => f = .next ∧ ∃ h' m' tk' n', s₃ = ⟨h', gs, dr, tk', os⟩ ∧ n' < n ∧ Fr h₀ L h' m' ∧ J n' h' m') NoE s₂ else wpAny (model prog w) A (execs rest env) Q NoE s₂) NoE ⟨h₁, gs, dr, tk₁, os⟩) :
    wpAny (model prog w) A (execs (.While test body [] pos :: rest) env) Q NoE ⟨h, gs, dr, tk, os⟩ := by
  refine wpAny_execs_cons (wpAny_While (codeAny_whileLoop (fun n s' => ∃ h₁ m₁ tk₁, s' = ⟨h₁, gs, dr, tk₁, os⟩ ∧ Fr h₀ L h₁ m₁ ∧ J n h₁ m₁) ?_ n ⟨h, m, tk, rfl, F, hJ⟩))
  rintro n s' ⟨h₁, m₁, tk₁, rfl, F₁, J₁⟩
  refine wpAny_noRaise (wpAny_mono (turn n h₁ m₁ tk₁ F₁ J₁) (fun b s₂ h₂ => ?_) fun _ _ q => q)
  cases b with
  | false => exact wpAny_execs_nil h₂
  | true =>
    refine wpAny_noRaise (wpAny_mono h₂ (fun f s₃ h₃ => ?_) fun _ _ q => q)
    obtain ⟨rfl, h', m', tk', n', rfl, hn, F', J'⟩ := h₃
    exact ⟨n', hn, h', m', tk', rfl, F', J'⟩

-- types called
theorem c_t1 {pos : Pos} {id : String} {e₁ : Expr} {Q : Value → Shared → Prop} {s : Shared} (hs : starEach [e₁] env = [(false, eval e₁ env)])
    (hQ : wpAny (model prog w) A (eval e₁ env) (fun v₁ s₁ => wpAny (model prog w) A (call (.type id) [v₁]) Q E s₁) E s) :
    wpAny (model prog w) A (callWith pos (.type id) [] (backTo pos (starEach [e₁] env)) []) Q E s := by
  rw [hs]
  exact PyProof.Rows.callWith_type rfl (Calls.evalArgs_plain (Calls.spliced_cons (wpAny_mono hQ (fun _ _ h₁ => Calls.spliced_nil h₁) fun _ _ e => e)))
theorem c_t2 {pos : Pos} {id : String} {e₁ e₂ : Expr} {Q : Value → Shared → Prop} {s : Shared} (hs : starEach [e₁, e₂] env = [(false, eval e₁ env), (false, eval e₂ env)])
    (hQ : wpAny (model prog w) A (eval e₁ env) (fun v₁ s₁ => wpAny (model prog w) A (eval e₂ env) (fun v₂ s₂ => wpAny (model prog w) A (call (.type id) [v₁, v₂]) Q E s₂) E s₁) E s) :
    wpAny (model prog w) A (callWith pos (.type id) [] (backTo pos (starEach [e₁, e₂] env)) []) Q E s := by
  rw [hs]
  exact PyProof.Rows.callWith_type rfl (Calls.evalArgs_plain (Calls.spliced_cons (wpAny_mono hQ (fun _ _ h₁ => Calls.spliced_cons (wpAny_mono h₁ (fun _ _ h₂ => Calls.spliced_nil h₂) fun _ _ e => e)) fun _ _ e => e)))
theorem c_t3 {pos : Pos} {id : String} {e₁ e₂ e₃ : Expr} {Q : Value → Shared → Prop} {s : Shared} (hs : starEach [e₁, e₂, e₃] env = [(false, eval e₁ env), (false, eval e₂ env), (false, eval e₃ env)])
    (hQ : wpAny (model prog w) A (eval e₁ env) (fun v₁ s₁ => wpAny (model prog w) A (eval e₂ env) (fun v₂ s₂ => wpAny (model prog w) A (eval e₃ env) (fun v₃ s₃ => wpAny (model prog w) A (call (.type id) [v₁, v₂, v₃]) Q E s₃) E s₂) E s₁) E s) :
    wpAny (model prog w) A (callWith pos (.type id) [] (backTo pos (starEach [e₁, e₂, e₃] env)) []) Q E s := by
  rw [hs]
  exact PyProof.Rows.callWith_type rfl (Calls.evalArgs_plain (Calls.spliced_cons (wpAny_mono hQ (fun _ _ h₁ => Calls.spliced_cons (wpAny_mono h₁ (fun _ _ h₂ => Calls.spliced_cons (wpAny_mono h₂ (fun _ _ h₃ => Calls.spliced_nil h₃) fun _ _ e => e)) fun _ _ e => e)) fun _ _ e => e)))
theorem r_range1 {b : Int} {t : Tok} {Q : Value → Shared → Prop} (hQ : ∀ r h' t' u' v' tk', Ext h h' → IsRange h' r 0 b 1 t' u' v' → Q (.ref r) ⟨h', gs, dr, tk', os⟩) : wpAny (model prog w) A (call (.type "range") [.int b t]) Q E ⟨h, gs, dr, tk, os⟩ :=
  call_range_1 (hQ _ _ _ _ _ _ (fun p o q => Heap.get?_push_of_some _ q) (Heap.get?_push_size _ rfl))
theorem r_range2 {a b : Int} {t u : Tok} {Q : Value → Shared → Prop} (hQ : ∀ r h' t' u' v' tk', Ext h h' → IsRange h' r a b 1 t' u' v' → Q (.ref r) ⟨h', gs, dr, tk', os⟩) : wpAny (model prog w) A (call (.type "range") [.int a t, .int b u]) Q E ⟨h, gs, dr, tk, os⟩ :=
  call_range_2 (hQ _ _ _ _ _ _ (fun p o q => Heap.get?_push_of_some _ q) (Heap.get?_push_size _ rfl))
end
end Mine
end

section
open PySem PySem.W PyProof.Rows
set_option Elab.async false
set_option maxRecDepth 100000
namespace Mine
section
variable {prog : Program} {w : World} {mg mb : Str → Option Value} {A : Around} {E : Value → Shared → Prop} {gs : Array GenState} {dr : Drawn} {tk : Nat} {os : OsState} {h₀ h : Heap} {L : Addr} {m : Str → Option Value} {env : Env} {ks : List (Str × NameKind)} {cl : List (Str × Addr)}

theorem x_if_join {test : Expr} {body orelse rest : List Stmt} {p : Pos} {Q : Flow → Shared → Prop} {s : Shared} (J : Shared → Prop)
    (h1 : wpAny (model prog w) A (isTrue test env (eval test env)) (fun b s₁ => if b = true then wpAny (model prog w) A (execs body env) (fun f s₂ => f = .next ∧ J s₂) NoE s₁ else wpAny (model prog w) A (execs orelse env) (fun f s₂ => f = .next ∧ J s₂) NoE s₁) NoE s)
    (h2 : ∀ s₂, J s₂ → wpAny (model prog w) A (execs rest env) Q NoE s₂) : wpAny (model prog w) A (execs (.If test body orelse p :: rest) env) Q NoE s := by
  refine x_if (wpAny_mono h1 (fun b s₁ h₁ => ?_) fun _ _ e => e)
  cases b with
  | true => exact wpAny_mono h₁ (fun f s₂ q => by obtain ⟨rfl, hj⟩ := q; exact h2 s₂ hj) fun _ _ e => e
  | false => exact wpAny_mono h₁ (fun f s₂ q => by obtain ⟨rfl, hj⟩ := q; exact h2 s₂ hj) fun _ _ e => e
theorem x_assign2 {x y : Str} {p p1 p2 : Pos} {val : Expr} {rest : List Stmt} {Q : Flow → Shared → Prop} {s : Shared} (hw : swappedStores [.Name x p1, .Name y p2] val env = pure none)
    (hQ : wpAny (model prog w) A (eval val env) (fun v s₁ => wpAny (model prog w) A (storeName env x v) (fun _ s₂ => wpAny (model prog w) A (storeName env y v) (fun _ s₃ => wpAny (model prog w) A (execs rest env) Q E s₃) E s₂) E s₁) E s) :
    wpAny (model prog w) A (execs (.Assign [.Name x p1, .Name y p2] val p :: rest) env) Q E s :=
  wpAny_execs_cons (wpAny_Assign_two (wpAny_mono hQ (fun _ _ h₁ => wpAny_assign_Name (wpAny_mono h₁ (fun _ _ h₂ => wpAny_assign_Name h₂) fun _ _ e => e)) fun _ _ e => e) (by rfl) hw)
theorem x_assign3 {x y z : Str} {p p1 p2 p3 : Pos} {val : Expr} {rest : List Stmt} {Q : Flow → Shared → Prop} {s : Shared} (hw : swappedStores [.Name x p1, .Name y p2, .Name z p3] val env = pure none)
    (hQ : wpAny (model prog w) A (eval val env) (fun v s₁ => wpAny (model prog w) A (storeName env x v) (fun _ s₂ => wpAny (model prog w) A (storeName env y v) (fun _ s₃ => wpAny (model prog w) A (storeName env z v) (fun _ s₄ => wpAny (model prog w) A (execs rest env) Q E s₄) E s₃) E s₂) E s₁) E s) :
    wpAny (model prog w) A (execs (.Assign [.Name x p1, .Name y p2, .Name z p3] val p :: rest) env) Q E s :=
  wpAny_execs_cons (wpAny_Assign_three (wpAny_mono hQ (fun _ _ h₁ => wpAny_assign_Name (wpAny_mono h₁ (fun _ _ h₂ => wpAny_assign_Name (wpAny_mono h₂ (fun _ _ h₃ => wpAny_assign_Name h₃) fun _ _ e => e)) fun _ _ e => e)) fun _ _ e => e) (by rfl) hw)
theorem x_setitem {o i value : Expr} {pos' pos : Pos} {rest : List Stmt} {Q : Flow → Shared → Prop} {s : Shared} (hs : swapsWith value (some (.Subscript o i pos')) pos.line env = pure false)
    (hQ : wpAny (model prog w) A (eval value env) (fun v s₁ => wpAny (model prog w) A (eval o env) (fun ov s₂ => wpAny (model prog w) A (eval i env) (fun iv s₃ => wpAny (model prog w) A (setItem ov iv v) (fun _ s₄ => wpAny (model prog w) A (execs rest env) Q E s₄) E s₃) E s₂) E s₁) E s) :
    wpAny (model prog w) A (execs (.Assign [.Subscript o i pos'] value pos :: rest) env) Q E s := wpAny_execs_cons (wpAny_Assign_Subscript hQ hs)


def isStar : Expr → Bool := fun | .Starred .. => true | _ => false
theorem swap_ok {x y : Str} {p1 p2 p3 p4 : Pos} {k k' : Nat} {v1 v2 : Expr} (hx : env.kindOf x = some .local) (hy : env.kindOf y = some .local) (hb : env.blockKind = .function) (hxy : (x == y) = false) (hline : (p2.line == p1.line) = true) (hst : [v1, v2].any isStar = false) (hf : [v1, v2].all (foldedForSure 8) = false) (hc : [v1, v2].all (constantsAlone 8) = false) :
    swappedStores [.Tuple [.Name x p1, .Name y p2] k p3] (.Tuple [v1, v2] k' p4) env = pure (some [x, y]) := by
  have hn : ([Expr.Name x p1, .Name y p2].filterMap fun | .Name id pos => if env.kindOf id == some .local && pos.line == p1.line then some id else none | _ => none) = [x, y] := by
    have hl : p2.line = p1.line := eq_of_beq hline
    simp [hx, hy, hl]
  have hyx : (y == x) = false := by rw [Bool.eq_false_iff] at hxy ⊢; exact fun q => hxy (by rw [eq_of_beq q]; exact beq_self_eq_true x)
  have hd : [x, y].eraseDups = [x, y] := by
    rw [List.eraseDups_cons, List.filter_cons, hyx]
    rfl
  unfold swappedStores
  dsimp only
  generalize hL : List.filterMap _ _ = L
  have hL' : L = [x, y] := hL.symm.trans hn
  subst hL'
  clear hL
  rw [if_neg (by rw [hb]; simp), if_neg (by intro q; exact absurd (hst.symm.trans q) (by decide)), if_neg (by rw [hd]; simp), if_neg (by rw [hf]; decide), if_neg (by rw [hc]; decide)]


theorem x_swap {x y : Str} {p p1 p2 p3 p4 : Pos} {k k' : Nat} {v1 v2 : Expr} {rest : List Stmt} {Q : Flow → Shared → Prop} (e : EnvIs env L ks cl) (r : Room 0 A)
    (hx : ks.lookup x = some .local) (hy : ks.lookup y = some .local) (hxy : (x == y) = false) (hline : (p2.line == p1.line) = true) (hst : [v1, v2].any isStar = false) (hf : [v1, v2].all (foldedForSure 8) = false) (hc : [v1, v2].all (constantsAlone 8) = false)
    (hs : swapsWithSole [.Tuple [.Name x p1, .Name y p2] k p3] (.Tuple [v1, v2] k' p4) p.line env = pure false)
    (hQ : wpAny (model prog w) A (eval (.Tuple [v1, v2] k' p4) env) (fun v s₁ => ∃ a b t h₁ tk₁ m, v = .ref t ∧ s₁ = ⟨h₁, gs, dr, tk₁, os⟩ ∧ IsTup h₁ t [a, b].toArray ∧ Fr h₀ L h₁ m ∧
      ∀ h₂ tk₂, Fr h₀ L h₂ (upd (upd m y b) x a) → Off [L] h₁ h₂ → wpAny (model prog w) A (execs rest env) Q E ⟨h₂, gs, dr, tk₂, os⟩) E ⟨h, gs, dr, tk, os⟩) :
    wpAny (model prog w) A (execs (.Assign [.Tuple [.Name x p1, .Name y p2] k p3] (.Tuple [v1, v2] k' p4) p :: rest) env) Q E ⟨h, gs, dr, tk, os⟩ := by
  have hxx : env.kindOf x = some .local := by show env.scope.names.lookup x = _; rw [e.names]; exact hx
  have hyy : env.kindOf y = some .local := by show env.scope.names.lookup y = _; rw [e.names]; exact hy
  have hb : env.blockKind = .function := by unfold Env.blockKind; rw [e.kind]; rfl
  have hw := swap_ok (p3 := p3) (p4 := p4) (k := k) (k' := k') hxx hyy hb hxy hline hst hf hc
  refine wpAny_execs_cons (Assign_Tuple_swapped (names := [x, y]) ?_ hs hw)
  refine wpAny_mono hQ (fun v s₁ h₁ => ?_) fun _ _ e => e
  obtain ⟨a, b, t, h₁, tk₁, m, rfl, rfl, ht, F, hk⟩ := h₁
  have key : ∀ {Q' : List Value → Shared → Prop}, (∀ h', Heap.ExtBut h₁.objs.size h₁ h' → Q' [a, b] ⟨h', gs, dr, tk₁, os⟩) → wpAny (model prog w) A (unpackItems (.ref t) 2 none) Q' E ⟨h₁, gs, dr, tk₁, os⟩ := fun hh => unpackItems_tuple (items := [a, b].toArray) r.hd ht hh
  rw [show [x, y].length = 2 from rfl]
  refine key fun h' he => ?_
  have F' : Fr h₀ L h' m := F.extBut he (Nat.le_refl _)
  have O' : Off [L] h₁ h' := fun b o _ q => he b o (Nat.ne_of_lt (Heap.lt_size q)) q
  show wpAny _ A (assignInOrder [bindName env y, bindName env x] [b, a]) _ _ _
  refine wpAny_bind (wpAny_holding (wpAny_bindName (wpAny_storeName_local hyy (m := m) (by rw [e.loc]; exact F'.ns) (fun h₂ hn hs => ?_) (by rw [e.kind]; rfl))))
  rw [e.loc] at hn hs
  refine wpAny_bind (wpAny_holding (wpAny_bindName (wpAny_storeName_local hxx (by rw [e.loc]; exact hn) (fun h₃ hn₃ hs₃ => ?_) (by rw [e.kind]; rfl))))
  rw [e.loc] at hn₃ hs₃
  exact wpAny_pure (hk h₃ _ ((F'.set hn hs).set hn₃ hs₃) ((O'.same hs (.head _)).same hs₃ (.head _)))
end
end Mine
end

section
open PySem PySem.W PyProof.Rows
set_option Elab.async false
set_option maxRecDepth 100000
namespace Mine

/-- a list of ints -/
def Ints (vs : List Value) (P : Nat) (f : Nat → Int) : Prop := vs.length = P ∧ ∀ i : Nat, i < P → ∃ t : Tok, vs[i]? = some (Value.int (f i) t)
theorem Ints.set {vs : List Value} {P : Nat} {f g : Nat → Int} (x : Ints vs P f) (k : Nat) (n : Int) (t : Tok) (hk : k < P) (hg : ∀ i, i < P → g i = if i = k then n else f i) : Ints (vs.set k (.int n t)) P g := by
  refine ⟨by rw [List.length_set, x.1], fun j hj => ?_⟩
  rw [List.getElem?_set, hg j hj]
  by_cases e : k = j
  · subst e
    rw [if_pos rfl, if_pos rfl, if_pos (by rw [x.1]; exact hk)]; exact ⟨t, rfl⟩
  · rw [if_neg e, if_neg (fun q => e q.symm)]; exact x.2 j hj
theorem Ints.to {vs : List Value} {P : Nat} {f g : Nat → Int} (x : Ints vs P f) (hg : ∀ i, i < P → g i = f i) : Ints vs P g := ⟨x.1, fun i hi => by rw [hg i hi]; exact x.2 i hi⟩
theorem list_at {h h' : Heap} {D : Addr} {vs : Array Value} (x : h.IsList D vs) (k : ∀ o, h.get? D = some o → h'.get? D = some o) : h'.IsList D vs := by
  obtain ⟨o, ho, r⟩ := x
  exact ⟨o, k o ho, r⟩

section
variable {prog : Program} {w : World} {mg mb : Str → Option Value} {A : Around} {E : Value → Shared → Prop} {gs : Array GenState} {dr : Drawn} {tk : Nat} {os : OsState} {h₀ h : Heap} {L : Addr} {m : Str → Option Value} {env : Env} {ks : List (Str × NameKind)} {cl : List (Str × Addr)}

def FnGo (h₀ : Heap) (L : Addr) (s : Shared) (X : Prop) : Prop := (∃ m, Fr h₀ L s.heap m) ∧ X
theorem fn_go {X : Prop} (F : Fr h₀ L h m) (hX : X) : FnGo h₀ L ⟨h, gs, dr, tk, os⟩ X := ⟨⟨m, F⟩, hX⟩
theorem c_f1 {pos : Pos} {f : Addr} {oc : Value} {od : Option Addr} {osl : Array (Option Value)} {fd : FuncData} {e₁ : Expr} {Q : Value → Shared → Prop} (_F : Fr h₀ L h m) (g : G w mg mb h₀) (hl : (Mine.hd.heap_39 w.params).lookup f = some ⟨oc, od, .func fd, osl⟩)
    (hs : starEach [e₁] env = [(false, eval e₁ env)])
    (hQ : wpAny (model prog w) A (eval e₁ env) (fun v₁ s₁ => FnGo h₀ L s₁ (wpAny (model prog w) A (call (.ref f) [v₁]) Q E s₁)) E ⟨h, gs, dr, tk, os⟩) :
    wpAny (model prog w) A (callWith pos (.ref f) [] (backTo pos (starEach [e₁] env)) []) Q E ⟨h, gs, dr, tk, os⟩ := by
  rw [hs]
  refine Calls.callWith_function (o := ⟨oc, od, .func fd, osl⟩) (fd := fd) (Calls.evalArgs_plain (Calls.spliced_cons (wpAny_mono hQ (fun _ _ h₁ => Calls.spliced_nil ?_) fun _ _ e => e)))
  obtain ⟨⟨m, F⟩, hX⟩ := h₁
  exact ⟨⟨F.keep _ _ (g.X _ _ hl), rfl⟩, hX⟩
theorem c_f2 {pos : Pos} {f : Addr} {oc : Value} {od : Option Addr} {osl : Array (Option Value)} {fd : FuncData} {e₁ e₂ : Expr} {Q : Value → Shared → Prop} (_F : Fr h₀ L h m) (g : G w mg mb h₀) (hl : (Mine.hd.heap_39 w.params).lookup f = some ⟨oc, od, .func fd, osl⟩)
    (hs : starEach [e₁, e₂] env = [(false, eval e₁ env), (false, eval e₂ env)])
    (hQ : wpAny (model prog w) A (eval e₁ env) (fun v₁ s₁ => wpAny (model prog w) A (eval e₂ env) (fun v₂ s₂ => FnGo h₀ L s₂ (wpAny (model prog w) A (call (.ref f) [v₁, v₂]) Q E s₂)) E s₁) E ⟨h, gs, dr, tk, os⟩) :
    wpAny (model prog w) A (callWith pos (.ref f) [] (backTo pos (starEach [e₁, e₂] env)) []) Q E ⟨h, gs, dr, tk, os⟩ := by
  rw [hs]
  refine Calls.callWith_function (o := ⟨oc, od, .func fd, osl⟩) (fd := fd) (Calls.evalArgs_plain (Calls.spliced_cons (wpAny_mono hQ (fun _ _ h₁ => Calls.spliced_cons (wpAny_mono h₁ (fun _ _ h₂ => Calls.spliced_nil ?_) fun _ _ e => e)) fun _ _ e => e)))
  obtain ⟨⟨m, F⟩, hX⟩ := h₂
  exact ⟨⟨F.keep _ _ (g.X _ _ hl), rfl⟩, hX⟩
theorem c_f3 {pos : Pos} {f : Addr} {oc : Value} {od : Option Addr} {osl : Array (Option Value)} {fd : FuncData} {e₁ e₂ e₃ : Expr} {Q : Value → Shared → Prop} (_F : Fr h₀ L h m) (g : G w mg mb h₀) (hl : (Mine.hd.heap_39 w.params).lookup f = some ⟨oc, od, .func fd, osl⟩)
    (hs : starEach [e₁, e₂, e₃] env = [(false, eval e₁ env), (false, eval e₂ env), (false, eval e₃ env)])
    (hQ : wpAny (model prog w) A (eval e₁ env) (fun v₁ s₁ => wpAny (model prog w) A (eval e₂ env) (fun v₂ s₂ => wpAny (model prog w) A (eval e₃ env) (fun v₃ s₃ => FnGo h₀ L s₃ (wpAny (model prog w) A (call (.ref f) [v₁, v₂, v₃]) Q E s₃)) E s₂) E s₁) E ⟨h, gs, dr, tk, os⟩) :
    wpAny (model prog w) A (callWith pos (.ref f) [] (backTo pos (starEach [e₁, e₂, e₃] env)) []) Q E ⟨h, gs, dr, tk, os⟩ := by
  rw [hs]
  refine Calls.callWith_function (o := ⟨oc, od, .func fd, osl⟩) (fd := fd) (Calls.evalArgs_plain (Calls.spliced_cons (wpAny_mono hQ (fun _ _ h₁ => Calls.spliced_cons (wpAny_mono h₁ (fun _ _ h₂ => Calls.spliced_cons (wpAny_mono h₂ (fun _ _ h₃ => Calls.spliced_nil ?_) fun _ _ e => e)) fun _ _ e => e)) fun _ _ e => e)))
  obtain ⟨⟨m, F⟩, hX⟩ := h₃
  exact ⟨⟨F.keep _ _ (g.X _ _ hl), rfl⟩, hX⟩

theorem small2 {P : Nat} (hP : 0 < P) (hP' : P ≤ 1000) : Builtin.Range.small 2 (2 * ((P : Int) + 1)) 2 = true ∧ Builtin.Range.rangeSize 2 (2 * ((P : Int) + 1)) 2 = (P : Int) := by
  have hz : Builtin.Range.rangeSize 2 (2 * ((P : Int) + 1)) 2 = (P : Int) := by
    unfold Builtin.Range.rangeSize
    rw [if_pos (by decide), if_pos (by omega)]
    omega
  refine ⟨?_, hz⟩
  unfold Builtin.Range.small
  rw [hz]
  have h2 : ∀ x y : Int, (if (2 : Int) > 0 then x else y) = x := fun x y => if_pos (by decide)
  have e1 : ∀ x : Int, -(2 ^ 62) ≤ x → x < 2 ^ 62 → Builtin.Range.rangeFitsLong x = true := fun x _ _ => by
    unfold Builtin.Range.rangeFitsLong
    simp only [Bool.and_eq_true, decide_eq_true_eq]; omega
  rw [e1 2 (by omega) (by omega), e1 (2 * ((P : Int) + 1)) (by omega) (by omega), e1 P (by omega) (by omega), e1 (2 * ((P : Int) + 1) + (2 - 1)) (by omega) (by omega)]
  simp only [Bool.true_and, Bool.or_eq_true]
  right
  rw [if_pos (by decide)]
theorem r_range3 {a b c : Int} {t u v : Tok} {Q : Value → Shared → Prop} (hc : c ≠ 0) (hs : 0 ≤ b - a ∧ b - a ≤ 10000 ∧ 0 < c ∧ c ≤ 1000) (hQ : ∀ r h' t' u' v' tk', Ext h h' → IsRange h' r a b c t' u' v' → Q (.ref r) ⟨h', gs, dr, tk', os⟩) :
    wpAny (model prog w) A (call (.type "range") [.int a t, .int b u, .int c v]) Q E ⟨h, gs, dr, tk, os⟩ :=
  call_range_3 hc (hQ _ _ _ _ _ _ (fun p o q => Heap.get?_push_of_some _ q) (Heap.get?_push_size _ rfl)) (.inl (PyProof.noPylong_small (by omega)))
theorem r_list2 {r : Addr} {P : Nat} {t u v : Tok} {Q : Value → Shared → Prop} (rm : Room 0 A) (hr : IsRange h r 2 (2 * ((P : Int) + 1)) 2 t u v) (hP : 0 < P) (hP' : P ≤ 1000)
    (hQ : ∀ l h' tk' vs, Ext h h' → h.objs.size ≤ l → h'.IsList l vs.toArray → Ints vs P (fun i => 2 * ((i : Int) + 1)) → Q (.ref l) ⟨h', gs, dr, tk', os⟩) :
    wpAny (model prog w) A (call (.type "list") [.ref r]) Q E ⟨h, gs, dr, tk, os⟩ := by
  refine call_list_range rm.hd hr (small2 hP hP').1 (small2 hP hP').2 (by show P ≤ 2 ^ 24; omega) fun h' tk' acc c k hS hacc => ?_
  refine hQ _ h' tk' acc.toList k (Nat.le_refl _) ⟨_, hS, rfl, c, by simp⟩ ⟨by simp [hacc.1], fun i hlt => ?_⟩
  have hsz : i < acc.size := by rw [hacc.1]; exact hlt
  have hx : acc[i]? = some acc[i] := Array.getElem?_eq_getElem hsz
  obtain ⟨t, ht⟩ := hacc.2 i _ hx
  refine ⟨t, ?_⟩
  rw [Array.getElem?_toList, hx, ht]
  refine congrArg some (congrArg (fun z => Value.int z t) ?_)
  show 2 + (i : Int) * 2 = 2 * ((i : Int) + 1); omega
theorem r_setitem {l : Addr} {vs : List Value} {k : Int} {t : Tok} {v : Value} {Q : Unit → Shared → Prop} (hl : h.IsList l vs.toArray) (h0 : 0 ≤ k ∧ k < 100000) (hn : k.toNat < vs.length) (F : Fr h₀ L h m) (hlL : l ≠ L) (hl0 : h₀.get? l = none)
    (hQ : ∀ h', h'.IsList l (vs.set k.toNat v).toArray → Heap.SameBut l h h' → Fr h₀ L h' m → Q () ⟨h', gs, dr, tk, os⟩) :
    wpAny (model prog w) A (setItem (.ref l) (.int k t) v) Q E ⟨h, gs, dr, tk, os⟩ := by
  refine wpAny_setItem_list hl h0.1 (by omega) (by simp; omega) fun h' hl' hs => ?_
  refine hQ h' (by simpa using hl') hs ⟨F.ns.extBut hs.extBut (Ne.symm hlL), fun b o q => hs.extBut b o (fun z => ?_) (F.keep b o q), F.above⟩
  subst z; rw [hl0] at q; cases q
theorem x_if1 {test : Expr} {body rest : List Stmt} {p : Pos} {Q : Flow → Shared → Prop} {s : Shared}
    (hQ : wpAny (model prog w) A (isTrue test env (eval test env)) (fun b s₁ => if b = true then wpAny (model prog w) A (execs body env) (fun f s₂ => f = .next ∧ wpAny (model prog w) A (execs rest env) Q E s₂) E s₁ else wpAny (model prog w) A (execs rest env) Q E s₁) E s) :
    wpAny (model prog w) A (execs (.If test body [] p :: rest) env) Q E s := by
  refine x_if (wpAny_mono hQ (fun b s₁ h₁ => ?_) fun _ _ e => e)
  cases b with
  | true => exact wpAny_mono h₁ (fun f s₂ q => by obtain ⟨rfl, hj⟩ := q; exact hj) fun _ _ e => e
  | false => exact x_nil h₁
theorem kd_s {h h' : Heap} {D L : Addr} {o : Obj} (s : Heap.SameBut L h h') (hne : D ≠ L) (q : h.get? D = some o) : h'.get? D = some o := s.extBut D o hne q
theorem kd_x {h h' : Heap} {D : Addr} {o : Obj} (x : Ext h h') (q : h.get? D = some o) : h'.get? D = some o := x D o q
theorem r_slenR {P x : Nat} {t : Tok} {Q : Value → Shared → Prop} (hl : P ≤ 10000) (hQ : ∀ t' tk', Q (.int P t') ⟨h, gs, dr, tk', os⟩) : wpAny (model prog w) A (call (.builtin "len") [.str (S (List.replicate P x)) t]) Q E ⟨h, gs, dr, tk, os⟩ :=
  r_slen (by simpa using hl) (by rw [List.length_replicate]; exact hQ)
theorem r_postcut {x p : Str} {p1 p2 p3 p4 p5 p6 : Pos} {kk : Nat} {a : List Nat} {t u : Tok} {k : Nat} {Q : Value → Shared → Prop} (e : EnvIs env L ks cl) (F : Fr h₀ L h m) (hk : ks.lookup x = some .local) (hk' : ks.lookup p = some .local)
    (hx : m x = some (.str (S a) t)) (hp : m p = some (.int (-(k : Nat)) u)) (hd : (x == ("__debug__" : Str)) = false) (hd' : (p == ("__debug__" : Str)) = false) (hl : a.length ≤ 10000)
    (hQ : ∀ t' h' tk', Ext h h' → Q (.str (S (a.take (a.length - k))) t') ⟨h', gs, dr, tk', os⟩) :
    wpAny (model prog w) A (eval (.Subscript (.Name x p1) (.Slice none (some (.BoolOp .Or [.Name p p2, .Constant .none kk p3] p4)) none p5) p6) env) Q E ⟨h, gs, dr, tk, os⟩ := by
  refine r_cut (fun _ _ => rfl) (r_loc e F hk hx hd (e_none (e_some (BoolOp_or (r_loc e F hk' hp hd' (r_itrue ?_))))))
  refine r_ite (fun q => ?_) fun q => ?_
  · exact go_back (by omega) hl hQ
  · refine BoolOp_one (r_none (go_all hl fun t' h' tk' X => ?_))
    have := hQ t' h' tk' X
    rwa [show k = 0 by omega, Nat.sub_zero, List.take_of_length_le (Nat.le_refl _)] at this
end
end Mine
end

section
open PySem PySem.W PyProof.Rows
set_option Elab.async false
set_option maxRecDepth 100000
set_option maxHeartbeats 1000000
namespace Mine

def TupO (o : Obj) : Prop := o.cls = .type "tuple" ∧ ∃ xs n, o.data = .seq xs n
/-- what is new (from lo on) stays, and so do tuples -/
def Mild (lo : Nat) (h h' : Heap) : Prop := ∀ b o, h.get? b = some o → lo ≤ b ∨ TupO o → h'.get? b = some o
theorem Ext.mild {lo : Nat} {h h' : Heap} (x : Ext h h') : Mild lo h h' := fun b o e _ => x b o e
theorem Mild.tq {lo : Nat} {h h' : Heap} (x : Mild lo h h') : Tq h h' := fun b o xs n e e' f => x b o e (.inr ⟨f, xs, n, e'⟩)

def testsOf (ifs : List Expr) (env : Env) : Sem Bool := forIn ifs true fun c r => if r = true then do let ok ← isTrue c env (eval c env); pure (ForInStep.yield ok) else pure (ForInStep.yield r)

section
variable {prog : Program} {w : World} {mg mb : Str → Option Value} {A : Around} {E : Value → Shared → Prop} {gs : Array GenState} {dr : Drawn} {tk : Nat} {os : OsState} {h₀ h : Heap} {L : Addr} {m : Str → Option Value} {env : Env} {ks : List (Str × NameKind)} {cl : List (Str × Addr)}

theorem comp_turns {elt target iter : Expr} {ifs : List Expr} {scope : Scope} {pos : Pos} {it acc : Value} {env : Env} {R : Result → Shared → Prop} {s : Shared} (I : Nat → Shared → Prop)
    (turn : ∀ n s, I n s → wpAny (model prog w) A (pyNext it) (fun r s₁ => match r with
      | none => R (.ok .next) s₁
      | some v => wpAny (model prog w) A (letOwnedTupleGo target it v) (fun _ s₁' => wpAny (model prog w) A (assign target env v) (fun _ s₂ => wpAny (model prog w) A (testsOf ifs env) (fun ok s₃ =>
            if ok = true then wpAny (model prog w) A (eval elt env) (fun x s₄ => wpAny (model prog w) A (call (.builtin "list.append") [acc, x]) (fun _ s₅ => ∃ m, m < n ∧ I m s₅) NoE s₄) NoE s₃
            else ∃ m, m < n ∧ I m s₃) NoE s₂) NoE s₁') NoE s₁) NoE s)
    (n : Nat) (h : I n s) : codeAny (model prog w) A (.compLoop (.ListComp elt [⟨target, iter, ifs, 0⟩] scope pos) 0 it acc env) R s := by
  refine codeAny_loop rfl I (fun n s hI => ?_) n h
  show wpAny _ A ((compTurn (.ListComp elt [⟨target, iter, ifs, 0⟩] scope pos) 0 it acc env).onRaise (fun x => do noteFrame x env; theTreesLotGoes x)) _ _ s
  refine wpAny_noted ?_
  rw [compTurn_list]
  refine wpAny_bind (wpAny_standAt (wpAny_bind (wpAny_noRaise (wpAny_mono (turn n s hI) (fun r s₁ h₁ => ?_) fun _ _ h' => h'))))
  cases r with
  | none => exact wpAny_pure h₁
  | some v =>
    refine wpAny_bind (wpAny_noRaise (wpAny_mono h₁ (fun _ s₁' h₁' => ?_) fun _ _ h' => h'))
    refine wpAny_bind (wpAny_noRaise (wpAny_mono h₁' (fun _ s₂ h₂ => ?_) fun _ _ h' => h'))
    refine wpAny_bind (wpAny_noRaise (wpAny_mono h₂ (fun ok s₃ h₃ => ?_) fun _ _ h' => h'))
    cases ok with
    | false => exact wpAny_pure ⟨rfl, h₃⟩
    | true =>
      exact wpAny_bind (wpAny_bind (wpAny_noRaise (wpAny_mono h₃ (fun x s₄ h₄ => wpAny_bind (wpAny_noRaise (wpAny_mono h₄ (fun _ s₅ h₅ => wpAny_pure (wpAny_pure ⟨rfl, h₅⟩)) fun _ _ h' => h'))) fun _ _ h' => h')))

structure Src (prog : Program) (w : World) (A : Around) (gs : Array GenState) (dr : Drawn) (os : OsState) (target : Expr) (cenv : Env) (I : Addr) (fp wr : List Addr) (n : Nat) (V : Nat → (Str → Option Value) → Prop) (St : Nat → Heap → Prop) : Prop where
  sub : ∀ b ∈ wr, b ∈ fp
  frame : ∀ i h h', St i h → (∀ b ∈ fp, ∀ o, h.get? b = some o → h'.get? b = some o) → St i h'
  item : ∀ i h m tk (Q : Shared → Prop), i < n → St i h → h.Ns cenv.locals m → cenv.locals ∉ fp →
    (∀ h' m' tk', St (i + 1) h' → h'.Ns cenv.locals m' → V i m' → (∀ b o, b ∉ cenv.locals :: wr → h.get? b = some o → h'.get? b = some o) → Q ⟨h', gs, dr, tk', os⟩) →
    wpAny (model prog w) A (pyNext (.ref I)) (fun r s₁ => ∃ v, r = some v ∧ wpAny (model prog w) A (letOwnedTupleGo target (.ref I) v) (fun _ s₁' => wpAny (model prog w) A (assign target cenv v) (fun _ s₂ => Q s₂) NoE s₁') NoE s₁) NoE ⟨h, gs, dr, tk, os⟩
  done : ∀ h tk (Q : Option Value → Shared → Prop), St n h → (∀ h' tk', (∀ b o, b ∉ wr → h.get? b = some o → h'.get? b = some o) → Q none ⟨h', gs, dr, tk', os⟩) → wpAny (model prog w) A (pyNext (.ref I)) Q NoE ⟨h, gs, dr, tk, os⟩
  self : ∀ i (s : Shared) (Q : Value → Shared → Prop) (E : Value → Shared → Prop), St i s.heap → Q (.ref I) s → wpAny (model prog w) A (pyIter (.ref I)) Q E s

theorem Src.name {x : Str} {px : Pos} {I : Addr} {fp wr : List Addr} {n : Nat} {P : Nat → Value → Prop} {St : Nat → Heap → Prop} {cenv : Env} (W : Walks prog w A I fp wr n P St) (hx : cenv.kindOf x = some .local) (hk : cenv.scope.kind = .function) :
    Src prog w A gs dr os (.Name x px) cenv I fp wr n (fun i m => ∃ v, P i v ∧ m x = some v) St where
  sub := W.sub
  frame := W.frame
  item := fun i h m tk Q hi st hn hC hQ => by
    refine W.item i _ _ _ hi st fun v h' tk' hP st' k' => ?_
    refine ⟨v, rfl, ?_⟩
    rw [show letOwnedTupleGo (.Name x px) (.ref I) v = pure () from rfl]
    refine wpAny_pure (wpAny_assign_Name (wpAny_storeName_local hx (hn.at' fun o e => k' _ o (fun hm => hC (W.sub _ hm)) e) (fun h₂ hn₂ hs₂ => ?_) (by rw [hk]; rfl)))
    refine hQ h₂ _ _ (W.frame _ _ _ st' fun b hb o e => hs₂.extBut b o (fun z => hC (z ▸ hb)) e) hn₂ ⟨v, hP, if_pos rfl⟩ fun b o hb e => hs₂.extBut b o (fun z => hb (z ▸ .head _)) (k' b o (fun z => hb (.tail _ z)) e)
  done := fun h tk Q st hQ => W.done _ _ _ st fun h' tk' k => hQ h' tk' k
  self := W.self

theorem comp_loop {elt target iter : Expr} {ifs : List Expr} {scope : Scope} {pos : Pos} {I D : Addr} {fp wr : List Addr} {n : Nat} {V : Nat → (Str → Option Value) → Prop} {St : Nat → Heap → Prop} {cenv : Env} {R : Result → Shared → Prop}
    (p : Nat → Bool) (T : Nat → Heap → Value → Prop) (W : Src prog w A gs dr os target cenv I fp wr n V St) (hsz : n ≤ 1000) (hDC : D ≠ cenv.locals) (hDf : D ∉ fp) (hCf : cenv.locals ∉ fp) (lo : Nat) (hlo : cenv.locals < lo ∧ D < lo ∧ ∀ b ∈ wr, b < lo)
    (hT : (∀ j h h' y, T j h y → T j h' y) ∨ ((∀ j h h' y, T j h y → Mild lo h h' → T j h' y) ∧ ∀ i h, St i h → ∀ b ∈ wr, ∀ o, h.get? b = some o → ¬ TupO o))
    (hst : St 0 h) (hacc : h.PlainList D #[]) (hn : h.Ns cenv.locals m)
    (tests : ∀ i h₃ m₃ tk₃, i < n → V i m₃ → h₃.Ns cenv.locals m₃ → (∀ b o, b ∉ cenv.locals :: D :: wr → h.get? b = some o → h₃.get? b = some o) → wpAny (model prog w) A (testsOf ifs cenv) (fun ok s₄ => ok = p i ∧ ∃ h₄ tk₄, s₄ = ⟨h₄, gs, dr, tk₄, os⟩ ∧ Ext h₃ h₄) NoE ⟨h₃, gs, dr, tk₃, os⟩)
    (elts : ∀ i h₃ m₃ tk₃, i < n → V i m₃ → p i = true → h₃.Ns cenv.locals m₃ → (∀ b o, b ∉ cenv.locals :: D :: wr → h.get? b = some o → h₃.get? b = some o) → wpAny (model prog w) A (eval elt cenv) (fun y s₄ => ∃ h₄ tk₄, s₄ = ⟨h₄, gs, dr, tk₄, os⟩ ∧ Ext h₃ h₄ ∧ T i h₄ y) NoE ⟨h₃, gs, dr, tk₃, os⟩)
    (hR : ∀ h' tk' m' (ys : List Value), h'.Ns cenv.locals m' → h'.PlainList D ys.toArray → Paired (fun j y => T j h' y) ((List.range n).filter p) ys → (∀ b o, b ∉ cenv.locals :: D :: wr → h.get? b = some o → h'.get? b = some o) → R (.ok .next) ⟨h', gs, dr, tk', os⟩) :
    codeAny (model prog w) A (.compLoop (.ListComp elt [⟨target, iter, ifs, 0⟩] scope pos) 0 (.ref I) (.ref D) cenv) R ⟨h, gs, dr, tk, os⟩ := by
  have hCw : cenv.locals ∉ wr := fun z => hCf (W.sub _ z)
  have hDw : D ∉ wr := fun z => hDf (W.sub _ z)
  -- how T stays
  have notC : ∀ {h₁ : Heap} {m₁ : Str → Option Value} {o : Obj}, h₁.Ns cenv.locals m₁ → h₁.get? cenv.locals = some o → ¬ TupO o := by
    rintro h₁ m₁ o ⟨o', es, ep, a1, a2, _⟩ e ⟨_, xs, n, e2⟩
    rw [a1] at e; cases e; rw [a2] at e2; cases e2
  have notD : ∀ {h₁ : Heap} {ys : Array Value} {o : Obj}, h₁.PlainList D ys → h₁.get? D = some o → ¬ TupO o := by
    rintro h₁ ys o a e ⟨t1, _⟩
    obtain ⟨o', e', c', _⟩ := a.isList
    rw [e'] at e; cases e; rw [c'] at t1; exact absurd t1 (by decide)
  have stepT : ∀ i j h₁ h₂ y m₁ ys, T j h₁ y → St i h₁ → h₁.Ns cenv.locals m₁ → h₁.PlainList D ys → (∀ b o, b ∉ cenv.locals :: D :: wr → h₁.get? b = some o → h₂.get? b = some o) → T j h₂ y := by
    intro i j h₁ h₂ y m₁ ys t st ns pl k
    rcases hT with hT | ⟨hT, hw⟩
    · exact hT _ _ _ _ t
    · refine hT _ _ _ _ t fun b o e hb => k b o (fun hm => ?_) e
      rcases List.mem_cons.mp hm with rfl | hm
      · rcases hb with hb | hb
        · exact absurd hlo.1 (Nat.not_lt.mpr hb)
        · exact notC ns e hb
      · rcases List.mem_cons.mp hm with rfl | hm
        · rcases hb with hb | hb
          · exact absurd hlo.2.1 (Nat.not_lt.mpr hb)
          · exact notD pl e hb
        · rcases hb with hb | hb
          · exact absurd (hlo.2.2 b hm) (Nat.not_lt.mpr hb)
          · exact hw i h₁ st b hm o e hb
  have mono : ∀ {l : List Nat} {ys : List Value} {F G : Nat → Value → Prop}, Paired F l ys → (∀ j y, F j y → G j y) → Paired G l ys := by
    intro l ys F G pr f
    induction pr with
    | nil => exact .nil
    | cons a _ ih => exact .cons (f _ _ a) ih
  refine comp_turns (fun k s' => ∃ i h₁ m₁ tk₁, ∃ ys : List Value, s' = ⟨h₁, gs, dr, tk₁, os⟩ ∧ i ≤ n ∧ k = n + 1 - i ∧ ys.length ≤ i ∧ St i h₁ ∧ h₁.Ns cenv.locals m₁ ∧ h₁.PlainList D ys.toArray ∧ Paired (fun j y => T j h₁ y) ((List.range i).filter p) ys ∧
    (∀ b o, b ∉ cenv.locals :: D :: wr → h.get? b = some o → h₁.get? b = some o)) ?_ (n + 1) ⟨0, h, m, tk, [], rfl, Nat.zero_le _, rfl, Nat.le_refl _, hst, hn, hacc, .nil, fun _ _ _ e => e⟩
  rintro k s' ⟨i, h₁, m₁, tk₁, ys, rfl, hi, rfl, hyl, st, ns, pl, pr, k₁⟩
  rcases Nat.lt_or_ge i n with hlt | hge
  · refine wpAny_mono (W.item i h₁ m₁ tk₁ _ hlt st ns hCf fun h₂ m₂ tk₂ st₂ ns₂ hV k₂ => ?_) (fun r s₁ hr => by obtain ⟨v, rfl, hv⟩ := hr; exact hv) fun _ _ e => e
    have pl₂ : h₂.PlainList D ys.toArray := pl.at fun o e => k₂ D o (fun hm => by
      rcases List.mem_cons.mp hm with z | z
      · exact hDC z
      · exact hDw z) e
    have k₂' : ∀ b o, b ∉ cenv.locals :: D :: wr → h₁.get? b = some o → h₂.get? b = some o := fun b o hb e => k₂ b o (fun hm => by
      rcases List.mem_cons.mp hm with z | z
      · exact hb (z ▸ .head _)
      · exact hb (.tail _ (.tail _ z))) e
    have pr₂ : Paired (fun j y => T j h₂ y) ((List.range i).filter p) ys := mono pr fun j y t => stepT i j h₁ h₂ y _ _ t st ns pl k₂'
    refine wpAny_mono (tests i h₂ m₂ tk₂ hlt hV ns₂ fun b o hb e => k₂' b o hb (k₁ b o hb e)) (fun ok s₃ h₃ => ?_) fun _ _ e => e
    obtain ⟨rfl, h₃, tk₃, rfl, x₃⟩ := h₃
    have st₃ : St (i + 1) h₃ := W.frame _ _ _ st₂ fun b _ o e => x₃ b o e
    have pl₃ := pl₂.at (h' := h₃) fun o e => x₃ _ o e
    have ns₃ : h₃.Ns cenv.locals m₂ := ns₂.keeps x₃
    have pr₃ : Paired (fun j y => T j h₃ y) ((List.range i).filter p) ys := mono pr₂ fun j y t => stepT _ j h₂ h₃ y _ _ t st₂ ns₂ pl₂ fun b o _ e => x₃ b o e
    have k₃ : ∀ b o, b ∉ cenv.locals :: D :: wr → h.get? b = some o → h₃.get? b = some o := fun b o hb e => x₃ b o (k₂' b o hb (k₁ b o hb e))
    cases hp : p i with
    | false =>
      rw [if_neg (by decide)]
      refine ⟨n + 1 - (i + 1), by omega, i + 1, h₃, m₂, tk₃, ys, rfl, hlt, rfl, by omega, st₃, ns₃, pl₃, ?_, k₃⟩
      rw [List.range_succ, List.filter_append]
      simpa [hp] using pr₃
    | true =>
      rw [if_pos rfl]
      refine wpAny_mono (elts i h₃ m₂ tk₃ hlt hV hp ns₃ k₃) (fun y s₄ h₄ => ?_) fun _ _ e => e
      obtain ⟨h₄, tk₄, rfl, x₄, t₄⟩ := h₄
      have pl₄ := pl₃.at (h' := h₄) fun o e => x₄ _ o e
      have st₄ : St (i + 1) h₄ := W.frame _ _ _ st₃ fun b _ o e => x₄ b o e
      have ns₄ : h₄.Ns cenv.locals m₂ := ns₃.keeps x₄
      refine wpAny_list_append_plain (hsz := by show ys.toArray.size ≤ sizeLine; rw [List.size_toArray]; show _ ≤ 2 ^ 24; omega) pl₄ fun h₅ pl₅ s₅ => ?_
      have k₅ : ∀ b o, b ∉ cenv.locals :: D :: wr → h₄.get? b = some o → h₅.get? b = some o := fun b o hb e => s₅.extBut b o (fun z => hb (z ▸ .tail _ (.head _))) e
      refine ⟨n + 1 - (i + 1), by omega, i + 1, h₅, m₂, tk₄, ys ++ [y], rfl, hlt, rfl, by rw [List.length_append, List.length_singleton]; omega, W.frame _ _ _ st₄ fun b hb o e => s₅.extBut b o (fun z => hDf (z ▸ hb)) e, ns₄.sameBut s₅ (Ne.symm hDC), by simpa using pl₅, ?_,
        fun b o hb e => k₅ b o hb (x₄ b o (k₃ b o hb e))⟩
      rw [List.range_succ, List.filter_append]
      have : ([i].filter p) = [i] := by simp [hp]
      rw [this]
      refine Paired.snoc (mono pr₃ fun j y t => ?_) (stepT _ _ h₄ h₅ y _ _ t₄ st₄ ns₄ pl₄ k₅)
      exact stepT _ _ h₄ h₅ y _ _ (stepT _ j h₃ h₄ y _ _ t st₃ ns₃ pl₃ fun b o _ e => x₄ b o e) st₄ ns₄ pl₄ k₅
  · obtain rfl : i = n := by omega
    refine W.done h₁ tk₁ _ st fun h₂ tk₂ k₂ => ?_
    have k₂' : ∀ b o, b ∉ cenv.locals :: D :: wr → h₁.get? b = some o → h₂.get? b = some o := fun b o hb e => k₂ b o (fun z => hb (.tail _ (.tail _ z))) e
    exact hR h₂ tk₂ m₁ ys (ns.at' fun o e => k₂ _ o hCw e) (pl.at fun o e => k₂ _ o hDw e) (mono pr fun j y t => stepT _ j h₁ h₂ y _ _ t st ns pl k₂') fun b o hb e => k₂' b o hb (k₁ b o hb e)
end
end Mine
end

section
open PySem PySem.W PyProof.Rows
set_option Elab.async false
set_option maxRecDepth 100000
set_option maxHeartbeats 1000000
namespace Mine

/-- the names of a comprehension's block -/
def relab (ns ks : List (Str × NameKind)) : List (Str × NameKind) := ns.map fun x => if (x.2 == .free && ks.lookup x.1 == some .cell) then (x.1, .cell) else x

section
variable {prog : Program} {w : World} {mg mb : Str → Option Value} {A : Around} {E : Value → Shared → Prop} {gs : Array GenState} {dr : Drawn} {tk : Nat} {os : OsState} {h₀ h : Heap} {L : Addr} {m : Str → Option Value} {env : Env} {ks : List (Str × NameKind)} {cl : List (Str × Addr)}

theorem comp_env {scope : Scope} {cl' : List (Str × Addr)} {C : Addr} (e : EnvIs env L ks cl) (hk : scope.kind = .function) : EnvIs (compEnvC scope cl' C env) C (relab scope.names ks) cl' := by
  refine ⟨hk, rfl, e.glob, e.bui, ?_, rfl⟩
  show (relabel scope env).names = _
  unfold relabel relab
  dsimp only
  refine List.map_congr_left fun x _ => ?_
  rw [e.kind]
  show (if (x.2 == .free && true && List.lookup x.1 env.scope.names == some .cell) = true then (x.1, NameKind.cell) else (x.1, x.2)) = _
  rw [e.names, Bool.and_true]

/-- what a comprehension's turns do -/
structure CompOk (prog : Program) (w : World) (A : Around) (gs : Array GenState) (dr : Drawn) (os : OsState) (env : Env) (elt target : Expr) (ifs : List Expr) (scope : Scope) (cl : List (Str × Addr)) (hB h₂ : Heap) (I : Addr) (n : Nat) (V : Nat → (Str → Option Value) → Prop) (p : Nat → Bool) (T : Nat → Nat → Heap → Value → Prop)
    (fp wr : List Addr) (St : Nat → Heap → Prop) : Prop where
  keep : Ext hB h₂
  size : hB.objs.size ≤ h₂.objs.size
  fresh : ∀ b ∈ wr, hB.get? b = none
  src : ∀ C, Src prog w A gs dr os target (compEnvC scope cl C env) I fp wr n V St
  st : St 0 h₂
  fpl : ∀ b ∈ fp, b < h₂.objs.size
  sz : n ≤ 1000
  hT : (∀ lo j h h' y, T lo j h y → T lo j h' y) ∨ ((∀ lo j h h' y, T lo j h y → Mild lo h h' → T lo j h' y) ∧ ∀ i h, St i h → ∀ b ∈ wr, ∀ o, h.get? b = some o → ¬ TupO o)
  tests : ∀ C i h₃ m₃ tk₃, i < n → V i m₃ → Fr hB C h₃ m₃ → wpAny (model prog w) A (testsOf ifs (compEnvC scope cl C env)) (fun ok s₄ => ok = p i ∧ ∃ h₄ tk₄, s₄ = ⟨h₄, gs, dr, tk₄, os⟩ ∧ Ext h₃ h₄) NoE ⟨h₃, gs, dr, tk₃, os⟩
  elts : ∀ C i h₃ m₃ tk₃, i < n → V i m₃ → p i = true → Fr hB C h₃ m₃ → wpAny (model prog w) A (eval elt (compEnvC scope cl C env)) (fun y s₄ => ∃ h₄ tk₄, s₄ = ⟨h₄, gs, dr, tk₄, os⟩ ∧ Ext h₃ h₄ ∧ T (C + 1) i h₄ y) NoE ⟨h₃, gs, dr, tk₃, os⟩

theorem comp_block {elt target iter : Expr} {ifs : List Expr} {scope : Scope} {pos : Pos} {cl' : List (Str × Addr)} {hB h₂ : Heap} {I : Addr} {n : Nat} {V : Nat → (Str → Option Value) → Prop} {p : Nat → Bool} {T : Nat → Nat → Heap → Value → Prop} {fp wr : List Addr} {St : Nat → Heap → Prop} {RR : Value → Addr → Result → Shared → Prop}
    (K : CompOk prog w A gs dr os env elt target ifs scope cl' hB h₂ I n V p T fp wr St) (hcell : ∀ y ∈ scope.names, y.2 ≠ .cell) (hkind : scope.kind = .function)
    (hRR : ∀ D C h' tk' m' (ys : List Value), hB.objs.size ≤ D → C = D + 1 → h'.Ns C m' → h'.PlainList D ys.toArray → Paired (fun j y => T (C + 1) j h' y) ((List.range n).filter p) ys → Ext hB h' → RR (.ref D) C (.ok .next) ⟨h', gs, dr, tk', os⟩) :
    wpAny (model prog w) A (newList []) (fun acc s₃ => wpAny (model prog w) A (newFunctionEnv scope env.globals cl' [] env.qual none .none (some env)) (fun cenv s₄ =>
      codeAny (model prog w) A (.compStart (.ListComp elt [⟨target, iter, ifs, 0⟩] scope pos) 0 (.ref I) acc { cenv with scope := relabel scope env }) (RR acc cenv.locals) s₄) E s₃) E ⟨h₂, gs, dr, tk, os⟩ := by
  refine wpAny_newObj_type (wpAny_newFunctionEnv hcell (by intro y hy; simp at hy) (fun h₁ hns₁ hsb₁ => ?_) hkind)
  dsimp only at hns₁ hsb₁ ⊢
  have hsz : hB.objs.size ≤ h₂.objs.size := K.size
  generalize hH2 : h₂.push { cls := .type "list", dict := none, data := .seq ([] : List Value).toArray } = H2 at hns₁ hsb₁ ⊢
  have hC : H2.objs.size = h₂.objs.size + 1 := by rw [← hH2, Heap.size_push]
  have hDC : h₂.objs.size ≠ H2.objs.size := by rw [hC]; exact Nat.ne_of_lt (Nat.lt_succ_self _)
  have below : ∀ b, b < h₂.objs.size → b ≠ H2.objs.size ∧ b ≠ h₂.objs.size := fun b hb => ⟨by rw [hC]; exact Nat.ne_of_lt (Nat.lt_succ_of_lt hb), Nat.ne_of_lt hb⟩
  have hDf : h₂.objs.size ∉ fp := fun hm => Nat.lt_irrefl _ (K.fpl _ hm)
  have hCf : H2.objs.size ∉ fp := fun hm => by have := K.fpl _ hm; rw [hC] at this; exact Nat.lt_irrefl _ (Nat.lt_of_succ_lt this)
  have old : ∀ b o, h₂.get? b = some o → h₁.get? b = some o := fun b o e => hsb₁.extBut b o (below b (Heap.lt_size e)).1 (Heap.get?_push_of_some _ (hH2 ▸ Heap.get?_push_of_some _ e))
  have hacc : h₁.PlainList h₂.objs.size #[] := ⟨_, hsb₁.extBut _ _ hDC (Heap.get?_push_of_some _ (hH2 ▸ Heap.get?_push_size _ rfl))⟩
  have W := K.src H2.objs.size
  have hst₁ : St 0 h₁ := W.frame _ _ _ K.st fun b _ o e => old b o e
  have notin : ∀ b o, hB.get? b = some o → b ∉ H2.objs.size :: h₂.objs.size :: wr := fun b o e hm => by
    have hb := Heap.lt_size (K.keep b o e)
    rcases List.mem_cons.mp hm with z | hm
    · exact (below b hb).1 z
    · rcases List.mem_cons.mp hm with z | hm
      · exact (below b hb).2 z
      · rw [K.fresh b hm] at e; cases e
  have loop : ∀ tk₃, codeAny (model prog w) A (.compLoop (.ListComp elt [⟨target, iter, ifs, 0⟩] scope pos) 0 (.ref I) (.ref h₂.objs.size) (compEnvC scope cl' H2.objs.size env)) (RR (.ref h₂.objs.size) H2.objs.size) ⟨h₁, gs, dr, tk₃, os⟩ := by
    intro tk₃
    have fr : ∀ h₃ m₃, h₃.Ns H2.objs.size m₃ → (∀ b o, b ∉ H2.objs.size :: h₂.objs.size :: wr → h₁.get? b = some o → h₃.get? b = some o) → Fr hB H2.objs.size h₃ m₃ := fun h₃ m₃ ns k =>
      ⟨ns, fun b o e => k b o (notin b o e) (old b o (K.keep b o e)), by rw [hC]; exact Nat.le_succ_of_le hsz⟩
    refine comp_loop p (T (H2.objs.size + 1)) W K.sz hDC hDf hCf (H2.objs.size + 1) ⟨Nat.lt_succ_self _, by rw [hC]; exact Nat.lt_succ_of_lt (Nat.lt_succ_self _), fun b hb => ?_⟩ ?_ hst₁ hacc hns₁ ?_ ?_ ?_
    · exact Nat.lt_of_lt_of_le (K.fpl b (W.sub b hb)) (by rw [hC]; exact Nat.le_succ_of_le (Nat.le_succ _))
    · rcases K.hT with q | ⟨q1, q2⟩
      · exact .inl fun j h h' y t => q _ _ _ _ _ t
      · exact .inr ⟨fun j h h' y t mi => q1 _ _ _ _ _ t mi, q2⟩
    · intro i h₃ m₃ tk₃ hi hV ns k
      exact K.tests _ i h₃ m₃ tk₃ hi hV (fr h₃ m₃ ns k)
    · intro i h₃ m₃ tk₃ hi hV hp ns k
      exact K.elts _ i h₃ m₃ tk₃ hi hV hp (fr h₃ m₃ ns k)
    · intro h' tk' m' ys ns pl pr k
      exact hRR _ _ h' tk' m' ys hsz hC ns pl pr fun b o e => k b o (notin b o e) (old b o (K.keep b o e))
  exact codeAny_compStart_list (loop _) (W.self 0 _ _ _ hst₁ (loop _))

theorem mild_C {lo C : Nat} {h h' : Heap} {m : Str → Option Value} (hn : h.Ns C m) (hs : Heap.SameBut C h h') (hC : C < lo) : Mild lo h h' := fun b o e hb => hs.extBut b o (by
  rintro rfl
  rcases hb with hb | ⟨_, xs, n, hb⟩
  · exact absurd hC (Nat.not_lt.mpr hb)
  · obtain ⟨o', es, ep, a1, a2, _⟩ := hn
    rw [a1] at e; cases e; rw [a2] at hb; cases hb) e
theorem pairedTo {F G : Nat → Value → Prop} {l : List Nat} {ys : List Value} (pr : Paired F l ys) (f : ∀ j y, F j y → G j y) : Paired G l ys := by
  induction pr with
  | nil => exact .nil
  | cons a _ ih => exact .cons (f _ _ a) ih

theorem comp_val {elt target iter : Expr} {ifs : List Expr} {scope : Scope} {pos : Pos} {cl' : List (Str × Addr)} {Q : Value → Shared → Prop} {s : Shared}
    (hs : ∀ x, foldedSetIterable iter env x = pure x) (hclos : closureFor scope env = pure cl') (hcell : (scope.names.all fun y => y.2 != .cell) = true) (hkind : scope.kind = .function) (hnames : (scope.names.all fun x => x.2 != .local || scope.names.lookup x.1 == some .local) = true)
    (hQ : wpAny (model prog w) A (eval iter env) (fun xv s₁ => wpAny (model prog w) A (pyIter xv) (fun it s₂ => ∃ hB h₂ tk₂ I n V p T fp wr St, it = .ref I ∧ s₂ = ⟨h₂, gs, dr, tk₂, os⟩ ∧ CompOk prog w A gs dr os env elt target ifs scope cl' hB h₂ I n V p T fp wr St ∧
      ∀ D h' tk' lo (ys : List Value), hB.objs.size ≤ D → Ext hB h' → h'.PlainList D ys.toArray → D < lo → Paired (fun j y => T lo j h' y) ((List.range n).filter p) ys → Q (.ref D) ⟨h', gs, dr, tk', os⟩) E s₁) E s) :
    wpAny (model prog w) A (eval (.ListComp elt [⟨target, iter, ifs, 0⟩] scope pos) env) Q E s := by
  rw [eval_ListComp]
  have hcell' : ∀ y ∈ scope.names, y.2 ≠ .cell := fun y hy q => by have := List.all_eq_true.mp hcell y hy; rw [q] at this; cases this
  have hnames' : ∀ y ∈ scope.names, y.2 = .local → scope.names.lookup y.1 = some .local := fun y hy q => by have := List.all_eq_true.mp hnames y hy; rw [q] at this; simpa using this
  refine wpAny_comprehension_free (use := none) rfl hs hclos hkind hnames' (wpAny_mono hQ (fun xv s₁ h₁ => wpAny_mono h₁ (fun it s₂ h₂ => ?_) fun _ _ e => e) fun _ _ e => e)
  obtain ⟨hB, h₂, tk₂, I, n, V, p, T, fp, wr, St, rfl, rfl, K, hq⟩ := h₂
  refine comp_block (RR := fun acc C => compPost (model prog w) A E none Q acc C) K hcell' hkind ?_
  intro D C h' tk' m' ys hD hC ns pl pr k
  refine ⟨m', ns, fun h'' hs'' => ?_⟩
  have hCs : hB.get? C = none := fresh_none (by omega)
  have hDC : D ≠ C := by omega
  refine hq D h'' _ (C + 1) ys hD (fun b o e => hs''.extBut b o (by rintro rfl; rw [hCs] at e; cases e) (k b o e)) (pl.extBut hs''.extBut hDC) (by omega) (pairedTo pr fun j y t => ?_)
  rcases K.hT with q | ⟨q, _⟩
  · exact q _ _ _ _ _ t
  · exact q _ _ _ _ _ t (mild_C ns hs'' (Nat.lt_succ_self _))

theorem comp_assign {elt target iter : Expr} {ifs : List Expr} {scope : Scope} {y : Str} {pos py spos : Pos} {rest : List Stmt} {cl' : List (Str × Addr)} {Q : Flow → Shared → Prop} {s : Shared} (e : EnvIs env L ks cl)
    (hsw : swapsWith (.ListComp elt [⟨target, iter, ifs, 0⟩] scope pos) (some (.Name y py)) spos.line env = pure true) (hy : ks.lookup y = some .local)
    (hs : ∀ x, foldedSetIterable iter env x = pure x) (hclos : closureFor scope env = pure cl') (hcell : (scope.names.all fun y => y.2 != .cell) = true) (hkind : scope.kind = .function) (hnames : (scope.names.all fun x => x.2 != .local || scope.names.lookup x.1 == some .local) = true)
    (hQ : wpAny (model prog w) A (eval iter env) (fun xv s₁ => wpAny (model prog w) A (pyIter xv) (fun it s₂ => ∃ hB h₂ tk₂ I n V p T fp wr St m, it = .ref I ∧ s₂ = ⟨h₂, gs, dr, tk₂, os⟩ ∧ CompOk prog w A gs dr os env elt target ifs scope cl' hB h₂ I n V p T fp wr St ∧ Fr h₀ L hB m ∧
      ∀ D h' tk' lo (ys : List Value), hB.objs.size ≤ D → Fr h₀ L h' (upd m y (.ref D)) → Off [L] hB h' → h'.PlainList D ys.toArray → D < lo → Paired (fun j y => T lo j h' y) ((List.range n).filter p) ys → wpAny (model prog w) A (execs rest env) Q E ⟨h', gs, dr, tk', os⟩) E s₁) E s) :
    wpAny (model prog w) A (execs (.Assign [.Name y py] (.ListComp elt [⟨target, iter, ifs, 0⟩] scope pos) spos :: rest) env) Q E s := by
  refine wpAny_execs_cons ?_
  have hcell' : ∀ y ∈ scope.names, y.2 ≠ .cell := fun y hy q => by have := List.all_eq_true.mp hcell y hy; rw [q] at this; cases this
  have hnames' : ∀ y ∈ scope.names, y.2 = .local → scope.names.lookup y.1 = some .local := fun y hy q => by have := List.all_eq_true.mp hnames y hy; rw [q] at this; simpa using this
  rw [exec_Assign_Name_used _ _ _ _ hsw]
  refine wpAny_bind (wpAny_standAt (wpAny_bind ?_))
  show wpAny _ A (do let _ ← comprehension (.ListComp elt [⟨target, iter, ifs, 0⟩] scope pos) scope env _ (newList []) false (eval iter env) (some (assign (.Name y py) env))) _ _ s
  refine wpAny_bind (wpAny_mono (wpAny_comprehension_free (use := some (assign (.Name y py) env)) (Q := fun _ s' => wpAny (model prog w) A (execs rest env) Q E s') rfl hs hclos hkind hnames'
    (wpAny_mono hQ (fun xv s₁ h₁ => wpAny_mono h₁ (fun it s₂ h₂ => ?_) fun _ _ e => e) fun _ _ e => e)) (fun _ s' hq => wpAny_pure (wpAny_pure hq)) fun _ _ e => e)
  obtain ⟨hB, h₂, tk₂, I, n, V, p, T, fp, wr, St, m, rfl, rfl, K, FB, hq⟩ := h₂
  refine comp_block (RR := fun acc C => compPost (model prog w) A E (some (assign (.Name y py) env)) (fun _ s' => wpAny (model prog w) A (execs rest env) Q E s') acc C) K hcell' hkind ?_
  intro D C h' tk' m' ys hD hC ns pl pr k
  have hLB : @LT.lt Nat instLTNat L hB.objs.size := FB.ns.lt
  have hab : @LE.le Nat instLENat h₀.objs.size L := FB.above
  have hLC : L ≠ C := Nat.ne_of_lt (show @LT.lt Nat instLTNat L C by omega)
  have hLD : L ≠ D := Nat.ne_of_lt (show @LT.lt Nat instLTNat L D by omega)
  have hDC : D ≠ C := by omega
  have hCs : hB.get? C = none := fresh_none (by omega)
  have F' : Fr h₀ L h' m := FB.keeps k
  show wpAny _ A (assign (.Name y py) env (.ref D)) _ _ _
  refine wpAny_assign_Name (wpAny_storeName_local (m := m) (by show env.scope.names.lookup y = _; rw [e.names]; exact hy) (by rw [e.loc]; exact F'.ns) (fun h₃ hn₃ hs₃ => ?_) (by rw [e.kind]; rfl))
  rw [e.loc] at hn₃ hs₃
  have F₃ := F'.set hn₃ hs₃
  refine ⟨m', ns.sameBut hs₃ (Ne.symm hLC), fun h₄ hs₄ => ?_⟩
  have hC0 : h₀.get? C = none := fresh_none (show @LE.le Nat instLENat h₀.objs.size C by omega)
  have F₄ : Fr h₀ L h₄ (upd m y (.ref D)) := ⟨F₃.ns.extBut hs₄.extBut hLC, fun b o q => hs₄.extBut b o (by rintro rfl; rw [hC0] at q; cases q) (F₃.keep b o q), F₃.above⟩
  have ns₃ := ns.sameBut hs₃ (Ne.symm hLC)
  have mi : Mild (C + 1) h' h₄ := fun b o q hb => mild_C ns₃ hs₄ (Nat.lt_succ_self _) b o (hs₃.extBut b o (by
    rintro rfl
    rcases hb with hb | ⟨_, xs, n, hb⟩
    · exact absurd hb (Nat.not_le.mpr (show @LT.lt Nat instLTNat _ (C + 1) by omega))
    · obtain ⟨o', es, ep, a1, a2, _⟩ := F'.ns
      rw [a1] at q; cases q; rw [a2] at hb; cases hb) q) hb
  refine hq D h₄ _ (C + 1) ys hD F₄ (fun b o hb q => hs₄.extBut b o (by rintro rfl; rw [hCs] at q; cases q) (hs₃.extBut b o (fun z => hb (z ▸ .head _)) (k b o q))) ((pl.extBut hs₃.extBut (Ne.symm hLD)).extBut hs₄.extBut hDC) (by omega) (pairedTo pr fun j y t => ?_)
  rcases K.hT with q | ⟨q, _⟩
  · exact q _ _ _ _ _ t
  · exact q _ _ _ _ _ t mi
end
end Mine
end

section
open PySem PySem.W PyProof.Rows
set_option Elab.async false
set_option maxRecDepth 100000
set_option maxHeartbeats 1000000
namespace Mine

theorem paired_get {α β : Type} {P : α → β → Prop} : ∀ {as : List α} {vs : List β}, Paired P as vs → ∀ (i : Nat) (v : β), vs[i]? = some v → ∃ a, as[i]? = some a ∧ P a v
  | _, _, .nil, i, v, e => by simp at e
  | _, _, .cons (a := a) h t, 0, v, e => by simp at e; subst e; exact ⟨a, rfl, h⟩
  | _, _, .cons h t, i + 1, v, e => by simpa using paired_get t i v (by simpa using e)
theorem iss_paired {h : Heap} {α : Type} {f : α → PyData} : ∀ {as : List α} {vs : List Value}, Iss h vs (as.map f) → Paired (fun a v => Is h v (f a)) as vs
  | [], _, x => by cases x; exact .nil
  | a :: as, _, x => by cases x with | cons y z => exact .cons y (iss_paired z)
theorem paired_iss {h : Heap} {α : Type} {f : α → PyData} : ∀ {as : List α} {vs : List Value}, Paired (fun a v => Is h v (f a)) as vs → Iss h vs (as.map f)
  | _, _, .nil => .nil
  | _, _, .cons x y => .cons x (paired_iss y)
theorem paired_mono {α β : Type} {P Q : α → β → Prop} (f : ∀ a b, P a b → Q a b) : ∀ {as : List α} {vs : List β}, Paired P as vs → Paired Q as vs
  | _, _, .nil => .nil
  | _, _, .cons x y => .cons (f _ _ x) (paired_mono f y)
/-- from the places to the things -/
theorem paired_at {α : Type} {T : α → Value → Prop} {p : α → Bool} {p' : Nat → Bool} {T' : Nat → Value → Prop} (as : List α) (hp : ∀ i a, as[i]? = some a → p' i = p a) (hT : ∀ i a y, as[i]? = some a → T' i y → T a y) :
    ∀ (n : Nat), n ≤ as.length → ∀ {ys : List Value}, Paired T' ((List.range n).filter p') ys → Paired T ((as.take n).filter p) ys := by
  intro n
  induction n with
  | zero => intro _ ys h; cases h; simp; exact .nil
  | succ n ih =>
    intro hn ys h
    rw [List.range_succ, List.filter_append] at h
    have hget : as[n]? = some as[n] := List.getElem?_eq_getElem (by omega)
    rw [List.take_add_one, hget, Option.toList_some, List.filter_append]
    cases hpn : p as[n] with
    | false =>
      have h2 : [n].filter p' = [] := by simp [hp n _ hget, hpn]
      have h3 : [as[n]].filter p = [] := by simp [hpn]
      rw [h2, List.append_nil] at h
      rw [h3, List.append_nil]
      exact ih (by omega) h
    | true =>
      have h2 : [n].filter p' = [n] := by simp [hp n _ hget, hpn]
      have h3 : [as[n]].filter p = [as[n]] := by simp [hpn]
      rw [h2] at h
      rw [h3]
      obtain ⟨y1, y2, rfl, hy1, hy2⟩ : ∃ y1 y2, ys = y1 ++ [y2] ∧ Paired T' ((List.range n).filter p') y1 ∧ T' n y2 := by
        clear ih hp hT hn hget hpn h2 h3
        generalize (List.range n).filter p' = l at h
        induction l generalizing ys with
        | nil => cases h with | cons a b => cases b; exact ⟨[], _, rfl, .nil, a⟩
        | cons x l ih2 =>
          cases h with
          | cons a b =>
            obtain ⟨y1, y2, rfl, q1, q2⟩ := ih2 b
            exact ⟨_ :: y1, y2, rfl, .cons a q1, q2⟩
      exact Paired.snoc (ih (by omega) hy1) (hT n _ _ hget hy2)

section
variable {prog : Program} {w : World} {mg mb : Str → Option Value} {A : Around} {E : Value → Shared → Prop} {gs : Array GenState} {dr : Drawn} {tk : Nat} {os : OsState} {h₀ h : Heap} {L : Addr} {m : Str → Option Value} {env : Env} {ks : List (Str × NameKind)} {cl : List (Str × Addr)}

def Elts {α : Type} (prog : Program) (w : World) (A : Around) (gs : Array GenState) (dr : Drawn) (os : OsState) (env : Env) (ks : List (Str × NameKind)) (elt : Expr) (ifs : List Expr) (scope : Scope) (cl' : List (Str × Addr)) (h₁ : Heap) (V : α → (Str → Option Value) → Prop) (p : α → Bool) (T : α → Nat → Heap → Value → Prop) (as : List α) : Prop :=
  ∀ C a h₃ m₃ tk₃, a ∈ as → V a m₃ → Fr h₁ C h₃ m₃ → EnvIs (compEnvC scope cl' C env) C (relab scope.names ks) cl' →
    wpAny (model prog w) A (testsOf ifs (compEnvC scope cl' C env)) (fun ok s₄ => ok = p a ∧ ∃ h₄ tk₄, s₄ = ⟨h₄, gs, dr, tk₄, os⟩ ∧ Ext h₃ h₄) NoE ⟨h₃, gs, dr, tk₃, os⟩ ∧
    (p a = true → wpAny (model prog w) A (eval elt (compEnvC scope cl' C env)) (fun y s₄ => ∃ h₄ tk₄, s₄ = ⟨h₄, gs, dr, tk₄, os⟩ ∧ Ext h₃ h₄ ∧ T a (C + 1) h₄ y) NoE ⟨h₃, gs, dr, tk₃, os⟩)
def Moves {α : Type} (T : α → Nat → Heap → Value → Prop) : Prop := ∀ a lo h h' y, T a lo h y → Mild lo h h' → T a lo h' y
theorem tests_none {env : Env} {s : Shared} (hX : ∃ h₄ tk₄, s = ⟨h₄, gs, dr, tk₄, os⟩ ∧ Ext h h₄) : wpAny (model prog w) A (testsOf [] env) (fun ok s₄ => ok = true ∧ ∃ h₄ tk₄, s₄ = ⟨h₄, gs, dr, tk₄, os⟩ ∧ Ext h h₄) E s :=
  wpAny_tests_nil ⟨rfl, hX⟩
theorem tests_one {env : Env} {c : Expr} {Q : Bool → Shared → Prop} {s : Shared} (hQ : wpAny (model prog w) A (isTrue c env (eval c env)) Q E s) : wpAny (model prog w) A (testsOf [c] env) Q E s := wpAny_tests_one hQ

/-- a list's iterator, for a comprehension -/
theorem src_list {α : Type} {elt : Expr} {x : Str} {px : Pos} {ifs : List Expr} {scope : Scope} {cl' : List (Str × Addr)} {l : Addr} {vs : List Value} (as : List α) (P : α → Value → Prop) (p : α → Bool) (T : α → Nat → Heap → Value → Prop) (rm : Room 0 A) (e : EnvIs env L ks cl)
    (hk : scope.kind = .function) (hx : scope.names.lookup x = some .local) (hl : h.IsList l vs.toArray) (hsz : vs.length ≤ 1000) (hP : Paired P as vs) (hT : Moves T)
    (K : Elts prog w A gs dr os env ks elt ifs scope cl' h (fun a m => ∃ v, P a v ∧ m x = some v) p T as) {Q : Value → Shared → Prop}
    (hQ : ∀ I h₂ n V p' T' fp wr St, CompOk prog w A gs dr os env elt (.Name x px) ifs scope cl' h h₂ I n V p' T' fp wr St → (∀ lo h' (ys : List Value), Paired (fun j y => T' lo j h' y) ((List.range n).filter p') ys → Paired (fun a y => T a lo h' y) (as.filter p) ys) → Q (.ref I) ⟨h₂, gs, dr, tk, os⟩) :
    wpAny (model prog w) A (pyIter (.ref l)) Q E ⟨h, gs, dr, tk, os⟩ := by
  have hlt : l < h.objs.size := by obtain ⟨_, e, _⟩ := hl; exact Heap.lt_size e
  have hlen := hP.length
  refine wpAny_pyIter_list hl ?_
  dsimp only
  refine hQ _ _ vs.length (fun i m => ∃ v, (vs.toArray[i]? = some v) ∧ m x = some v) (fun i => (as[i]?.map p).getD false) (fun lo i h y => ∃ a, as[i]? = some a ∧ T a lo h y) [h.objs.size, l] [h.objs.size] (fun i h' => h'.IsListIter h.objs.size l i ∧ h'.IsList l vs.toArray)
    ⟨fun b o q => Heap.get?_push_of_some _ q, by rw [Heap.size_push]; exact Nat.le_succ _, fun b hb => by rw [List.mem_singleton.mp hb]; exact fresh_none (Nat.le_refl _),
     fun C => ?_, ⟨⟨_, Heap.get?_push_size _ rfl, rfl, rfl⟩, hl.push _⟩, fun b hb => ?_, hsz, .inr ⟨?_, ?_⟩, ?_, ?_⟩ ?_
  · have W := Walks.list (prog := prog) (w := w) rm.hd h.objs.size l (Nat.ne_of_lt hlt) vs.toArray
    rw [List.size_toArray] at W
    exact Src.name W (by show (compEnvC scope cl' C env).scope.names.lookup x = _; exact lookup_relabel_local hx) hk
  · rw [Heap.size_push]
    rcases List.mem_cons.mp hb with rfl | hb
    · exact Nat.lt_succ_self _
    · rw [List.mem_singleton.mp hb]; exact Nat.lt_succ_of_lt hlt
  · rintro lo j h₁ h₂ y ⟨a, ha, t⟩ mi
    exact ⟨a, ha, hT _ _ _ _ _ t mi⟩
  · rintro i h₁ ⟨⟨o, ho, hc, hd⟩, _⟩ b hb o' e' ⟨hc', _⟩
    rw [List.mem_singleton.mp hb, ho] at e'; cases e'; rw [hc] at hc'; exact absurd hc' (by decide)
  · rintro C i h₃ m₃ tk₃ hi ⟨v, hv, hm⟩ F₃
    obtain ⟨a, ha, hPa⟩ := paired_get hP i v (by simpa using hv)
    have := (K C a h₃ m₃ tk₃ (List.mem_of_getElem? ha) ⟨v, hPa, hm⟩ F₃ (comp_env e hk)).1
    rw [ha]; exact this
  · rintro C i h₃ m₃ tk₃ hi ⟨v, hv, hm⟩ hp F₃
    obtain ⟨a, ha, hPa⟩ := paired_get hP i v (by simpa using hv)
    rw [ha] at hp
    refine wpAny_mono ((K C a h₃ m₃ tk₃ (List.mem_of_getElem? ha) ⟨v, hPa, hm⟩ F₃ (comp_env e hk)).2 hp) (fun y s₄ h₄ => ?_) fun _ _ e => e
    obtain ⟨h₄, tk₄, rfl, x₄, t₄⟩ := h₄
    exact ⟨h₄, tk₄, rfl, x₄, a, ha, t₄⟩
  · intro lo h' ys pr
    have := paired_at (T := fun a y => T a lo h' y) (p := p) as (fun i a ha => by rw [ha]; rfl) (fun i a y ha t => by obtain ⟨a', ha', t⟩ := t; rw [ha] at ha'; cases ha'; exact t) vs.length (by rw [hlen]; exact Nat.le_refl _) pr
    rwa [List.take_of_length_le (by rw [hlen]; exact Nat.le_refl _)] at this

/-- a comprehension over a list, as a value -/
theorem cv_list {α : Type} {elt iter : Expr} {x : Str} {px pos : Pos} {ifs : List Expr} {scope : Scope} {cl' : List (Str × Addr)} {Q : Value → Shared → Prop} {s : Shared} (as : List α) (p : α → Bool) (T : α → Nat → Heap → Value → Prop) (rm : Room 0 A) (e : EnvIs env L ks cl)
    (hs : ∀ x, foldedSetIterable iter env x = pure x) (hclos : closureFor scope env = pure cl') (hcell : (scope.names.all fun y => y.2 != .cell) = true) (hk : scope.kind = .function) (hnames : (scope.names.all fun x => x.2 != .local || scope.names.lookup x.1 == some .local) = true) (hx : scope.names.lookup x = some .local) (hT : Moves T)
    (hQ : wpAny (model prog w) A (eval iter env) (fun xv s₁ => ∃ l vs h₁ tk₁ P, xv = .ref l ∧ s₁ = ⟨h₁, gs, dr, tk₁, os⟩ ∧ h₁.IsList l vs.toArray ∧ vs.length ≤ 1000 ∧ Paired P as vs ∧ Elts prog w A gs dr os env ks elt ifs scope cl' h₁ (fun a m => ∃ v, P a v ∧ m x = some v) p T as ∧
      ∀ D h' tk' lo (ys : List Value), h₁.objs.size ≤ D → Ext h₁ h' → h'.PlainList D ys.toArray → D < lo → Paired (fun a y => T a lo h' y) (as.filter p) ys → Q (.ref D) ⟨h', gs, dr, tk', os⟩) E s) :
    wpAny (model prog w) A (eval (.ListComp elt [⟨.Name x px, iter, ifs, 0⟩] scope pos) env) Q E s := by
  refine comp_val (gs := gs) (dr := dr) (os := os) hs hclos hcell hk hnames (wpAny_mono hQ (fun xv s₁ h₁ => ?_) fun _ _ e => e)
  obtain ⟨l, vs, h₁, tk₁, P, rfl, rfl, hl, hsz, hP, K, hq⟩ := h₁
  refine src_list (px := px) as P p T rm e hk hx hl hsz hP hT K fun I h₂ n V p' T' fp wr St K' conv => ?_
  exact ⟨h₁, h₂, tk₁, I, n, V, p', T', fp, wr, St, rfl, rfl, K', fun D h' tk' lo ys hD x pl hlo pr => hq D h' tk' lo ys hD x pl hlo (conv lo h' ys pr)⟩
theorem ca_list {α : Type} {elt iter : Expr} {x y : Str} {px pos py spos : Pos} {ifs : List Expr} {scope : Scope} {cl' : List (Str × Addr)} {rest : List Stmt} {Q : Flow → Shared → Prop} {s : Shared} (as : List α) (p : α → Bool) (T : α → Nat → Heap → Value → Prop) (rm : Room 0 A) (e : EnvIs env L ks cl)
    (hsw : swapsWith (.ListComp elt [⟨.Name x px, iter, ifs, 0⟩] scope pos) (some (.Name y py)) spos.line env = pure true) (hy : ks.lookup y = some .local)
    (hs : ∀ x, foldedSetIterable iter env x = pure x) (hclos : closureFor scope env = pure cl') (hcell : (scope.names.all fun y => y.2 != .cell) = true) (hk : scope.kind = .function) (hnames : (scope.names.all fun x => x.2 != .local || scope.names.lookup x.1 == some .local) = true) (hx : scope.names.lookup x = some .local) (hT : Moves T)
    (hQ : wpAny (model prog w) A (eval iter env) (fun xv s₁ => ∃ l vs h₁ tk₁ P m, xv = .ref l ∧ s₁ = ⟨h₁, gs, dr, tk₁, os⟩ ∧ Fr h₀ L h₁ m ∧ h₁.IsList l vs.toArray ∧ vs.length ≤ 1000 ∧ Paired P as vs ∧ Elts prog w A gs dr os env ks elt ifs scope cl' h₁ (fun a m => ∃ v, P a v ∧ m x = some v) p T as ∧
      ∀ D h' tk' lo (ys : List Value), h₁.objs.size ≤ D → Fr h₀ L h' (upd m y (.ref D)) → Off [L] h₁ h' → h'.PlainList D ys.toArray → D < lo → Paired (fun a y => T a lo h' y) (as.filter p) ys → wpAny (model prog w) A (execs rest env) Q E ⟨h', gs, dr, tk', os⟩) E s) :
    wpAny (model prog w) A (execs (.Assign [.Name y py] (.ListComp elt [⟨.Name x px, iter, ifs, 0⟩] scope pos) spos :: rest) env) Q E s := by
  refine comp_assign (gs := gs) (dr := dr) (os := os) (h₀ := h₀) e hsw hy hs hclos hcell hk hnames (wpAny_mono hQ (fun xv s₁ h₁ => ?_) fun _ _ e => e)
  obtain ⟨l, vs, h₁, tk₁, P, m, rfl, rfl, F, hl, hsz, hP, K, hq⟩ := h₁
  refine src_list (px := px) as P p T rm e hk hx hl hsz hP hT K fun I h₂ n V p' T' fp wr St K' conv => ?_
  exact ⟨h₁, h₂, tk₁, I, n, V, p', T', fp, wr, St, m, rfl, rfl, K', F, fun D h' tk' lo ys hD x o pl hlo pr => hq D h' tk' lo ys hD x o pl hlo (conv lo h' ys pr)⟩
end
end Mine
end

section
open PySem PySem.W PyProof.Rows
set_option Elab.async false
set_option maxRecDepth 100000
set_option maxHeartbeats 1000000
namespace Mine

section
variable {prog : Program} {w : World} {mg mb : Str → Option Value} {A : Around} {E : Value → Shared → Prop} {gs : Array GenState} {dr : Drawn} {tk : Nat} {os : OsState} {h₀ h : Heap} {L : Addr} {m : Str → Option Value} {env : Env} {ks : List (Str × NameKind)} {cl : List (Str × Addr)}

theorem comp_ok {α : Type} {elt target : Expr} {ifs : List Expr} {scope : Scope} {cl' : List (Str × Addr)} {h₂ : Heap} {I : Addr} {fp wr : List Addr} {St : Nat → Heap → Prop} (as : List α) {V : α → (Str → Option Value) → Prop} {V' : Nat → (Str → Option Value) → Prop} (p : α → Bool) (T : α → Nat → Heap → Value → Prop) (e : EnvIs env L ks cl)
    (hk : scope.kind = .function) (hV : ∀ i m, i < as.length → V' i m → ∃ a, as[i]? = some a ∧ V a m) (keep : Ext h h₂) (size : h.objs.size ≤ h₂.objs.size) (fresh : ∀ b ∈ wr, h.get? b = none)
    (src : ∀ C, Src prog w A gs dr os target (compEnvC scope cl' C env) I fp wr as.length V' St) (st : St 0 h₂) (fpl : ∀ b ∈ fp, b < h₂.objs.size) (sz : as.length ≤ 1000)
    (hT : (∀ a lo h h' y, T a lo h y → T a lo h' y) ∨ (Moves T ∧ ∀ i h, St i h → ∀ b ∈ wr, ∀ o, h.get? b = some o → ¬ TupO o))
    (K : Elts prog w A gs dr os env ks elt ifs scope cl' h V p T as) :
    ∃ p' T', CompOk prog w A gs dr os env elt target ifs scope cl' h h₂ I as.length V' p' T' fp wr St ∧ ∀ lo h' (ys : List Value), Paired (fun j y => T' lo j h' y) ((List.range as.length).filter p') ys → Paired (fun a y => T a lo h' y) (as.filter p) ys := by
  refine ⟨fun i => (as[i]?.map p).getD false, fun lo i h y => ∃ a, as[i]? = some a ∧ T a lo h y, ⟨keep, size, fresh, src, st, fpl, sz, ?_, ?_, ?_⟩, ?_⟩
  · rcases hT with hT | ⟨hT, hw⟩
    · refine .inl ?_
      rintro lo j h₁ h₂ y ⟨a, ha, t⟩
      exact ⟨a, ha, hT _ _ _ _ _ t⟩
    · refine .inr ⟨?_, hw⟩
      rintro lo j h₁ h₂ y ⟨a, ha, t⟩ mi
      exact ⟨a, ha, hT _ _ _ _ _ t mi⟩
  · intro C i h₃ m₃ tk₃ hi hv F₃
    obtain ⟨a, ha, hPa⟩ := hV i m₃ hi hv
    have := (K C a h₃ m₃ tk₃ (List.mem_of_getElem? ha) hPa F₃ (comp_env e hk)).1
    rw [ha]; exact this
  · intro C i h₃ m₃ tk₃ hi hv hp F₃
    obtain ⟨a, ha, hPa⟩ := hV i m₃ hi hv
    rw [ha] at hp
    refine wpAny_mono ((K C a h₃ m₃ tk₃ (List.mem_of_getElem? ha) hPa F₃ (comp_env e hk)).2 hp) (fun y s₄ h₄ => ?_) fun _ _ e => e
    obtain ⟨h₄, tk₄, rfl, x₄, t₄⟩ := h₄
    exact ⟨h₄, tk₄, rfl, x₄, a, ha, t₄⟩
  · intro lo h' ys pr
    have := paired_at (T := fun a y => T a lo h' y) (p := p) as (fun i a ha => by rw [ha]; rfl) (fun i a y ha t => by obtain ⟨a', ha', t⟩ := t; rw [ha] at ha'; cases ha'; exact t) as.length (Nat.le_refl _) pr
    rwa [List.take_of_length_le (Nat.le_refl _)] at this

def iRange (a : Int) (n : Nat) : List Int := (List.range n).map fun i : Nat => a + (i : Int)
theorem ints_get {a : Int} {n i : Nat} (h : i < n) : (iRange a n)[i]? = some (a + i) := by
  unfold iRange
  rw [List.getElem?_map, List.getElem?_range h]; rfl
theorem ints_len {a : Int} {n : Nat} : (iRange a n).length = n := by unfold iRange; simp

theorem cv_range {elt iter : Expr} {x : Str} {px pos : Pos} {ifs : List Expr} {scope : Scope} {cl' : List (Str × Addr)} {Q : Value → Shared → Prop} {s : Shared} (a b : Int) (p : Int → Bool) (T : Int → Nat → Heap → Value → Prop) (rm : Room 0 A) (e : EnvIs env L ks cl)
    (hab : (-1000000 ≤ a ∧ a ≤ 1000000) ∧ (-1000000 ≤ b ∧ b ≤ 1000000) ∧ b - a ≤ 1000)
    (hs : ∀ x, foldedSetIterable iter env x = pure x) (hclos : closureFor scope env = pure cl') (hcell : (scope.names.all fun y => y.2 != .cell) = true) (hk : scope.kind = .function) (hnames : (scope.names.all fun x => x.2 != .local || scope.names.lookup x.1 == some .local) = true) (hx : scope.names.lookup x = some .local) (hT : Moves T)
    (hQ : wpAny (model prog w) A (eval iter env) (fun xv s₁ => ∃ r t u v h₁ tk₁, xv = .ref r ∧ s₁ = ⟨h₁, gs, dr, tk₁, os⟩ ∧ IsRange h₁ r a b 1 t u v ∧ Elts prog w A gs dr os env ks elt ifs scope cl' h₁ (fun i m => ∃ t, m x = some (.int i t)) p T (iRange a (b - a).toNat) ∧
      ∀ D h' tk' lo (ys : List Value), h₁.objs.size ≤ D → Ext h₁ h' → h'.PlainList D ys.toArray → D < lo → Paired (fun a y => T a lo h' y) ((iRange a (b - a).toNat).filter p) ys → Q (.ref D) ⟨h', gs, dr, tk', os⟩) E s) :
    wpAny (model prog w) A (eval (.ListComp elt [⟨.Name x px, iter, ifs, 0⟩] scope pos) env) Q E s := by
  refine comp_val (gs := gs) (dr := dr) (os := os) hs hclos hcell hk hnames (wpAny_mono hQ (fun xv s₁ h₁ => ?_) fun _ _ e => e)
  obtain ⟨r, t, u, v, h₁, tk₁, rfl, rfl, hr, K, hq⟩ := h₁
  obtain ⟨sm, sz⟩ := small_ok hab.1 hab.2.1
  refine wpAny_pyIter_range hr sm ?_
  have W := Walks.range (prog := prog) (w := w) rm.hd h₁.objs.size a 1 (b - a).toNat
  have q1 : ∀ (i : Nat) (m : Str → Option Value), i < (iRange a (b - a).toNat).length → (∃ v, (∃ t, v = Value.int (a + (i : Nat) * 1) t) ∧ m x = some v) → ∃ a', (iRange a (b - a).toNat)[i]? = some a' ∧ ∃ t : Tok, m x = some (Value.int a' t) := by
    rintro i m hi ⟨v, ⟨t, rfl⟩, hm⟩
    rw [ints_len] at hi
    exact ⟨_, ints_get hi, t, by rw [hm, Int.mul_one]⟩
  have q2 : IsRangeIter (h₁.push { cls := .type "range_iterator", data := .fields #[rawInt a, rawInt (Builtin.Range.rangeSize a b 1), rawInt 1] }) h₁.objs.size (a + ((0 : Nat) : Int) * 1) (((b - a).toNat : Int) - ((0 : Nat) : Int)) 1 := by
    show (h₁.push _).get? h₁.objs.size = _
    rw [sz]
    simpa using Heap.get?_push_size _ rfl
  obtain ⟨p', T', ok, conv⟩ := comp_ok (target := .Name x px) (h₂ := h₁.push { cls := .type "range_iterator", data := .fields #[rawInt a, rawInt (Builtin.Range.rangeSize a b 1), rawInt 1] }) (I := h₁.objs.size) (fp := [h₁.objs.size]) (wr := [h₁.objs.size]) (V' := fun i m => ∃ v, (∃ t, v = .int (a + (i : Nat) * 1) t) ∧ m x = some v)
    (iRange a (b - a).toNat) p T e hk q1 (fun b o q => Heap.get?_push_of_some _ q) (by rw [Heap.size_push]; exact Nat.le_succ _) (fun b hb => by rw [List.mem_singleton.mp hb]; exact fresh_none (Nat.le_refl _))
    (fun C => by rw [ints_len]; exact Src.name W (by show (compEnvC scope cl' C env).scope.names.lookup x = _; exact lookup_relabel_local hx) hk) q2 (fun b hb => by rw [List.mem_singleton.mp hb, Heap.size_push]; exact Nat.lt_succ_self _) (by rw [ints_len]; omega)
    (.inr ⟨hT, fun i h₂ st b hb o' e' hc' => by
      have st' : h₂.get? h₁.objs.size = some _ := st
      rw [List.mem_singleton.mp hb, st'] at e'; cases e'; exact absurd (show Value.type "range_iterator" = .type "tuple" from hc'.1) (by decide)⟩) K
  exact ⟨h₁, _, tk₁, _, _, _, p', T', _, _, _, rfl, rfl, ok, fun D h' tk' lo ys hD x pl hlo pr => hq D h' tk' lo ys hD x pl hlo (conv lo h' ys pr)⟩

-- cells
theorem r_cell {x : Str} {pos : Pos} {c : Addr} {v : Value} {Q : Value → Shared → Prop} (e : EnvIs env L ks cl) (F : Fr h₀ L h m) (hk : ks.lookup x = some .cell) (hc : cl.lookup x = some c) (hv : h₀.IsCell c (some v)) (hd : (x == ("__debug__" : Str)) = false)
    (hQ : Q v ⟨h, gs, dr, tk, os⟩) : wpAny (model prog w) A (eval (.Name x pos) env) Q E ⟨h, gs, dr, tk, os⟩ :=
  wpAny_Name (wpAny_loadName_cell e.kind (by show env.scope.names.lookup x = _; rw [e.names]; exact hk) (by rw [e.cells]; exact hc) (hv.keeps F.keep) hQ) hd
theorem r_cell' {x : Str} {pos : Pos} {c : Addr} {v : Value} {Q : Value → Shared → Prop} (e : EnvIs env L ks cl) (hk : ks.lookup x = some .cell) (hc : cl.lookup x = some c) (hv : h.IsCell c (some v)) (hd : (x == ("__debug__" : Str)) = false)
    (hQ : Q v ⟨h, gs, dr, tk, os⟩) : wpAny (model prog w) A (eval (.Name x pos) env) Q E ⟨h, gs, dr, tk, os⟩ :=
  wpAny_Name (wpAny_loadName_cell e.kind (by show env.scope.names.lookup x = _; rw [e.names]; exact hk) (by rw [e.cells]; exact hc) hv hQ) hd
def closL (cl : List (Str × Addr)) : List (Str × NameKind) → List (Str × Addr) → Option (List (Str × Addr))
  | [], acc => some acc
  | (n, k) :: r, acc => if k == .free then (match cl.lookup n with | some a => closL cl r ((n, a) :: acc) | none => none) else closL cl r acc
theorem clos_of {scope : Scope} {cl' : List (Str × Addr)} (e : EnvIs env L ks cl) (hc : closL cl scope.names [] = some cl') : closureFor scope env = pure cl' := by
  have key : ∀ (ns : List (Str × NameKind)) (acc : List (Str × Addr)), closL cl ns acc = some cl' → (forIn ns acc fun (x : Str × NameKind) (cs : List (Str × Addr)) => (if (x.2 == .free) = true then (cellOf env x.1 >>= fun a => pure (ForInStep.yield ((x.1, a) :: cs))) else pure (ForInStep.yield cs) : Sem _)) = pure cl' := by
    intro ns
    induction ns with
    | nil => intro acc h; simp only [closL] at h; cases h; rfl
    | cons x r ih =>
      intro acc h
      obtain ⟨n, k⟩ := x
      rw [List.forIn_cons]
      unfold closL at h
      cases hk : k == NameKind.free with
      | true =>
        rw [hk, if_pos rfl] at h
        dsimp only
        rw [if_pos rfl]
        cases hl : cl.lookup n with
        | none => rw [hl] at h; cases h
        | some a =>
          rw [hl] at h
          have : cellOf env n = pure a := by unfold cellOf; rw [e.cells, hl]
          rw [this]
          exact ih _ h
      | false =>
        rw [hk, if_neg (by decide)] at h
        dsimp only
        rw [if_neg (by decide)]
        exact ih _ h
  have := key scope.names [] hc
  unfold closureFor
  exact (congrArg (fun t : Sem (List (Str × Addr)) => t >>= fun cs => pure cs) this).trans rfl

theorem cells_some {x : Str} : ∀ (ns : List (Str × NameKind)) {n n' : Nat} {acc acc' : List (Str × Addr)}, (∀ x, (acc.lookup x).isSome = true → (acc'.lookup x).isSome = true) → ((cellsFrom n ns acc).lookup x).isSome = true → ((cellsFrom n' ns acc').lookup x).isSome = true
  | [], _, _, _, _, ha, h => ha x h
  | (name, k) :: r, n, n', acc, acc', ha, h => by
    unfold cellsFrom at h ⊢
    split
    · rename_i hk
      rw [if_pos hk] at h
      refine cells_some r (fun y hy => ?_) h
      rw [List.lookup_cons] at hy ⊢
      cases hn : y == name with
      | true => rfl
      | false => rw [hn] at hy; exact ha y hy
    · rename_i hk
      rw [if_neg hk] at h
      exact cells_some r ha h
theorem enterC {f : Addr} {oc : Value} {od : Option Addr} {osl : Array (Option Value)} {fd : FuncData} {body : List Stmt} {args : List Value} {binds : List (Str × Value)} {n : Nat} {P : Value → Heap → Prop} {Q : Value → Shared → Prop}
    (g : G w mg mb h) (r : Room (n + 1) A) (hl : (KK w.params).lookup f = some ⟨oc, od, .func fd, osl⟩) (hcd : codeIn (KK w.params) fd.code fd.qualname = true) (hbody : fd.body = .stmts body)
    (hglob : fd.globals = mainGlobals) (hbui : fd.builtins = builtinsNs) (hclo : fd.closure = [])
    (hbind : bindArgs fd ⟨args, []⟩ = pure binds) (hkind : (binds.all fun x => fd.scope.names.lookup x.1 == some .local || (fd.scope.names.lookup x.1 == some .cell && ((cellsFrom 0 fd.scope.names []).lookup x.1).isSome)) = true)
    (hco : fd.scope.isCoroutine = false) (hgen : fd.scope.isGenerator = false) (hk : fd.scope.kind = .function)
    (body_ : ∀ (A' : Around) env L h₁ tk₁, Room n A' → EnvIs env L fd.scope.names (cellsFrom (L + 1) fd.scope.names []) → Fr h L h₁ (bindL (fun x => fd.scope.names.lookup x) binds fun _ => none) → (∀ x c, (cellsFrom (L + 1) fd.scope.names []).lookup x = some c → h₁.IsCell c (bindC (fun x => fd.scope.names.lookup x) binds (fun _ => none) x)) → G w mg mb h₁ → Ext h h₁ →
      wpAny (model prog w) A' (execs body env) (fun fl s' => ∃ h' tk', s' = ⟨h', gs, dr, tk', os⟩ ∧ Ext h h' ∧ P (match fl with | .ret v => v | _ => .none) h') NoE ⟨h₁, gs, dr, tk₁, os⟩)
    (hQ : ∀ v h' tk', Ext h h' → P v h' → Q v ⟨h', gs, dr, tk', os⟩) :
    wpAny (model prog w) A (call (.ref f) args) Q E ⟨h, gs, dr, tk, os⟩ := by
  refine wpAny_call (codeAny_call_cells (fd := fd) (body := body) (binds := binds) r.room (g.X _ _ hl) rfl g.lim (codeRec_of g.X hcd) hbody hbind hclo (fun x hx => ?_) (fun s₁ ic => ?_) hco hgen hk)
  · have := List.all_eq_true.mp hkind x hx
    rw [Bool.or_eq_true, Bool.and_eq_true] at this
    rcases this with z | ⟨z1, z2⟩
    · exact .inl (eq_of_beq z)
    · exact .inr ⟨eq_of_beq z1, cells_some _ (fun _ z => z) z2⟩
  · obtain ⟨h₁, tk₁, rfl⟩ := ic.toInCall.same
    have F : Fr h h.objs.size h₁ _ := ⟨ic.toInCall.ns, ic.toInCall.keep, Nat.le_refl _⟩
    refine wpAny_noRaise (wpAny_mono (body_ _ (callEnvC fd h.objs.size f) h.objs.size h₁ _ r.deeper ⟨hk, rfl, hglob, hbui, rfl, rfl⟩ F (fun x c hx => ic.cell x c hx) (g.keeps ic.toInCall.keep) ic.toInCall.keep) (fun fl s' hs => ?_) fun _ _ e => e)
    obtain ⟨h', tk', rfl, e1, e2⟩ := hs
    exact hQ _ h' tk' e1 e2
end
end Mine
end

section
open PySem PySem.W PyProof.Rows
set_option Elab.async false
set_option maxRecDepth 100000
set_option maxHeartbeats 1000000
namespace Mine
section
variable {prog : Program} {w : World} {mg mb : Str → Option Value} {A : Around} {E : Value → Shared → Prop} {gs : Array GenState} {dr : Drawn} {tk : Nat} {os : OsState} {h₀ h : Heap} {L : Addr} {m : Str → Option Value} {env : Env} {ks : List (Str × NameKind)} {cl : List (Str × Addr)}

theorem Src.pair {x1 x2 : Str} {p1 p2 tp : Pos} {k : Nat} {I : Addr} {fp wr : List Addr} {n : Nat} {Pt : Nat → Array Value → Prop} {St : Nat → Heap → Prop} {Mid : Nat → Addr → Heap → Prop} {cenv : Env} (W : WalksT prog w A I fp wr n Pt St Mid) (hh : A.handled = none)
    (hx1 : cenv.kindOf x1 = some .local) (hx2 : cenv.kindOf x2 = some .local) (hk : cenv.scope.kind = .function) (hne : x1 ≠ x2) (hPt : ∀ i vals, Pt i vals → ∃ a b, vals = #[a, b]) :
    Src prog w A gs dr os (.Tuple [.Name x1 p1, .Name x2 p2] k tp) cenv I fp wr n (fun i m => ∃ a b, Pt i #[a, b] ∧ m x1 = some a ∧ m x2 = some b) St where
  sub := W.sub
  frame := W.frame
  item := fun i h m tk Q hi st hn hC hQ => by
    refine W.item i _ _ _ hi st fun T vals h' tk' hP hge hT hm k' => ?_
    refine ⟨.ref T, rfl, ?_⟩
    refine W.go _ _ _ i T _ _ _ hm fun h₂ st₂ k₂ => ?_
    obtain ⟨a, b, rfl⟩ := hPt i vals hP
    have hT₂ : h₂.IsTuple T #[a, b] := by
      obtain ⟨o, ho, r⟩ := hT
      exact ⟨o, k₂ T o (W.apart i T h' hm) ho, r⟩
    refine wpAny_assign_Tuple hh hT₂ rfl rfl fun h₃ he => ?_
    have he' : ∀ b o, h₂.get? b = some o → h₃.get? b = some o := fun b o e => he b o (Nat.ne_of_lt (Heap.lt_size e)) e
    have hn₃ : h₃.Ns cenv.locals m := hn.at' fun o e => he' _ o (k₂ _ o (fun z => hC (W.sub _ z)) (k' _ o (fun z => hC (W.sub _ z)) e))
    refine assignInOrder_cons (wpAny_assign_Name (wpAny_storeName_local hx1 hn₃ (fun h₄ hn₄ hs₄ => ?_) (by rw [hk]; rfl)))
    refine assignInOrder_cons (wpAny_assign_Name (wpAny_storeName_local hx2 hn₄ (fun h₅ hn₅ hs₅ => ?_) (by rw [hk]; rfl)))
    refine assignInOrder_nil ?_
    have old : ∀ b o, b ≠ cenv.locals → h₂.get? b = some o → h₅.get? b = some o := fun b o hb e => hs₅.extBut b o hb (hs₄.extBut b o hb (he' b o e))
    refine hQ h₅ _ _ (W.frame _ _ _ st₂ fun b hb o e => old b o (fun z => hC (z ▸ hb)) e) hn₅ ⟨a, b, hP, ?_, if_pos rfl⟩ fun c o hc e => old c o (fun z => hc (z ▸ .head _)) (k₂ c o (fun z => hc (.tail _ z)) (k' c o (fun z => hc (.tail _ z)) e))
    rw [if_neg hne, if_pos rfl]
  done := fun h tk Q st hQ => W.done _ _ _ st fun h' tk' k => hQ h' tk' k
  self := W.self

/-- a comprehension over zip(one list, other list), stored -/
theorem ca_zip {α : Type} {elt e1 e2 : Expr} {x1 x2 y : Str} {p1 p2 tp zp zc pos py spos : Pos} {k : Nat} {scope : Scope} {cl' : List (Str × Addr)} {rest : List Stmt} {Q : Flow → Shared → Prop} {s : Shared} (as : List α) (T : α → Value → Prop) (rm : Room 0 A) (e : EnvIs env L ks cl)
    (hsw : swapsWith (.ListComp elt [⟨.Tuple [.Name x1 p1, .Name x2 p2] k tp, .Call (.Name (Str.ofString "zip") zp) [e1, e2] [] zc, [], 0⟩] scope pos) (some (.Name y py)) spos.line env = pure true) (hy : ks.lookup y = some .local)
    (hs : ∀ x, foldedSetIterable (.Call (.Name (Str.ofString "zip") zp) [e1, e2] [] zc) env x = pure x) (hclos : closureFor scope env = pure cl') (hcell : (scope.names.all fun y => y.2 != .cell) = true) (hk : scope.kind = .function) (hnames : (scope.names.all fun x => x.2 != .local || scope.names.lookup x.1 == some .local) = true)
    (hx1 : scope.names.lookup x1 = some .local) (hx2 : scope.names.lookup x2 = some .local) (hne : decide (x1 = x2) = false)
    (hQ : wpAny (model prog w) A (eval (.Name (Str.ofString "zip") zp) env) (fun f s₁ => f = .type "zip" ∧ wpAny (model prog w) A (eval e1 env) (fun v1 s₂ => wpAny (model prog w) A (eval e2 env) (fun v2 s₃ =>
      ∃ (l1 l2 : Addr) (vs us : List Value) (h₁ : Heap) (tk₁ : Nat) (P : α → Value → Value → Prop) (m : Str → Option Value), v1 = .ref l1 ∧ v2 = .ref l2 ∧ s₃ = ⟨h₁, gs, dr, tk₁, os⟩ ∧ h₁.IsList l1 vs.toArray ∧ h₁.IsList l2 us.toArray ∧ vs.length = as.length ∧ us.length = as.length ∧ as.length ≤ 1000 ∧ Fr h₀ L h₁ m ∧
      (∀ (i : Nat) (a b : Value), vs[i]? = some a → us[i]? = some b → ∃ c, as[i]? = some c ∧ P c a b) ∧ (Elts prog w A gs dr os env ks elt [] scope cl' h₁ (fun c m => ∃ a b, P c a b ∧ m x1 = some a ∧ m x2 = some b) (fun _ => true) (fun c _ _ y => T c y) as) ∧
      ∀ D h' tk' (ys : List Value), h₁.objs.size ≤ D → Fr h₀ L h' (upd m y (.ref D)) → Off [L] h₁ h' → h'.PlainList D ys.toArray → Paired T as ys → wpAny (model prog w) A (execs rest env) Q E ⟨h', gs, dr, tk', os⟩) E s₂) E s₁) E s)
    (hc : eval (.Call (.Name (Str.ofString "zip") zp) [e1, e2] [] zc) env = (do callWith zc (← eval (.Name (Str.ofString "zip") zp) env) [] (backTo zc (starEach [e1, e2] env)) (backToKw zc (keywordEach [] env))))
    (hst : starEach [e1, e2] env = [(false, eval e1 env), (false, eval e2 env)]) :
    wpAny (model prog w) A (execs (.Assign [.Name y py] (.ListComp elt [⟨.Tuple [.Name x1 p1, .Name x2 p2] k tp, .Call (.Name (Str.ofString "zip") zp) [e1, e2] [] zc, [], 0⟩] scope pos) spos :: rest) env) Q E s := by
  refine comp_assign (gs := gs) (dr := dr) (os := os) (h₀ := h₀) e hsw hy hs hclos hcell hk hnames (r_call hc ?_)
  refine wpAny_mono hQ (fun f s₁ h₁ => ?_) fun _ _ e => e
  obtain ⟨rfl, hf⟩ := h₁
  refine c_t2 hst (wpAny_mono hf (fun v1 s₂ h₂ => wpAny_mono h₂ (fun v2 s₃ h₃ => ?_) fun _ _ e => e) fun _ _ e => e)
  obtain ⟨l1, l2, vs, us, h₁, tk₁, P, m, rfl, rfl, rfl, hl1, hl2, n1, n2, nsz, F, hP, K, hq⟩ := h₃
  have lt1 : l1 < h₁.objs.size := by obtain ⟨_, e, _⟩ := hl1; exact Heap.lt_size e
  have lt2 : l2 < h₁.objs.size := by obtain ⟨_, e, _⟩ := hl2; exact Heap.lt_size e
  refine call_zip_2 hl1 hl2 fun h₂ hz hTI hTO hi1 hi2 hsz hk₂ => ?_
  dsimp only at hz hTI hTO hi1 hi2 hsz hk₂ ⊢
  refine wpAny_pyIter_zip hz ?_
  have ne : ∀ {l : Addr} (j : Nat), l < h₁.objs.size → l ≠ h₁.objs.size + j := fun j hl => Nat.ne_of_lt (Nat.lt_of_lt_of_le hl (Nat.le_add_right _ _))
  have nej : ∀ (i j : Nat), i ≠ j → h₁.objs.size + i ≠ h₁.objs.size + j := fun i j hij => by omega
  have nej0 : ∀ (j : Nat), 0 < j → h₁.objs.size + j ≠ h₁.objs.size := fun j hj => by omega
  have nej1 : ∀ (j : Nat), 0 < j → h₁.objs.size ≠ h₁.objs.size + j := fun j hj => by omega
  have ap : ZipApart (h₁.objs.size + 4) (h₁.objs.size + 2) (h₁.objs.size + 3) h₁.objs.size (h₁.objs.size + 1) l1 l2 :=
    ⟨nej 2 4 (by decide), nej 3 4 (by decide), nej1 4 (by decide), nej 1 4 (by decide), nej 2 3 (by decide), nej0 2 (by decide), nej 2 1 (by decide), nej0 3 (by decide), nej 3 1 (by decide), nej1 1 (by decide),
      ne 4 lt1, ne 3 lt1, Nat.ne_of_lt lt1, ne 1 lt1, ne 4 lt2, ne 3 lt2, Nat.ne_of_lt lt2, ne 1 lt2⟩
  have W := WalksT.zip2 (prog := prog) (w := w) (A := A) rm.hd _ _ _ _ _ _ _ ap vs.toArray us.toArray
  rw [show min vs.toArray.size us.toArray.size = as.length by rw [List.size_toArray (as := vs), List.size_toArray (as := us), n1, n2, Nat.min_self]] at W
  have hp1 : ∀ (i : Nat) (vals : Array Value), (∃ x y, vs.toArray[i]? = some x ∧ us.toArray[i]? = some y ∧ vals = #[x, y]) → ∃ a b, vals = #[a, b] := by
    rintro i vals ⟨x, y, _, _, rfl⟩; exact ⟨x, y, rfl⟩
  have q1 : ∀ (i : Nat) (m : Str → Option Value), i < as.length → (∃ a b, (∃ x y, vs.toArray[i]? = some x ∧ us.toArray[i]? = some y ∧ (#[a, b] : Array Value) = #[x, y]) ∧ m x1 = some a ∧ m x2 = some b) → ∃ c, as[i]? = some c ∧ ∃ a b, P c a b ∧ m x1 = some a ∧ m x2 = some b := by
    rintro i m hi ⟨a, b, ⟨x, y, hx, hy, hxy⟩, m1, m2⟩
    have : a = x ∧ b = y := by simpa using hxy
    obtain ⟨rfl, rfl⟩ := this
    obtain ⟨c, hc, hPc⟩ := hP i a b (by simpa using hx) (by simpa using hy)
    exact ⟨c, hc, a, b, hPc, m1, m2⟩
  have frs : ∀ b ∈ [h₁.objs.size + 4, h₁.objs.size + 3, h₁.objs.size, h₁.objs.size + 1], h₁.get? b = none := fun b hb => by
    refine fresh_none ?_
    simp only [List.mem_cons, List.not_mem_nil, or_false] at hb
    rcases hb with rfl | rfl | rfl | rfl
    · exact Nat.le_add_right _ _
    · exact Nat.le_add_right _ _
    · exact Nat.le_refl _
    · exact Nat.le_add_right _ _
  have fps : ∀ b ∈ [h₁.objs.size + 4, h₁.objs.size + 2, h₁.objs.size + 3, h₁.objs.size, h₁.objs.size + 1, l1, l2], b < h₂.objs.size := fun b hb => by
    rw [hsz]
    simp only [List.mem_cons, List.not_mem_nil, or_false] at hb
    rcases hb with rfl | rfl | rfl | rfl | rfl | rfl | rfl
    · exact Nat.add_lt_add_left (by decide) _
    · exact Nat.add_lt_add_left (by decide) _
    · exact Nat.add_lt_add_left (by decide) _
    · exact Nat.lt_add_of_pos_right (by decide)
    · exact Nat.add_lt_add_left (by decide) _
    · exact Nat.lt_of_lt_of_le lt1 (Nat.le_add_right _ _)
    · exact Nat.lt_of_lt_of_le lt2 (Nat.le_add_right _ _)
  obtain ⟨p', T', ok, conv⟩ := comp_ok (target := .Tuple [.Name x1 p1, .Name x2 p2] k tp) (h₂ := h₂) as (fun _ => true) (fun c _ _ y => T c y) e hk q1 hk₂ (by rw [hsz]; exact Nat.le_add_right _ _) frs
    (fun C => Src.pair W rm.hd (by show (compEnvC scope cl' C env).scope.names.lookup x1 = _; exact lookup_relabel_local hx1) (by show (compEnvC scope cl' C env).scope.names.lookup x2 = _; exact lookup_relabel_local hx2) hk (of_decide_eq_false hne) hp1)
    ⟨hz, hTI, ⟨_, _, hTO⟩, hi1, hi2, list_at hl1 (fun o q => hk₂ _ o q), list_at hl2 (fun o q => hk₂ _ o q)⟩ fps nsz (.inl fun _ _ _ _ _ t => t) K
  refine ⟨h₁, h₂, tk₁, _, _, _, p', T', _, _, _, m, rfl, rfl, ok, F, fun D h' tk' lo ys hD x o pl hlo pr => hq D h' tk' ys hD x o pl ?_⟩
  have := conv lo h' ys pr
  rwa [List.filter_eq_self.mpr (fun _ _ => rfl)] at this
end
end Mine
end

section
open PySem PySem.W PyProof.Rows
set_option maxHeartbeats 4000000
namespace Mine
def Flds (es : List DictEntry) (f : Str → Option Value) : Prop := es.any (·.refKey) = false ∧ ∀ name, (es.find? (·.key.isStr name)).map (·.val) = f name
theorem Flds.get {es : List DictEntry} {f : Str → Option Value} (x : Flds es f) (name : Str) : getL name es = some (f name) := by
  unfold getL
  have := x.2 name
  cases h : es.find? (·.key.isStr name) with
  | some e => rw [h] at this; simp at this; rw [← this]
  | none => rw [h] at this; simp at this; rw [x.1, if_neg (by decide), ← this]
theorem isStr_self (name : Str) (tk : Tok) : Value.isStr (.str name tk) name = true := by simp [Value.isStr]
theorem isStr_inj {v : Value} {a b : Str} (h1 : v.isStr a = true) (h2 : v.isStr b = true) : a = b := by
  cases v <;> simp [Value.isStr] at h1 h2
  exact h1.symm.trans h2
theorem Flds.put {name : Str} {hsh : Int} {tk : Tok} {v : Value} : ∀ {es : List DictEntry} {f : Str → Option Value}, Flds es f → Flds (putL name hsh (.str name tk) v es) (upd f name v)
  | es, f, x => by
    have key : ∀ (es : List DictEntry), es.any (·.refKey) = false → (putL name hsh (.str name tk) v es).any (·.refKey) = false ∧ ∀ nm, ((putL name hsh (.str name tk) v es).find? (·.key.isStr nm)).map (·.val) = if nm = name then some v else (es.find? (·.key.isStr nm)).map (·.val) := by
      intro es
      induction es with
      | nil =>
        intro _
        refine ⟨by simp [putL, DictEntry.refKey], fun nm => ?_⟩
        by_cases e : nm = name
        · subst e; simp [putL, isStr_self]
        · simp [putL, e, Value.isStr]; intro q; exact e q.symm
      | cons a r ih =>
        intro h
        rw [List.any_cons, Bool.or_eq_false_iff] at h
        obtain ⟨i1, i2⟩ := ih h.2
        unfold putL
        split
        · rename_i hk
          refine ⟨by rw [List.any_cons, h.2, Bool.or_false]; exact h.1, fun nm => ?_⟩
          rw [List.find?_cons, List.find?_cons]
          dsimp only
          by_cases e : nm = name
          · subst e; rw [hk, if_pos rfl]; rfl
          · rw [if_neg e]
            cases q : a.key.isStr nm with
            | false => rfl
            | true => exact absurd (isStr_inj q hk) e
        · rename_i hk
          refine ⟨by rw [List.any_cons, i1, Bool.or_false]; exact h.1, fun nm => ?_⟩
          rw [List.find?_cons, List.find?_cons]
          cases q : a.key.isStr nm with
          | false => exact i2 nm
          | true =>
            have : nm ≠ name := by rintro rfl; exact hk q
            rw [if_neg this]
    obtain ⟨k1, k2⟩ := key es x.1
    refine ⟨k1, fun nm => ?_⟩
    rw [k2 nm]
    unfold upd
    split
    · rfl
    · exact x.2 nm

section
variable {prog : Program} {w : World} {mg mb : Str → Option Value} {A : Around} {E : Value → Shared → Prop} {gs : Array GenState} {dr : Drawn} {tk : Nat} {os : OsState} {h₀ h : Heap} {L : Addr} {m : Str → Option Value} {env : Env} {ks : List (Str × NameKind)} {cl : List (Str × Addr)}

/-- an object of the class Whitespace with its fields -/
structure Ob (k : Nat) (h : Heap) (x dx : Addr) (f : Str → Option Value) : Prop where
  ob : h.get? x = some (instObj 131 dx)
  di : ∃ es n, h.get? dx = some (dictOf es n) ∧ Flds es f ∧ es.length ≤ k
theorem Ob.at {k : Nat} {h h' : Heap} {x dx : Addr} {f : Str → Option Value} (o : Ob k h x dx f) (k1 : ∀ o, h.get? x = some o → h'.get? x = some o) (k2 : ∀ o, h.get? dx = some o → h'.get? dx = some o) : Ob k h' x dx f := by
  obtain ⟨es, n, a, b, c⟩ := o.di
  exact ⟨k1 _ o.ob, es, n, k2 _ a, b, c⟩
theorem Ob.inst {k : Nat} {h : Heap} {x dx : Addr} {f : Str → Option Value} (o : Ob k h x dx f) : ∃ es n, InstAt h x (instObj 131 dx) 131 (some (dictOf es n)) ∧ Flds es f := by
  obtain ⟨es, n, a, b, c⟩ := o.di
  exact ⟨es, n, ⟨o.ob, rfl, rfl, a⟩, b⟩
theorem wsHas (w : World) : hasDictIn (Mine.hd.heap_39 w.params) 131 = true := by kernel_rfl
theorem wsOver (w : World) : plainOver (Mine.hd.heap_39 w.params) 131 = true := by kernel_rfl
theorem wsSet (w : World) : findIn (Mine.hd.heap_39 w.params) (.ref 131) "__setattr__" = some (some (.builtin "object.__setattr__")) := by kernel_rfl
theorem wsGa (w : World) : findIn (Mine.hd.heap_39 w.params) (.ref 131) "__getattribute__" = some (some (.builtin "object.__getattribute__")) := by kernel_rfl
theorem wsGx (w : World) : findIn (Mine.hd.heap_39 w.params) (.ref 131) "__getattr__" = some none := by kernel_rfl
theorem wsMakes (w : World) : makesIn (Mine.hd.heap_39 w.params) 131 = true := by kernel_rfl
theorem wsInit (w : World) : findIn (Mine.hd.heap_39 w.params) (.ref 131) "__init__" = some (some (.ref 86)) := by kernel_rfl
theorem wsFn (w : World) : typeIn (Mine.hd.heap_39 w.params) (.ref 86) = some (.type "function") := by kernel_rfl

theorem r_getattr {k : Nat} {x dx : Addr} {f : Str → Option Value} {name : Str} {v : Value} {expr : Bool} {Q : Value → Shared → Prop} (g : G w mg mb h) (o : Ob k h x dx f) (hn : findIn (Mine.hd.heap_39 w.params) (.ref 131) name = some none) (hv : f name = some v) (hh : handedIn v = true)
    (hQ : ∀ tk', Q v ⟨h, gs, dr, tk', os⟩) : wpAny (model prog w) A (getAttr (.ref x) name expr) Q E ⟨h, gs, dr, tk, os⟩ := by
  obtain ⟨es, n, I, fl⟩ := o.inst
  refine get_value g.X I (wsGa w) (findObj_own (wsHas w) hn rfl ?_) hh (hQ _)
  rw [lookIn_dict, fl.get, hv]
theorem r_getmeth {k : Nat} {x dx : Addr} {f : Str → Option Value} {name : Str} {fn : Addr} {pl : Sem Bool} {Q : Value × List Value → Shared → Prop} (g : G w mg mb h) (o : Ob k h x dx f) (hn : findIn (Mine.hd.heap_39 w.params) (.ref 131) name = some (some (.ref fn))) (ht : typeIn (Mine.hd.heap_39 w.params) (.ref fn) = some (.type "function")) (hv : f name = none)
    (hQ : Q (.ref fn, [.ref x]) ⟨h, gs, dr, tk, os⟩) : wpAny (model prog w) A (getMethod (.ref x) name pl) Q E ⟨h, gs, dr, tk, os⟩ := by
  obtain ⟨es, n, I, fl⟩ := o.inst
  refine method_fn g.X I (wsGa w) (wsGx w) hn ht ?_ hQ
  show (lookIn name (dictOf es n)).map _ = _
  rw [lookIn_dict, fl.get, hv]; rfl
theorem putL_len (name : Str) (hsh : Int) (key v : Value) : ∀ es : List DictEntry, (putL name hsh key v es).length ≤ es.length + 1
  | [] => by simp [putL]
  | e :: r => by
    unfold putL
    split
    · simp
    · have := putL_len name hsh key v r
      simp; omega
theorem r_setattr {k : Nat} {x dx : Addr} {f : Str → Option Value} {name : Str} {v : Value} {Q : Unit → Shared → Prop} (al : List (Addr × Obj)) (g : G w mg mb h₀) (F : Fr h₀ L h m) (o : Ob k h x dx f) (hn : findIn (Mine.hd.heap_39 w.params) (.ref 131) name = some none) (hk : k < 900)
    (hx : x ≠ dx ∧ x ≠ L ∧ dx ≠ L ∧ h₀.get? x = none ∧ h₀.get? dx = none) (hal : ∀ p ∈ al, h.get? p.1 = some p.2 ∧ p.1 ≠ dx ∧ p.1 ≠ L ∧ h₀.get? p.1 = none)
    (hQ : ∀ h' tk', Fr h₀ L h' m → Ob (k + 1) h' x dx (upd f name v) → (∀ p ∈ al, h'.get? p.1 = some p.2) → Q () ⟨h', gs, dr, tk', os⟩) :
    wpAny (model prog w) A (setAttr (.ref x) name v) Q E ⟨h, gs, dr, tk, os⟩ := by
  obtain ⟨es, n, a, fl, hl⟩ := o.di
  have I : InstAt h x (instObj 131 dx) 131 (some (dictOf es n)) := ⟨o.ob, rfl, rfl, a⟩
  have N : News h₀ L h ((dx, dictOf es n) :: (x, instObj 131 dx) :: al) := fun p hp => by
    rcases List.mem_cons.mp hp with rfl | hp
    · exact ⟨a, hx.2.2.1, hx.2.2.2.2⟩
    · rcases List.mem_cons.mp hp with rfl | hp
      · exact ⟨o.ob, hx.2.1, hx.2.2.2.1⟩
      · exact ⟨(hal p hp).1, (hal p hp).2.2.1, (hal p hp).2.2.2⟩
  have U : ∀ o', Upd dx (dictOf es n) o' ((dx, dictOf es n) :: (x, instObj 131 dx) :: al) ((dx, o') :: (x, instObj 131 dx) :: al) := fun o' => .head fun p hp => by
    rcases List.mem_cons.mp hp with rfl | hp
    · exact hx.1
    · exact (hal p hp).2.1
  refine set_dict F g.X N I rfl (wsSet w) (wsOver w) (by unfold takerIn; rw [hn]; rfl) (wsHas w) (by rw [fl.get]; rfl) rfl (U _) (Nat.le_trans (putL_len _ _ _ _ es) (by omega)) fun h' F' N' => ?_
  refine hQ h' _ F' ⟨(N' (x, instObj 131 dx) (by simp)).1, _, _, (N' _ List.mem_cons_self).1, fl.put, Nat.le_trans (putL_len _ _ _ _ es) (by omega)⟩ fun p hp => (N' p (by simp [hp])).1
end

end Mine
end

section
open PySem PySem.W PyProof.Rows
set_option maxHeartbeats 4000000
namespace Mine
section
variable {prog : Program} {w : World} {mg mb : Str → Option Value} {A : Around} {E : Value → Shared → Prop} {gs : Array GenState} {dr : Drawn} {tk : Nat} {os : OsState} {h₀ h : Heap} {L : Addr} {m : Str → Option Value} {env : Env} {ks : List (Str × NameKind)} {cl : List (Str × Addr)}

theorem le_of_eq2 {a b c : Nat} (h : a = b) (k : b ≤ c) : a ≤ c := h ▸ k
theorem Room.make {n : Nat} {C : Addr} {vals : List Value} {kw : List (Str × Value)} (r : Room (n + 1) A) : Room n (A.under (.builtin "type.__call__" ⟨.ref C :: vals, kw⟩)) := by
  have h1 : (A.under (.builtin "type.__call__" ⟨.ref C :: vals, kw⟩)).depth = A.depth + 1 := rfl
  have h2 : (A.under (.builtin "type.__call__" ⟨.ref C :: vals, kw⟩)).units = A.units + 1 := rfl
  exact ⟨r.hd, by have := r.dp; rw [h1]; omega, by have := r.un; rw [h2]; omega⟩

theorem enter_code {f : Addr} {oc : Value} {od : Option Addr} {osl : Array (Option Value)} {fd : FuncData} {body : List Stmt} {args : List Value} {binds : List (Str × Value)} {n : Nat} {R : Result → Shared → Prop}
    (g : G w mg mb h) (r : Room (n + 1) A) (hl : (KK w.params).lookup f = some ⟨oc, od, .func fd, osl⟩) (hcd : codeIn (KK w.params) fd.code fd.qualname = true) (hbody : fd.body = .stmts body)
    (hglob : fd.globals = mainGlobals) (hbui : fd.builtins = builtinsNs) (hclo : fd.closure = [])
    (hbind : bindArgs fd ⟨args, []⟩ = pure binds) (hcell : (fd.scope.names.all fun x => x.2 != .cell) = true) (hloc : (binds.all fun x => fd.scope.names.lookup x.1 == some .local) = true)
    (hco : fd.scope.isCoroutine = false) (hgen : fd.scope.isGenerator = false) (hk : fd.scope.kind = .function)
    (body_ : ∀ (A' : Around) env L h₁ tk₁, Room n A' → EnvIs env L fd.scope.names [] → Fr h L h₁ (fun x => binds.reverse.lookup x) → G w mg mb h₁ → Ext h h₁ →
      wpAny (model prog w) A' (execs body env) (fun fl s' => R (.ok (.ret (match fl with | .ret v => v | _ => .none))) s') NoE ⟨h₁, gs, dr, tk₁, os⟩) :
    codeAny (model prog w) A (.call (.ref f) ⟨args, []⟩) R ⟨h, gs, dr, tk, os⟩ := by
  refine codeAny_call_def (fd := fd) (body := body) (binds := binds) r.room (g.X _ _ hl) rfl g.lim (codeRec_of g.X hcd) hbody (.of_eq hbind) (fun x hx => ?_) (fun x hx => ?_) (fun h₁ hns hk₁ => ?_) hco hgen hk
  · have := List.all_eq_true.mp hcell x hx
    intro e; rw [e] at this; cases this
  · have := List.all_eq_true.mp hloc x hx
    exact eq_of_beq this
  · have F : Fr h h.objs.size h₁ (fun x => binds.reverse.lookup x) := ⟨hns, hk₁, Nat.le_refl _⟩
    exact wpAny_noRaise (body_ _ (callEnv fd h.objs.size f) h.objs.size h₁ _ r.deeper ⟨hk, rfl, hglob, hbui, rfl, hclo⟩ F (g.keeps hk₁) hk₁)

theorem r_make {args : List Value} {n : Nat} {Q : Value → Shared → Prop} (g : G w mg mb h) (r : Room (n + 1) A)
    (hQ : ∀ A' h₁ x dx, Room n A' → h₁ = (h.push emptyDict).push (instObj 131 h.objs.size) → dx = h.objs.size → x = h.objs.size + 1 → codeAny (model prog w) A' (.call (.ref 86) ⟨.ref x :: args, []⟩) (fun r s' => match r with | .ok (.ret v) => v = .none ∧ Q (.ref x) s' | _ => False) ⟨h₁, gs, dr, tk, os⟩) :
    wpAny (model prog w) A (call (.ref 131) args) Q E ⟨h, gs, dr, tk, os⟩ := by
  refine wpAny_call (make_core (makes_of g.X (wsMakes w)) (looks_findIn g.X (wsInit w)) (fun self => bind_fn g.X self (wsFn w)) (.inl rfl) (codeAny_mono (hQ _ _ _ _ r.make rfl rfl rfl) fun r s' z => ?_))
  rcases r with e | (v | _ | _ | _)
  · exact z.elim
  all_goals first | exact z | exact z.elim

-- stores of fields
theorem x_setattr {o value : Expr} {attr : Str} {pos' pos : Pos} {rest : List Stmt} {Q : Flow → Shared → Prop} {s : Shared} (hs : swapsWith value (some (.Attribute o attr pos')) pos.line env = pure false)
    (hQ : wpAny (model prog w) A (eval value env) (fun v s₁ => wpAny (model prog w) A (eval o env) (fun ov s₂ => wpAny (model prog w) A (setAttr ov attr v) (fun _ s₃ => wpAny (model prog w) A (execs rest env) Q E s₃) E s₂) E s₁) E s) :
    wpAny (model prog w) A (execs (.Assign [.Attribute o attr pos'] value pos :: rest) env) Q E s := wpAny_execs_cons (plainObj_wpAny_Assign_Attribute hQ hs)

-- Whitespace.S, Whitespace.T
theorem wsReads (w : World) : readsIn (Mine.hd.heap_39 w.params) 131 (.type "type") = true := by kernel_rfl
theorem wsS (w : World) : findCls (Mine.hd.heap_39 w.params) (.ref 131) (.type "type") (Str.ofString "S") = some (.val (.str (Str.ofString " ") 409)) := by kernel_rfl
theorem wsT (w : World) : findCls (Mine.hd.heap_39 w.params) (.ref 131) (.type "type") (Str.ofString "T") = some (.val (.str (Str.ofString "\t") 410)) := by kernel_rfl
theorem r_wsS {expr : Bool} {Q : Value → Shared → Prop} (g : G w mg mb h₀) (F : Fr h₀ L h m) (hQ : ∀ t tk', Q (.str (S [32]) t) ⟨h, gs, dr, tk', os⟩) : wpAny (model prog w) A (getAttr (.ref 131) (Str.ofString "S") expr) Q E ⟨h, gs, dr, tk, os⟩ :=
  cls_value (g.X.keeps F.keep) (wsReads w) (wsS w) rfl (hQ _ _)
theorem r_wsT {expr : Bool} {Q : Value → Shared → Prop} (g : G w mg mb h₀) (F : Fr h₀ L h m) (hQ : ∀ t tk', Q (.str (S [9]) t) ⟨h, gs, dr, tk', os⟩) : wpAny (model prog w) A (getAttr (.ref 131) (Str.ofString "T") expr) Q E ⟨h, gs, dr, tk, os⟩ :=
  cls_value (g.X.keeps F.keep) (wsReads w) (wsT w) rfl (hQ _ _)
end

end Mine
end

section
open PySem PySem.W PyProof.Rows
set_option maxHeartbeats 4000000
namespace Mine
section
variable {prog : Program} {w : World} {mg mb : Str → Option Value} {A : Around} {E : Value → Shared → Prop} {gs : Array GenState} {dr : Drawn} {tk : Nat} {os : OsState} {h₀ h : Heap} {L : Addr} {m : Str → Option Value} {env : Env} {ks : List (Str × NameKind)} {cl : List (Str × Addr)}

theorem r_ladd {l b : Addr} {vs ws : List Value} {Q : Value → Shared → Prop} (hl : h.IsList l vs.toArray) (hb : h.IsList b ws.toArray) (hsz : vs.length + ws.length ≤ 10000)
    (hQ : ∀ D h', Ext h h' → h.objs.size ≤ D → h'.PlainList D (vs ++ ws).toArray → Q (.ref D) ⟨h', gs, dr, tk, os⟩) : wpAny (model prog w) A (binaryOp .Add (.ref l) (.ref b)) Q E ⟨h, gs, dr, tk, os⟩ := by
  obtain ⟨⟨cls, dd, data, sl⟩, ho, hc, n, hd⟩ := id hl
  obtain ⟨⟨cls2, dd2, data2, sl2⟩, ho2, hc2, n2, hd2⟩ := id hb
  simp only at hc hd hc2 hd2
  subst hc hd hc2 hd2
  have e : vs.toArray ++ ws.toArray = (vs ++ ws).toArray := by simp
  refine concat_meets ⟨_, ho, rfl⟩ ⟨_, ho2, rfl⟩ noFill_list_add seq_list_add PySem.F.slot_list_add PySem.F.entry_list_add (PySem.F.args_list_add_2 _ _) (list_addW l b vs.toArray ws.toArray n n2 dd dd2 sl sl2 (by rw [List.size_toArray, List.size_toArray]; show _ ≤ 2 ^ 24; omega)) ⟨ho, ho2, ?_⟩
  rw [e]
  exact hQ _ _ (fun b o q => Heap.get?_push_of_some _ q) (Nat.le_refl _) ⟨_, Heap.get?_push_size _ rfl⟩
theorem r_lmul {l : Addr} {vs : List Value} {x : Int} {u : Tok} {Q : Value → Shared → Prop} (hl : h.PlainList l vs.toArray) (hx : 0 ≤ x ∧ x ≤ 100) (hsz : vs.length ≤ 100)
    (hQ : ∀ D h', Ext h h' → h.objs.size ≤ D → h'.PlainList D (List.replicate x.toNat vs).flatten.toArray → Q (.ref D) ⟨h', gs, dr, tk, os⟩) : wpAny (model prog w) A (binaryOp .Mult (.ref l) (.int x u)) Q E ⟨h, gs, dr, tk, os⟩ := by
  obtain ⟨k, hk⟩ := hl
  have hb : vs.toArray.size * x.toNat ≤ 2 ^ 24 := by
    rw [List.size_toArray]
    exact Nat.le_trans (Nat.mul_le_mul hsz (show x.toNat ≤ 100 by omega)) (by decide)
  refine wpAny_binaryOp_repeat_ref (T := "list") (U := "int") (by decide) ⟨_, hk, rfl⟩ (fun s' => typeIs_int s' x u) noFill_list_mul F.fills_int_mul F.slot_int_rmul repeat_list F.slot_int_index.lookup
    (call_meets F.slot_int_rmul (typeIs_int _ x u) F.entry_int_rmul (F.args_int_rmul_2 _ _) (int___rmul___int_list x u l vs.toArray k)
      ⟨hk, rfl, ⟨_, hk, rfl⟩, call_meets F.slot_list_mul ⟨_, hk, rfl⟩ F.entry_list_mul (F.args_list_mul_2 _ _)
        (AutoListH.list___mul___list_int_3 l vs.toArray k x u (by simp [Builtin.List.listFitsIndex]; omega) (by omega) (by intro z; have z := of_decide_eq_true z; exact absurd hb (Nat.not_le.mpr z)))
        ⟨hk, ?_⟩⟩)
  rw [listMul_foldl_if]
  exact hQ _ _ (fun b o q => Heap.get?_push_of_some _ q) (Nat.le_refl _) ⟨_, Heap.get?_push_size _ rfl⟩
theorem r_llen {l : Addr} {vs : List Value} {Q : Value → Shared → Prop} (hl : h.IsList l vs.toArray) (hsz : vs.length ≤ 10000) (hQ : ∀ t tk', Q (.int vs.length t) ⟨h, gs, dr, tk', os⟩) : wpAny (model prog w) A (call (.builtin "len") [.ref l]) Q E ⟨h, gs, dr, tk, os⟩ :=
  PyProof.Rows.len_list hl (by rw [List.size_toArray]; omega) (by rw [List.size_toArray]; exact hQ _ _)
theorem r_ltuple {l : Addr} {vs : List Value} {Q : Value → Shared → Prop} (hl : h.IsList l vs.toArray) (hsz : vs.length ≤ 10000) (hQ : ∀ a h', Ext h h' → IsTup h' a vs.toArray → h.get? a = none → Q (.ref a) ⟨h', gs, dr, tk, os⟩) : wpAny (model prog w) A (call (.type "tuple") [.ref l]) Q E ⟨h, gs, dr, tk, os⟩ :=
  call_tuple_list hl (fun h' k => hQ _ _ (fun b o q => Heap.get?_push_of_some _ (k b o q)) ⟨_, Heap.get?_push_size _ rfl, rfl, _, rfl⟩ (by
    cases q : h.get? h'.objs.size with
    | none => rfl
    | some o => exact absurd (Heap.lt_size (k _ _ q)) (Nat.lt_irrefl _))) (by rw [List.size_toArray]; show _ ≤ 2 ^ 24; omega)

def TurnI (gs : Array GenState) (dr : Drawn) (os : OsState) (h₀ : Heap) (L I : Addr) (h₁ : Heap) (J : Heap → (Str → Option Value) → Prop) (Q : Flow → Shared → Prop) : Flow → Shared → Prop
  | .ret v, s' => Q (.ret v) s'
  | .brk, s' => Q .next s'
  | _, s' => ∃ h' m' tk', s' = ⟨h', gs, dr, tk', os⟩ ∧ Fr h₀ L h' m' ∧ J h' m' ∧ ∀ o, h₁.get? I = some o → h'.get? I = some o
theorem for_str_core {x : List Nat} {o : Obj} {St : Nat → Heap → Prop} {c : Str} {px : Pos} {body : List Stmt} {Q : Flow → Shared → Prop} (Inv : Nat → Heap → (Str → Option Value) → Prop) (W : Walks prog w A h.objs.size [h.objs.size] [h.objs.size] x.length (SignAt (S x)) St) (st0 : St 0 (h.push o)) (hSt : ∀ i h', St i h' → ∃ o, h'.get? h.objs.size = some o) (e : EnvIs env L ks cl) (hc : ks.lookup c = some .local) (F : Fr h₀ L h m)
    (hI : ∀ h', Ext h h' → Inv 0 h' m) (stable : ∀ i h₁ h₂ m₁, Inv i h₁ m₁ → Off [L, h.objs.size] h₁ h₂ → Inv i h₂ m₁)
    (turn : ∀ i v u h₁ m₁ tk₁, x[i]? = some v → (∃ o, h₁.get? h.objs.size = some o) → Inv i h₁ m₁ → Fr h₀ L h₁ (upd m₁ c (.str (S [v]) u)) → wpAny (model prog w) A (execs body env) (TurnI gs dr os h₀ L h.objs.size h₁ (Inv (i + 1)) Q) NoE ⟨h₁, gs, dr, tk₁, os⟩)
    (done : ∀ h₁ m₁ tk₁, Fr h₀ L h₁ m₁ → Inv x.length h₁ m₁ → Q .next ⟨h₁, gs, dr, tk₁, os⟩) :
    codeAny (model prog w) A (.forLoop (.Name c px) (.ref h.objs.size) body [] env) (fun r s' => match r with | .ok f => Q f s' | .error e => cameBackBy (model prog w) A env E e s') ⟨h.push o, gs, dr, tk, os⟩ := by
  have hLI : L ≠ h.objs.size := Nat.ne_of_lt F.ns.lt
  have hI0 : h₀.get? h.objs.size = none := next_is_new F
  have never : ∀ {α : Type} {t : Sem α} {Q' : α → Shared → Prop} {s : Shared} {N : Value → Shared → Prop}, wpAny (model prog w) A t Q' NoE s → wpAny (model prog w) A t Q' N s := fun hh => wpAny_noRaise hh
  refine codeAny_forLoop (fun k s' => ∃ i h₁ m₁ tk₁, s' = ⟨h₁, gs, dr, tk₁, os⟩ ∧ i ≤ x.length ∧ k = x.length - i ∧ St i h₁ ∧ Fr h₀ L h₁ m₁ ∧ Inv i h₁ m₁) ?_ x.length ⟨0, _, m, tk, rfl, Nat.zero_le _, rfl, st0, F.push _, hI _ fun p o q => Heap.get?_push_of_some _ q⟩
  rintro k s' ⟨i, h₁, m₁, tk₁, rfl, hi, rfl, hst₁, F₁, I₁⟩
  have step : ∀ h₂ : Heap, (∀ b o, b ∉ [h.objs.size] → h₁.get? b = some o → h₂.get? b = some o) → Fr h₀ L h₂ m₁ ∧ Inv i h₂ m₁ := fun h₂ hk =>
    ⟨⟨F₁.ns.at' fun o q => hk L o (fun hm => hLI (List.mem_singleton.mp hm)) q, fun b o q => hk b o (fun hm => by rw [List.mem_singleton.mp hm, hI0] at q; cases q) (F₁.keep b o q), F₁.above⟩,
      stable i h₁ h₂ m₁ I₁ fun b o hb q => hk b o (fun hm => hb (.tail _ hm)) q⟩
  rcases Nat.lt_or_ge i x.length with hlt | hge
  · refine W.item i _ _ _ hlt hst₁ fun v h₂ tk₂ hP hst₂ hk₂ => ?_
    obtain ⟨F₂, I₂⟩ := step h₂ hk₂
    obtain ⟨cc, u, hcc, rfl⟩ := hP
    refine wpAny_assign_Name (wpAny_storeName_local (m := m₁) (by show env.scope.names.lookup c = _; rw [e.names]; exact hc) (by rw [e.loc]; exact F₂.ns) (fun h₃ hn hs => ?_) (by rw [e.kind]; rfl))
    rw [e.loc] at hn hs
    refine wpAny_mono (never (turn i cc u h₃ m₁ _ (by simpa [S] using hcc) (by obtain ⟨oo, q⟩ := hSt _ _ hst₂; exact ⟨oo, hs.extBut _ _ (Ne.symm hLI) q⟩) (stable i h₂ h₃ m₁ I₂ (same_off hs (.head _))) (F₂.set hn hs))) (fun fl s₄ h₄ => ?_) fun _ _ q => q
    have fin : (∃ h' m' tk', s₄ = ⟨h', gs, dr, tk', os⟩ ∧ Fr h₀ L h' m' ∧ Inv (i + 1) h' m' ∧ ∀ o, h₃.get? h.objs.size = some o → h'.get? h.objs.size = some o) → ∃ k', k' < x.length - i ∧ ∃ i h₁ m₁ tk₁, s₄ = ⟨h₁, gs, dr, tk₁, os⟩ ∧ i ≤ x.length ∧ k' = x.length - i ∧ St i h₁ ∧ Fr h₀ L h₁ m₁ ∧ Inv i h₁ m₁ := by
      rintro ⟨h', m', tk', rfl, F', I', O'⟩
      refine ⟨x.length - (i + 1), by omega, i + 1, h', m', tk', rfl, hlt, rfl, ?_, F', I'⟩
      exact W.frame _ _ _ hst₂ fun b hb o q => by rw [List.mem_singleton.mp hb] at q ⊢; exact O' o (hs.extBut _ o (Ne.symm hLI) q)
    cases fl with
    | next => exact fin h₄
    | cont => exact fin h₄
    | brk => exact h₄
    | ret v => exact h₄
  · have : i = x.length := by omega
    subst this
    refine W.done _ _ _ hst₁ fun h₂ tk₂ hk₂ => ?_
    obtain ⟨F₂, I₂⟩ := step h₂ hk₂
    exact wpAny_execs_nil (done h₂ m₁ tk₂ F₂ I₂)
/-- a loop over a text's signs -/
theorem for_str {x : List Nat} {t : Tok} {c : Str} {px : Pos} {body : List Stmt} {Q : Flow → Shared → Prop} (Inv : Nat → Heap → (Str → Option Value) → Prop) (rm : Room 0 A) (e : EnvIs env L ks cl) (hc : ks.lookup c = some .local) (F : Fr h₀ L h m)
    (hI : ∀ h', Ext h h' → Inv 0 h' m) (stable : ∀ i h₁ h₂ m₁, Inv i h₁ m₁ → Off [L, h.objs.size] h₁ h₂ → Inv i h₂ m₁)
    (turn : ∀ i v u h₁ m₁ tk₁, x[i]? = some v → (∃ o, h₁.get? h.objs.size = some o) → Inv i h₁ m₁ → Fr h₀ L h₁ (upd m₁ c (.str (S [v]) u)) → wpAny (model prog w) A (execs body env) (TurnI gs dr os h₀ L h.objs.size h₁ (Inv (i + 1)) Q) NoE ⟨h₁, gs, dr, tk₁, os⟩)
    (done : ∀ h₁ m₁ tk₁, Fr h₀ L h₁ m₁ → Inv x.length h₁ m₁ → Q .next ⟨h₁, gs, dr, tk₁, os⟩) :
    wpAny (model prog w) A (pyIter (.str (S x) t)) (fun it s₂ => codeAny (model prog w) A (.forLoop (.Name c px) it body [] env) (fun r s' => match r with | .ok f => Q f s' | .error e => cameBackBy (model prog w) A env E e s') s₂) E ⟨h, gs, dr, tk, os⟩ := by
  have hn : (S x).cps.size = x.length := by show x.toArray.size = _; rw [List.size_toArray]
  cases ha : (S x).cps.all (· < 128)
  · have W := Walks.strWide (prog := prog) (w := w) rm.hd h.objs.size (S x) t
    rw [hn] at W
    exact wpAny_pyIter_wide ha (for_str_core Inv W ⟨_, Heap.get?_push_size _ rfl, rfl, rfl⟩ (fun i h' st => by obtain ⟨o, q, _⟩ := st; exact ⟨o, q⟩) e hc F hI stable turn done)
  · have W := Walks.strAscii (prog := prog) (w := w) rm.hd h.objs.size (S x) t
    rw [hn] at W
    exact wpAny_pyIter_ascii ha (for_str_core Inv W ⟨_, Heap.get?_push_size _ rfl, rfl, rfl⟩ (fun i h' st => by obtain ⟨o, q, _⟩ := st; exact ⟨o, q⟩) e hc F hI stable turn done)
end

end Mine
end

namespace Mine
set_option maxHeartbeats 4000000
local macro_rules | `(tactic| walk_at "kd") => `(tactic| first | assumption | ((with_reducible refine' kd_s ?k1 ?k2 ?_); (case k1 => assumption); (case k2 => assumption); walk_at "kd") | ((with_reducible refine' kd_x ?k1 ?_); (case k1 => assumption); walk_at "kd"))
local macro_rules | `(tactic| walk_at "lk") => `(tactic| first | with_reducible assumption | with_reducible exact upd_eq | ((with_reducible refine' upd_ne ?k1 ?_); (case k1 => decide +kernel); walk_at "lk"))
local macro_rules | `(tactic| walk_at "len") => `(tactic| first | omega | (simp only [List.length_append, List.length_cons, List.length_nil, List.length_flatten, List.length_replicate, List.length_drop, List.length_take] at *; omega) | decide | (simp; done) | (simp; omega))
local macro_rules | `(tactic| walk_at "m") => `(tactic| first
  | ((with_reducible refine' x_assign ?k1 ?_); (case k1 => rfl))
  | (with_reducible refine x_nil ?_)
  | (with_reducible refine x_if_ret ?_)
  | (with_reducible refine x_ret ?_)
  | (with_reducible refine wpAny_BinOp ?_)
  | ((with_reducible refine' fn_go ?k1 ?_); (case k1 => assumption))
  | ((with_reducible refine' r_postcut ?k1 ?k2 ?k3 ?k4 ?k5 ?k6 ?k7 ?k8 ?k9 ?_); (case k1 => assumption); (case k2 => assumption); (case k3 => kernel_rfl!); (case k4 => kernel_rfl!); (case k5 => walk_at "lk"); (case k6 => walk_at "lk"); (case k7 => kernel_rfl!); (case k8 => kernel_rfl!); (case k9 => walk_at "len"); intro _ _ _ xk'; have := Fr.keeps (by assumption) xk')
  | ((with_reducible refine' r_cut ?k1 ?_); (case k1 => intro _ _; rfl))
  | (with_reducible refine Subscript_ ?_)
  | ((with_reducible refine' wpAny_isTrue_Compare1 ?_ ?k1); (case k1 => rfl))
  | ((with_reducible refine' wpAny_Compare1 ?_ ?k1); (case k1 => rfl))
  | ((with_reducible refine' isTrue_plain ?_ ?k1); (case k1 => rfl))
  | ((with_reducible refine' go_from ?k1 ?_); (case k1 => walk_at "len"); intro _ _ _ xk'; have := Fr.keeps (by assumption) xk')
  | ((with_reducible refine' go_all ?k1 ?_); (case k1 => walk_at "len"); intro _ _ _ xk'; have := Fr.keeps (by assumption) xk')
  | (with_reducible refine IfExp_ ?_)
  | (with_reducible refine Tuple_ ?_)
  | (with_reducible refine List_ ?_)
  | ((with_reducible refine' x_splmore ?k1 ?_); (case k1 => rfl))
  | (with_reducible refine x_splnone ?_)
  | (with_reducible refine Attribute_name ?_)
  | (with_reducible refine x_if1 ?_)
  | ((with_reducible refine r_int ?_); intro _ _)
  | ((with_reducible refine' r_lit ?k1 ?_); (case k1 => with_reducible first | exact lit_crlf | exact lit_dot | exact lit_empty); intro _ _)
  | ((with_reducible refine' r_loc ?k1 ?k2 ?k3 ?k4 ?k5 ?_); (case k1 => assumption); (case k2 => assumption); (case k3 => kernel_rfl!); (case k4 => walk_at "lk"); (case k5 => kernel_rfl!))
  | ((with_reducible refine' r_bui ?k1 ?k2 ?k3 ?k4 ?k5 ?k6 ?k7 ?k8 ?_); (case k1 => assumption); (case k2 => assumption); (case k3 => assumption); (case k4 => kernel_rfl!); (case k5 => k_is); (case k6 => with_reducible first | exact bb_len | exact bb_max | exact bb_range); (case k7 => decide +kernel); (case k8 => kernel_rfl!))
  | ((with_reducible refine' r_glob ?k1 ?k2 ?k3 ?k4 ?k5 ?k6 ?_); (case k1 => assumption); (case k2 => assumption); (case k3 => assumption); (case k4 => kernel_rfl!); (case k5 => k_is); (case k6 => kernel_rfl!))
  | ((with_reducible refine' r_store ?k1 ?k2 ?k3 ?_); (case k1 => assumption); (case k2 => assumption); (case k3 => kernel_rfl!); intro _ _ _ _)
  | ((with_reducible refine' r_titem ?k1 ?k2 ?k3 ?k4 ?k5 ?k6 ?k7 ?_); (case k1 => assumption); (case k2 => assumption); (case k3 => rfl); (case k4 => rfl); (case k5 => decide); (case k6 => decide); (case k7 => with_unfolding_all rfl))
  | ((with_reducible refine' r_call ?k1 ?_); (case k1 => rfl))
  | ((with_reducible refine' c_b1 ?k1 ?_); (case k1 => rfl))
  | ((with_reducible refine' c_b2 ?k1 ?_); (case k1 => rfl))
  | ((with_reducible refine' c_t1 ?k1 ?_); (case k1 => rfl))
  | ((with_reducible refine' c_t2 ?k1 ?_); (case k1 => rfl))
  | ((with_reducible refine' c_f1 ?k0 ?k1 ?k2 ?k3 ?_); (case k0 => assumption); (case k1 => assumption); (case k2 => k_is); (case k3 => rfl))
  | ((with_reducible refine' c_f2 ?k0 ?k1 ?k2 ?k3 ?_); (case k0 => assumption); (case k1 => assumption); (case k2 => k_is); (case k3 => rfl))
  | ((with_reducible refine' c_f3 ?k0 ?k1 ?k2 ?k3 ?_); (case k0 => assumption); (case k1 => assumption); (case k2 => k_is); (case k3 => rfl))
  | ((with_reducible refine r_add ?_); intro _ _)
  | ((with_reducible refine r_subi ?_); intro _ _)
  | ((with_reducible refine' r_mul ?k1 ?_); (case k1 => first | decide | omega); intro _ _)
  | ((with_reducible refine' r_mod ?k1 ?_); (case k1 => first | decide | omega); intro _ _)
  | ((with_reducible refine' r_max ?k1 ?_); (case k1 => assumption); intro _ _ _ hk'; have := Fr.keeps (by assumption) hk')
  | ((with_reducible refine' r_min ?k1 ?_); (case k1 => assumption); intro _ _ _ hk'; have := Fr.keeps (by assumption) hk')
  | (with_reducible refine r_le ?_)
  | (with_reducible refine r_ge ?_)
  | (with_reducible refine r_seq ?_)
  | ((with_reducible refine' r_sadd ?k1 ?_); (case k1 => walk_at "len"); intro _ _)
  | ((with_reducible refine r_range1 ?_); intro _ _ _ _ _ _ xk' _; have := Fr.keeps (by assumption) xk')
  | ((with_reducible refine r_range2 ?_); intro _ _ _ _ _ _ xk' _; have := Fr.keeps (by assumption) xk')
  | ((with_reducible refine' r_range3 ?k1 ?k2 ?_); (case k1 => decide); (case k2 => omega); intro _ _ _ _ _ _ xk' _; have := Fr.keeps (by assumption) xk')
  | ((with_reducible refine' r_newTuple ?k1 ?_); (case k1 => walk_at "len"); intro _ _ xk' _ _; have := Fr.keeps (by assumption) xk')
  | ((with_reducible refine' r_newList ?k1 ?_); (case k1 => walk_at "len"); intro _ _ xk' pl' _ _; have := Fr.keeps (by assumption) xk'; have := Heap.PlainList.isList pl')
  | (with_reducible refine r_truth ?_))
theorem filled : (∀ P, Mine.hd.heap_39 P = Mine.hd.heap_39 P) ∧ PySem.Challenge.rw_pe0213_01 = PySem.Challenge.rw_pe0213_01 := by k_fill; exact ⟨fun _ => rfl, rfl⟩
section
structure Row where
  t : Int
  b : Int
  w : List Nat
  e : List Nat
structure RowOk (r : Row) : Prop where
  t0 : 0 ≤ r.t
  t4 : r.t ≤ 4
  b0 : 0 ≤ r.b
  b4 : r.b ≤ 4
  hw : r.w = [46] ∨ r.w = [97] ∨ r.w = [46, 46] ∨ r.w = [97, 46]
  he : r.e = [10] ∨ r.e = [13] ∨ r.e = [13, 10]
def rowD (r : Row) : PyData := .tuple [.int r.t, .int r.b, .str (S r.w), .str (S r.e)]
theorem row_inv {h : Heap} {v : Value} {r : Row} (x : Is h v (rowD r)) : ∃ a t0 t1 t2 t3, v = .ref a ∧ IsTup h a [Value.int r.t t0, .int r.b t1, .str (S r.w) t2, .str (S r.e) t3].toArray := by
  obtain ⟨a, vs, rfl, ht, hi⟩ := x.tup_inv
  cases hi with
  | cons x0 hi => cases hi with
    | cons x1 hi => cases hi with
      | cons x2 hi => cases hi with
        | cons x3 hi =>
          cases hi
          cases x0; cases x1; cases x2; cases x3
          exact ⟨a, _, _, _, _, rfl, ht⟩
def wayOf (p q : Row) (c : Int) : Int :=
  if (p.t - q.t) * (p.b - q.b) ≥ 0 then 2 * (((p.t - q.t).natAbs : Int) + (p.b - q.b).natAbs) else
  if 2 * max ((p.t - q.t).natAbs : Int) (p.b - q.b).natAbs ≤ c then 2 * max ((p.t - q.t).natAbs : Int) (p.b - q.b).natAbs else c + 1

section
variable {prog : Program} {w : World} {mg mb : Str → Option Value} {A : Around} {E : Value → Shared → Prop} {gs : Array GenState} {dr : Drawn} {tk : Nat} {os : OsState} {h : Heap}
theorem f_way {p q : Row} {u v : Value} {c : Int} {t : Tok} {Q : Value → Shared → Prop} (g : G w mg mb h) (r : Room 3 A) (hp : Is h u (rowD p)) (hq : Is h v (rowD q)) (kp : RowOk p) (kq : RowOk q)
    (hQ : ∀ t' h' tk', Ext h h' → Q (.int (wayOf p q c) t') ⟨h', gs, dr, tk', os⟩) : wpAny (model prog w) A (call (.ref 170) [u, v, .int c t]) Q E ⟨h, gs, dr, tk, os⟩ := by
  obtain ⟨a, t0, t1, t2, t3, rfl, ha⟩ := row_inv hp
  obtain ⟨b, t4, t5, t6, t7, rfl, hb⟩ := row_inv hq
  have p1 := kp.t0; have p2 := kp.t4; have p3 := kp.b0; have p4 := kp.b4
  have q1 := kq.t0; have q2 := kq.t4; have q3 := kq.b0; have q4 := kq.b4
  refine enter (P := fun v _ => ∃ t', v = .int (wayOf p q c) t') (binds := [(Str.ofString "one", .ref a), (Str.ofString "two", .ref b), (Str.ofString "bound", .int c t)]) g r
    (by show (Mine.hd.heap_39 w.params).lookup 170 = _; k_is) (by kernel_rfl) rfl rfl rfl rfl (by rfl) (by rfl) (by rfl) rfl rfl rfl ?_ ?_
  · intro A' env L h₁ tk₁ r' e F g₁ x₁
    dsimp only at e
    generalize hm : (fun x => List.lookup x ([(Str.ofString "one", Value.ref a), (Str.ofString "two", .ref b), (Str.ofString "bound", .int c t)].reverse)) = m at F
    have m1 : m (Str.ofString "one") = some (.ref a) := by rw [← hm]; rfl
    have m2 : m (Str.ofString "two") = some (.ref b) := by rw [← hm]; rfl
    have m3 : m (Str.ofString "bound") = some (.int c t) := by rw [← hm]; rfl
    clear hm
    have r0 := r'.less (Nat.zero_le _)
    repeat (first | ((with_reducible refine r_abs ?_); intro _ _) | ((with_reducible refine' r_bui ?k1 ?k2 ?k3 ?k4 ?k5 ?k6 ?k7 ?k8 ?_); (case k1 => assumption); (case k2 => assumption); (case k3 => assumption); (case k4 => kernel_rfl!); (case k5 => k_is); (case k6 => with_reducible exact bb_abs); (case k7 => decide +kernel); (case k8 => kernel_rfl!)) | walk_at "m")
    refine r_ite (fun hc => ?_) (fun hc => ?_)
    · repeat (first | ((with_reducible refine r_abs ?_); intro _ _) | ((with_reducible refine' r_bui ?k1 ?k2 ?k3 ?k4 ?k5 ?k6 ?k7 ?k8 ?_); (case k1 => assumption); (case k2 => assumption); (case k3 => assumption); (case k4 => kernel_rfl!); (case k5 => k_is); (case k6 => with_reducible exact bb_abs); (case k7 => decide +kernel); (case k8 => kernel_rfl!)) | walk_at "m")
      exact ⟨_, _, rfl, Fr.keep (by assumption), _, by rw [wayOf, if_pos hc]⟩
    · repeat (first | ((with_reducible refine r_abs ?_); intro _ _) | ((with_reducible refine' r_bui ?k1 ?k2 ?k3 ?k4 ?k5 ?k6 ?k7 ?k8 ?_); (case k1 => assumption); (case k2 => assumption); (case k3 => assumption); (case k4 => kernel_rfl!); (case k5 => k_is); (case k6 => with_reducible exact bb_abs); (case k7 => decide +kernel); (case k8 => kernel_rfl!)) | walk_at "m")
      refine r_ite (fun hc' => ?_) (fun hc' => ?_)
      · repeat (first | ((with_reducible refine r_abs ?_); intro _ _) | ((with_reducible refine' r_bui ?k1 ?k2 ?k3 ?k4 ?k5 ?k6 ?k7 ?k8 ?_); (case k1 => assumption); (case k2 => assumption); (case k3 => assumption); (case k4 => kernel_rfl!); (case k5 => k_is); (case k6 => with_reducible exact bb_abs); (case k7 => decide +kernel); (case k8 => kernel_rfl!)) | walk_at "m")
        exact ⟨_, _, rfl, Fr.keep (by assumption), _, by rw [wayOf, if_neg hc, if_pos hc']⟩
      · repeat (first | ((with_reducible refine r_abs ?_); intro _ _) | ((with_reducible refine' r_bui ?k1 ?k2 ?k3 ?k4 ?k5 ?k6 ?k7 ?k8 ?_); (case k1 => assumption); (case k2 => assumption); (case k3 => assumption); (case k4 => kernel_rfl!); (case k5 => k_is); (case k6 => with_reducible exact bb_abs); (case k7 => decide +kernel); (case k8 => kernel_rfl!)) | walk_at "m")
        exact ⟨_, _, rfl, Fr.keep (by assumption), _, by rw [wayOf, if_neg hc, if_neg hc']⟩
  · rintro v h' tk' k ⟨t', rfl⟩
    exact hQ t' h' tk' k

theorem pickS {α : Type} (f : α → List Nat) : ∀ (l : List (α × Tok)) (k : Nat) (x : α), (l.map (·.1))[k]? = some x → ∃ t, (l.map fun p => Value.str (S (f p.1)) p.2)[k]? = some (.str (S (f x)) t)
  | [], _, _, e => by simp at e
  | p :: l, 0, x, e => by simp at e; exact ⟨p.2, by simp [e]⟩
  | p :: l, k + 1, x, e => by simpa using pickS f l k x (by simpa using e)

def words : List (List Nat) := [[46], [97], [46, 46], [97, 46]]
def eols : List (List Nat) := [[10], [13], [13, 10]]
def rowOf (d : Int) : Row := ⟨d.fmod 5, (d.fdiv 5).fmod 5, words.getD ((d.fdiv 25).fmod 4).toNat [46], eols.getD ((d.fdiv 100).fmod 3).toNat [10]⟩
theorem fm (a : Int) {b : Int} (hb : 0 < b) : 0 ≤ a.fmod b ∧ a.fmod b < b := ⟨Int.fmod_nonneg_of_pos a hb, Int.fmod_lt_of_pos a hb⟩
theorem rowOk (d : Int) : RowOk (rowOf d) := by
  have h1 := fm d (b := 5) (by decide)
  have h2 := fm (d.fdiv 5) (b := 5) (by decide)
  have h3 := fm (d.fdiv 25) (b := 4) (by decide)
  have h4 := fm (d.fdiv 100) (b := 3) (by decide)
  refine ⟨h1.1, by show d.fmod 5 ≤ 4; omega, h2.1, by show (d.fdiv 5).fmod 5 ≤ 4; omega, ?_, ?_⟩
  · show words.getD ((d.fdiv 25).fmod 4).toNat [46] = [46] ∨ words.getD ((d.fdiv 25).fmod 4).toNat [46] = [97] ∨ words.getD ((d.fdiv 25).fmod 4).toNat [46] = [46, 46] ∨ words.getD ((d.fdiv 25).fmod 4).toNat [46] = [97, 46]
    have : ((d.fdiv 25).fmod 4).toNat < 4 := by omega
    generalize ((d.fdiv 25).fmod 4).toNat = n at this ⊢
    obtain rfl | rfl | rfl | rfl : n = 0 ∨ n = 1 ∨ n = 2 ∨ n = 3 := by omega
    all_goals decide
  · show eols.getD ((d.fdiv 100).fmod 3).toNat [10] = [10] ∨ eols.getD ((d.fdiv 100).fmod 3).toNat [10] = [13] ∨ eols.getD ((d.fdiv 100).fmod 3).toNat [10] = [13, 10]
    have : ((d.fdiv 100).fmod 3).toNat < 3 := by omega
    generalize ((d.fdiv 100).fmod 3).toNat = n at this ⊢
    obtain rfl | rfl | rfl : n = 0 ∨ n = 1 ∨ n = 2 := by omega
    all_goals decide
end
end

section
section
variable {prog : Program} {w : World} {mg mb : Str → Option Value} {A : Around} {E : Value → Shared → Prop} {gs : Array GenState} {dr : Drawn} {tk : Nat} {os : OsState} {h : Heap}

theorem pick4 {k : Int} {t0 t1 t2 t3 : Tok} (h : 0 ≤ k ∧ k < 4) : ∃ t, [Value.str (S [46]) t0, .str (S [97]) t1, .str (S [46, 46]) t2, .str (S [97, 46]) t3][k.toNat]? = some (.str (S (words.getD k.toNat [46])) t) := by
  obtain rfl | rfl | rfl | rfl : k = 0 ∨ k = 1 ∨ k = 2 ∨ k = 3 := by omega
  all_goals exact ⟨_, rfl⟩
theorem pick3 {k : Int} {t0 t1 t2 : Tok} (h : 0 ≤ k ∧ k < 3) : ∃ t, [Value.str (S [10]) t0, .str (S [13]) t1, .str (S [13, 10]) t2][k.toNat]? = some (.str (S (eols.getD k.toNat [10])) t) := by
  obtain rfl | rfl | rfl : k = 0 ∨ k = 1 ∨ k = 2 := by omega
  all_goals exact ⟨_, rfl⟩
theorem f_row {d : Int} {t : Tok} {Q : Value → Shared → Prop} (g : G w mg mb h) (r : Room 2 A) (hd : 0 ≤ d ∧ d < 1000)
    (hQ : ∀ v h' tk', Ext h h' → Is h' v (rowD (rowOf d)) → Q v ⟨h', gs, dr, tk', os⟩) : wpAny (model prog w) A (call (.ref 142) [.int d t]) Q E ⟨h, gs, dr, tk, os⟩ := by
  refine enter (P := fun v h' => Is h' v (rowD (rowOf d))) (binds := [(Str.ofString "d", .int d t)]) g r
    (by show (Mine.hd.heap_39 w.params).lookup 142 = _; k_is) (by kernel_rfl) rfl rfl rfl rfl (by rfl) (by rfl) (by rfl) rfl rfl rfl ?_ hQ
  intro A' env L h₁ tk₁ r' e F g₁ x₁
  dsimp only at e
  generalize hm : (fun x => List.lookup x ([(Str.ofString "d", Value.int d t)].reverse)) = m at F
  have m1 : m (Str.ofString "d") = some (.int d t) := by rw [← hm]; rfl
  clear hm
  have d1 := fm (d.fdiv 25) (b := 4) (by decide)
  have d2 := fm (d.fdiv 100) (b := 3) (by decide)
  repeat (first | (with_reducible refine r_bool ?_) | ((with_reducible refine' r_div ?k1 ?k2 ?_); (case k1 => first | decide | omega); (case k2 => omega); intro _ _) | (with_reducible refine r_gt ?_) | (with_reducible refine r_eqi ?_) | ((with_reducible refine' r_smul1 ?k1 ?_); (case k1 => first | decide | omega); intro _ _) | ((with_reducible refine' r_lit ?k1 ?_); (case k1 => with_reducible first | exact lit_tab | exact lit_blank | exact lit_dot | exact lit_crlf | exact lit_empty | exact lit_dots | exact lit_a | exact lit_ad | exact lit_lf | exact lit_cr); intro _ _) | walk_at "m")
  refine r_litemS (words.getD ((d.fdiv 25).fmod 4).toNat [46]) (by assumption) (by omega) (pick4 d1) rfl ?_
  intro tw
  repeat (first | (with_reducible refine r_bool ?_) | ((with_reducible refine' r_div ?k1 ?k2 ?_); (case k1 => first | decide | omega); (case k2 => omega); intro _ _) | (with_reducible refine r_gt ?_) | (with_reducible refine r_eqi ?_) | ((with_reducible refine' r_smul1 ?k1 ?_); (case k1 => first | decide | omega); intro _ _) | ((with_reducible refine' r_lit ?k1 ?_); (case k1 => with_reducible first | exact lit_tab | exact lit_blank | exact lit_dot | exact lit_crlf | exact lit_empty | exact lit_dots | exact lit_a | exact lit_ad | exact lit_lf | exact lit_cr); intro _ _) | walk_at "m")
  refine r_litemS (eols.getD ((d.fdiv 100).fmod 3).toNat [10]) (by assumption) (by omega) (pick3 d2) rfl ?_
  intro te
  repeat (first | (with_reducible refine r_bool ?_) | ((with_reducible refine' r_div ?k1 ?k2 ?_); (case k1 => first | decide | omega); (case k2 => omega); intro _ _) | (with_reducible refine r_gt ?_) | (with_reducible refine r_eqi ?_) | ((with_reducible refine' r_smul1 ?k1 ?_); (case k1 => first | decide | omega); intro _ _) | ((with_reducible refine' r_lit ?k1 ?_); (case k1 => with_reducible first | exact lit_tab | exact lit_blank | exact lit_dot | exact lit_crlf | exact lit_empty | exact lit_dots | exact lit_a | exact lit_ad | exact lit_lf | exact lit_cr); intro _ _) | walk_at "m")
  rename_i hT _ FF
  obtain ⟨o, e1, e2, n, e3⟩ := hT
  exact ⟨_, _, rfl, FF.keep, .tup e1 e2 e3 (.cons (.int _ _) (.cons (.int _ _) (.cons (.str _ _) (.cons (.str _ _) .nil))))⟩

def writtenL (r : Row) : List Nat := List.replicate r.t.toNat 9 ++ List.replicate r.b.toNat 32 ++ r.w
theorem wlen {r : Row} (k : RowOk r) : 1 ≤ r.w.length ∧ r.w.length ≤ 2 := by
  rcases k.hw with h | h | h | h <;> rw [h] <;> decide
theorem f_written {p : Row} {u : Value} {Q : Value → Shared → Prop} (g : G w mg mb h) (r : Room 2 A) (hp : Is h u (rowD p)) (kp : RowOk p)
    (hQ : ∀ t' h' tk', Ext h h' → Q (.str (S (writtenL p)) t') ⟨h', gs, dr, tk', os⟩) : wpAny (model prog w) A (call (.ref 149) [u]) Q E ⟨h, gs, dr, tk, os⟩ := by
  obtain ⟨a, t0, t1, t2, t3, rfl, ha⟩ := row_inv hp
  have p1 := kp.t0; have p2 := kp.t4; have p3 := kp.b0; have p4 := kp.b4
  have wl := wlen kp
  refine enter (P := fun v _ => ∃ t', v = .str (S (writtenL p)) t') (binds := [(Str.ofString "row", .ref a)]) g r
    (by show (Mine.hd.heap_39 w.params).lookup 149 = _; k_is) (by kernel_rfl) rfl rfl rfl rfl (by rfl) (by rfl) (by rfl) rfl rfl rfl ?_ ?_
  · intro A' env L h₁ tk₁ r' e F g₁ x₁
    dsimp only at e
    generalize hm : (fun x => List.lookup x ([(Str.ofString "row", Value.ref a)].reverse)) = m at F
    have m1 : m (Str.ofString "row") = some (.ref a) := by rw [← hm]; rfl
    clear hm
    repeat (first | (with_reducible refine r_bool ?_) | ((with_reducible refine' r_div ?k1 ?k2 ?_); (case k1 => first | decide | omega); (case k2 => omega); intro _ _) | (with_reducible refine r_gt ?_) | (with_reducible refine r_eqi ?_) | ((with_reducible refine' r_smul1 ?k1 ?_); (case k1 => first | decide | omega); intro _ _) | ((with_reducible refine' r_lit ?k1 ?_); (case k1 => with_reducible first | exact lit_tab | exact lit_blank | exact lit_dot | exact lit_crlf | exact lit_empty | exact lit_dots | exact lit_a | exact lit_ad | exact lit_lf | exact lit_cr); intro _ _) | walk_at "m")
    exact ⟨_, _, rfl, F.keep, _, rfl⟩
  · rintro v h' tk' k ⟨t', rfl⟩
    exact hQ t' h' tk' k

def hasDot (r : Row) : Bool := decide (r.t + r.b = 0) && decide (r.w.head? = some 46)
theorem f_hasdot {p : Row} {u : Value} {Q : Value → Shared → Prop} (g : G w mg mb h) (r : Room 2 A) (hp : Is h u (rowD p)) (kp : RowOk p)
    (hQ : ∀ h' tk', Ext h h' → Q (.bool (hasDot p)) ⟨h', gs, dr, tk', os⟩) : wpAny (model prog w) A (call (.ref 156) [u]) Q E ⟨h, gs, dr, tk, os⟩ := by
  obtain ⟨a, t0, t1, t2, t3, rfl, ha⟩ := row_inv hp
  have p1 := kp.t0; have p2 := kp.t4; have p3 := kp.b0; have p4 := kp.b4
  have wl := wlen kp
  refine enter (P := fun v _ => v = .bool (hasDot p)) (binds := [(Str.ofString "row", .ref a)]) g r
    (by show (Mine.hd.heap_39 w.params).lookup 156 = _; k_is) (by kernel_rfl) rfl rfl rfl rfl (by rfl) (by rfl) (by rfl) rfl rfl rfl ?_ ?_
  · intro A' env L h₁ tk₁ r' e F g₁ x₁
    dsimp only at e
    generalize hm : (fun x => List.lookup x ([(Str.ofString "row", Value.ref a)].reverse)) = m at F
    have m1 : m (Str.ofString "row") = some (.ref a) := by rw [← hm]; rfl
    clear hm
    repeat (first | (with_reducible refine r_bool ?_) | ((with_reducible refine' r_div ?k1 ?k2 ?_); (case k1 => first | decide | omega); (case k2 => omega); intro _ _) | (with_reducible refine r_gt ?_) | (with_reducible refine r_eqi ?_) | ((with_reducible refine' r_smul1 ?k1 ?_); (case k1 => first | decide | omega); intro _ _) | ((with_reducible refine' r_lit ?k1 ?_); (case k1 => with_reducible first | exact lit_tab | exact lit_blank | exact lit_dot | exact lit_crlf | exact lit_empty | exact lit_dots | exact lit_a | exact lit_ad | exact lit_lf | exact lit_cr); intro _ _) | walk_at "m")
    refine BoolOp_and ?_
    repeat (first | (with_reducible refine r_bool ?_) | ((with_reducible refine' r_div ?k1 ?k2 ?_); (case k1 => first | decide | omega); (case k2 => omega); intro _ _) | (with_reducible refine r_gt ?_) | (with_reducible refine r_eqi ?_) | ((with_reducible refine' r_smul1 ?k1 ?_); (case k1 => first | decide | omega); intro _ _) | ((with_reducible refine' r_lit ?k1 ?_); (case k1 => with_reducible first | exact lit_tab | exact lit_blank | exact lit_dot | exact lit_crlf | exact lit_empty | exact lit_dots | exact lit_a | exact lit_ad | exact lit_lf | exact lit_cr); intro _ _) | walk_at "m")
    refine r_ite (fun hc => ?_) (fun hc => ?_)
    · refine BoolOp_one ?_
      repeat (first | (with_reducible refine r_bool ?_) | ((with_reducible refine' r_div ?k1 ?k2 ?_); (case k1 => first | decide | omega); (case k2 => omega); intro _ _) | (with_reducible refine r_gt ?_) | (with_reducible refine r_eqi ?_) | ((with_reducible refine' r_smul1 ?k1 ?_); (case k1 => first | decide | omega); intro _ _) | ((with_reducible refine' r_lit ?k1 ?_); (case k1 => with_reducible first | exact lit_tab | exact lit_blank | exact lit_dot | exact lit_crlf | exact lit_empty | exact lit_dots | exact lit_a | exact lit_ad | exact lit_lf | exact lit_cr); intro _ _) | walk_at "m")
      obtain ⟨c, hc2⟩ : ∃ c, p.w.head? = some c := by
        cases hw : p.w with
        | nil => rw [hw] at wl; simp at wl
        | cons c l => exact ⟨c, rfl⟩
      refine r_sitem (c := c) ?_ (by omega) rfl ?_
      · rw [show seqIndex? 0 p.w.length = some 0 from idx_nat (k := 0) (by omega)]
        cases hw : p.w with
        | nil => rw [hw] at wl; simp at wl
        | cons c l => rw [hw] at hc2; simpa using hc2
      intro _ _
      repeat (first | (with_reducible refine r_bool ?_) | ((with_reducible refine' r_div ?k1 ?k2 ?_); (case k1 => first | decide | omega); (case k2 => omega); intro _ _) | (with_reducible refine r_gt ?_) | (with_reducible refine r_eqi ?_) | ((with_reducible refine' r_smul1 ?k1 ?_); (case k1 => first | decide | omega); intro _ _) | ((with_reducible refine' r_lit ?k1 ?_); (case k1 => with_reducible first | exact lit_tab | exact lit_blank | exact lit_dot | exact lit_crlf | exact lit_empty | exact lit_dots | exact lit_a | exact lit_ad | exact lit_lf | exact lit_cr); intro _ _) | walk_at "m")
      refine ⟨_, _, rfl, F.keep, ?_⟩
      show Value.bool (decide ([c] = [46])) = _
      rw [hasDot, decide_eq_true hc, hc2, Bool.true_and]
      congr 1
      simp
    · refine ⟨_, _, rfl, F.keep, ?_⟩
      show Value.bool (decide (p.t + p.b = 0)) = _
      rw [hasDot, decide_eq_false hc, Bool.false_and]
  · rintro v h' tk' k rfl
    exact hQ h' tk' k

def memD (r : Row) : PyData := .tuple [.int (r.t + r.b), .int r.t, .tuple [.tuple (if r.t > 0 then [.int r.t] else []), .int r.b], .bool true]
theorem f_members {p : Row} {u : Value} {Q : Value → Shared → Prop} (g : G w mg mb h) (r : Room 2 A) (hp : Is h u (rowD p)) (kp : RowOk p)
    (hQ : ∀ v h' tk', Ext h h' → Is h' v (memD p) → Q v ⟨h', gs, dr, tk', os⟩) : wpAny (model prog w) A (call (.ref 163) [u]) Q E ⟨h, gs, dr, tk, os⟩ := by
  obtain ⟨a, t0, t1, t2, t3, rfl, ha⟩ := row_inv hp
  refine enter (P := fun v h' => Is h' v (memD p)) (binds := [(Str.ofString "row", .ref a)]) g r
    (by show (Mine.hd.heap_39 w.params).lookup 163 = _; k_is) (by kernel_rfl) rfl rfl rfl rfl (by rfl) (by rfl) (by rfl) rfl rfl rfl ?_ hQ
  intro A' env L h₁ tk₁ r' e F g₁ x₁
  dsimp only at e
  generalize hm : (fun x => List.lookup x ([(Str.ofString "row", Value.ref a)].reverse)) = m at F
  have m1 : m (Str.ofString "row") = some (.ref a) := by rw [← hm]; rfl
  clear hm
  repeat (first | (with_reducible refine r_bool ?_) | ((with_reducible refine' r_div ?k1 ?k2 ?_); (case k1 => first | decide | omega); (case k2 => omega); intro _ _) | (with_reducible refine r_gt ?_) | (with_reducible refine r_eqi ?_) | ((with_reducible refine' r_smul1 ?k1 ?_); (case k1 => first | decide | omega); intro _ _) | ((with_reducible refine' r_lit ?k1 ?_); (case k1 => with_reducible first | exact lit_tab | exact lit_blank | exact lit_dot | exact lit_crlf | exact lit_empty | exact lit_dots | exact lit_a | exact lit_ad | exact lit_lf | exact lit_cr); intro _ _) | walk_at "m")
  refine r_ite (fun hc => ?_) (fun hc => ?_)
  · repeat (first | (with_reducible refine r_bool ?_) | ((with_reducible refine' r_div ?k1 ?k2 ?_); (case k1 => first | decide | omega); (case k2 => omega); intro _ _) | (with_reducible refine r_gt ?_) | (with_reducible refine r_eqi ?_) | ((with_reducible refine' r_smul1 ?k1 ?_); (case k1 => first | decide | omega); intro _ _) | ((with_reducible refine' r_lit ?k1 ?_); (case k1 => with_reducible first | exact lit_tab | exact lit_blank | exact lit_dot | exact lit_crlf | exact lit_empty | exact lit_dots | exact lit_a | exact lit_ad | exact lit_lf | exact lit_cr); intro _ _) | walk_at "m")
    rename_i a1 h1 x1 i1 l1 F1 h2 tk2 F2 s2 _ _ _ _ _ _ _ _ _ _ a3 h3 x3 i3 l3 F3 a4 h4 x4 i4 l4 F4
    obtain ⟨o1, e11, e12, n1, e13⟩ := i1
    obtain ⟨o3, e31, e32, n3, e33⟩ := i3
    obtain ⟨o4, e41, e42, n4, e43⟩ := i4
    have c1 : Is h1 (.ref a1) (.tuple [.int p.t]) := .tup e11 e12 e13 (.cons (.int _ _) .nil)
    have c3 : Is h3 (.ref a3) (.tuple [.tuple [.int p.t], .int p.b]) := .tup e31 e32 e33 (.two ((c1.sq (sq_same F1.ns s2)).sq x3.sq) (.int _ _))
    refine ⟨_, _, rfl, F4.keep, ?_⟩
    rw [memD, if_pos hc]
    exact .tup e41 e42 e43 (.cons (.int _ _) (.cons (.int _ _) (.cons (c3.sq x4.sq) (.cons (.bool _) .nil))))
  · repeat (first | (with_reducible refine r_bool ?_) | ((with_reducible refine' r_div ?k1 ?k2 ?_); (case k1 => first | decide | omega); (case k2 => omega); intro _ _) | (with_reducible refine r_gt ?_) | (with_reducible refine r_eqi ?_) | ((with_reducible refine' r_smul1 ?k1 ?_); (case k1 => first | decide | omega); intro _ _) | ((with_reducible refine' r_lit ?k1 ?_); (case k1 => with_reducible first | exact lit_tab | exact lit_blank | exact lit_dot | exact lit_crlf | exact lit_empty | exact lit_dots | exact lit_a | exact lit_ad | exact lit_lf | exact lit_cr); intro _ _) | walk_at "m")
    rename_i a1 h1 x1 i1 l1 F1 h2 tk2 F2 s2 _ _ _ _ _ _ _ _ _ _ a3 h3 x3 i3 l3 F3 a4 h4 x4 i4 l4 F4
    obtain ⟨o1, e11, e12, n1, e13⟩ := i1
    obtain ⟨o3, e31, e32, n3, e33⟩ := i3
    obtain ⟨o4, e41, e42, n4, e43⟩ := i4
    have c1 : Is h1 (.ref a1) (.tuple []) := .tup e11 e12 e13 .nil
    have c3 : Is h3 (.ref a3) (.tuple [.tuple [], .int p.b]) := .tup e31 e32 e33 (.two ((c1.sq (sq_same F1.ns s2)).sq x3.sq) (.int _ _))
    refine ⟨_, _, rfl, F4.keep, ?_⟩
    rw [memD, if_neg hc]
    exact .tup e41 e42 e43 (.cons (.int _ _) (.cons (.int _ _) (.cons (c3.sq x4.sq) (.cons (.bool _) .nil))))
end
end

section
section
variable {prog : Program} {w : World} {mg mb : Str → Option Value} {A : Around} {E : Value → Shared → Prop} {gs : Array GenState} {dr : Drawn} {tk : Nat} {os : OsState} {h : Heap}

theorem r_lower {c : Nat} {env : Env} {o : Expr} {apos pos : Pos} {Q : Value → Shared → Prop} {s : Shared} (hc : c = 9 ∨ c = 32) (hbase : attributeBase o (Str.ofString "lower") env (eval o env) = eval o env) (hline : (apos.endLine == pos.line) = true)
    (hQ : wpAny (model prog w) A (eval o env) (fun v s₁ => ∃ t, v = .str (S [c]) t ∧ ∀ t', Q (.str (S [c]) t') { s₁ with toks := s₁.toks + 1 }) E s) :
    wpAny (model prog w) A (eval (.Call (.Attribute o (Str.ofString "lower") apos) [] [] pos) env) Q E s := by
  refine Call_method0 hbase hline (wpAny_mono hQ (fun v s₁ h₁ => ?_) fun _ _ e => e)
  obtain ⟨t, rfl, hq⟩ := h₁
  have e : Txt.lower (S [c]) = S [c] := by rcases hc with rfl | rfl <;> decide +kernel
  exact SB.lower (by rw [e]; rcases hc with rfl | rfl <;> decide) (by rw [e]; exact hq _)

theorem f_subst {c d : Nat} {t u : Tok} {Q : Value → Shared → Prop} (g : G w mg mb h) (r : Room 1 A) (hc : c = 9 ∨ c = 32) (hd : d = 9 ∨ d = 32) (hcd : c ≠ d)
    (hQ : ∀ t' h' tk', Ext h h' → Q (.int 2 t') ⟨h', gs, dr, tk', os⟩) : wpAny (model prog w) A (call (.ref 38) [.str (S [c]) t, .str (S [d]) u]) Q E ⟨h, gs, dr, tk, os⟩ := by
  refine enter (P := fun v _ => ∃ t', v = .int 2 t') (binds := [(Str.ofString "ch_a", .str (S [c]) t), (Str.ofString "ch_b", .str (S [d]) u)]) g r
    (by show (Mine.hd.heap_39 w.params).lookup 38 = _; k_is) (by kernel_rfl) rfl rfl rfl rfl (by rfl) (by rfl) (by rfl) rfl rfl rfl ?_ ?_
  · intro A' env L h₁ tk₁ r' e F g₁ x₁
    dsimp only at e
    generalize hm : (fun x => List.lookup x ([(Str.ofString "ch_a", Value.str (S [c]) t), (Str.ofString "ch_b", .str (S [d]) u)].reverse)) = m at F
    have m1 : m (Str.ofString "ch_a") = some (.str (S [c]) t) := by rw [← hm]; rfl
    have m2 : m (Str.ofString "ch_b") = some (.str (S [d]) u) := by rw [← hm]; rfl
    clear hm
    have ne : ¬ [c] = [d] := fun q => hcd (by simpa using q)
    repeat walk_at "m"
    refine r_ite (fun q => absurd q ne) fun _ => ?_
    repeat walk_at "m"
    refine r_lower hc (by rfl) (by rfl) ?_
    repeat walk_at "m"
    refine ⟨_, rfl, fun _ => ?_⟩
    refine r_lower hd (by rfl) (by rfl) ?_
    dsimp only
    repeat walk_at "m"
    refine ⟨_, rfl, fun _ => ?_⟩
    dsimp only
    repeat walk_at "m"
    refine r_ite (fun q => absurd q ne) fun _ => ?_
    repeat walk_at "m"
    exact ⟨_, _, rfl, F.keep, _, rfl⟩
  · rintro v h' tk' k ⟨t', rfl⟩
    exact hQ t' h' tk' k
end
end

section
def lcp : List Nat → List Nat → Nat
  | x :: xs, y :: ys => if x = y then lcp xs ys + 1 else 0
  | _, _ => 0
theorem lcp_lt : ∀ {a b : List Nat} {k : Nat}, k < lcp a b → ∃ c, a[k]? = some c ∧ b[k]? = some c
  | x :: xs, y :: ys, k, h => by
    unfold lcp at h
    split at h
    · rename_i e
      cases k with
      | zero => exact ⟨x, rfl, by simp [e]⟩
      | succ k => simpa using lcp_lt (a := xs) (b := ys) (k := k) (by omega)
    · omega
  | [], _, k, h => by simp [lcp] at h
  | _ :: _, [], k, h => by simp [lcp] at h
theorem lcp_ge : ∀ {a b : List Nat} {k c : Nat}, k ≤ lcp a b → a[k]? = some c → b[k]? = some c → k < lcp a b
  | x :: xs, y :: ys, k, c, h, ha, hb => by
    unfold lcp at h ⊢
    split at h
    · rename_i e
      rw [if_pos e]
      cases k with
      | zero => omega
      | succ k => have := lcp_ge (a := xs) (b := ys) (k := k) (c := c) (by omega) (by simpa using ha) (by simpa using hb); omega
    · rename_i e
      have : k = 0 := by omega
      subst this
      simp at ha hb
      exact absurd (ha.trans hb.symm) e
  | [], _, k, c, h, ha, hb => by simp at ha
  | _ :: _, [], k, c, h, ha, hb => by simp at hb
theorem lcp_le (a b : List Nat) : lcp a b ≤ a.length ∧ lcp a b ≤ b.length := by
  rcases Nat.eq_zero_or_pos (lcp a b) with h | h
  · omega
  · obtain ⟨c, h1, h2⟩ := lcp_lt (a := a) (b := b) (k := lcp a b - 1) (by omega)
    have h3 := (List.getElem?_eq_some_iff.mp h1).1
    have h4 := (List.getElem?_eq_some_iff.mp h2).1
    omega
def hd1 (a b : List Nat) : List Nat := a.drop (lcp a b)
def tl1 (a b : List Nat) : List Nat := a.take (a.length - lcp a.reverse b.reverse)
def strip (a b : List Nat) : List Nat := tl1 (a.drop (lcp a b)) (b.drop (lcp a b))
def stripB (a b : List Nat) : List Nat := (b.drop (lcp a b)).take ((b.drop (lcp a b)).length - lcp (a.drop (lcp a b)).reverse (b.drop (lcp a b)).reverse)
def levOf (a b : List Nat) (c : Int) : Int :=
  if a = b then 0 else if strip a b = [] ∨ stripB a b = [] then 2 * ((strip a b).length + (stripB a b).length : Int)
  else if 2 * max ((strip a b).length : Int) (stripB a b).length ≤ c then 2 * max ((strip a b).length : Int) (stripB a b).length else c + 1

section
variable {prog : Program} {w : World} {mg mb : Str → Option Value} {A : Around} {E : Value → Shared → Prop} {gs : Array GenState} {dr : Drawn} {tk : Nat} {os : OsState} {h h₀ : Heap} {L : Addr} {m : Str → Option Value} {env : Env}

def Lv (a b : List Nat) (c : Int) (m : Str → Option Value) : Prop := (∃ t, m (Str.ofString "a") = some (.str (S a) t)) ∧ (∃ t, m (Str.ofString "b") = some (.str (S b) t)) ∧ ∃ t, m (Str.ofString "max_cost") = some (.int c t)

theorem lev_step {k j : Nat} {d rr : Int} (e6 : d = 2 * max (k : Int) j) (e7 : k = 0 → rr = 2 * (j : Int)) (e7' : 0 < k → rr = 2 * max (k : Int) (j + 1)) :
    min (min rr (2 * max ((k : Int) + 1) j) + 2) (d + 2) = 2 * max ((k : Int) + 1) (j + 1) := by
  have a1 : max ((k : Int) + 1) (j + 1) = max (k : Int) j + 1 := by
    rcases Int.le_total (k : Int) j with h | h
    · rw [Int.max_eq_right h, Int.max_eq_right (Int.add_le_add_right h 1)]
    · rw [Int.max_eq_left h, Int.max_eq_left (Int.add_le_add_right h 1)]
  have up : ∀ x : Int, x ≤ x + 1 := fun x => Int.le_add_one (Int.le_refl x)
  have a2 : max (k : Int) j ≤ max ((k : Int) + 1) j := Int.max_le.mpr ⟨Int.le_trans (up _) (Int.le_max_left _ _), Int.le_max_right _ _⟩
  have a3 : d ≤ rr := by
    rcases Nat.eq_zero_or_pos k with h | h
    · rw [e6, e7 h, h]
      have : max ((0 : Nat) : Int) j = j := Int.max_eq_right (Int.natCast_nonneg j)
      rw [this]; exact Int.le_refl _
    · rw [e6, e7' h]
      exact Int.mul_le_mul_of_nonneg_left (Int.max_le.mpr ⟨Int.le_max_left _ _, Int.le_trans (up _) (Int.le_max_right _ _)⟩) (by decide)
  rw [a1]
  have a4 : d ≤ 2 * max ((k : Int) + 1) j := by rw [e6]; exact Int.mul_le_mul_of_nonneg_left a2 (by decide)
  have a5 := Int.le_min.mpr ⟨a3, a4⟩
  rw [Int.min_eq_right (Int.add_le_add_right a5 2), e6, Int.mul_add]
  rfl
def RowAt (h : Heap) (D : Addr) (P : Nat) (f : Nat → Int) : Prop := ∃ vs : List Value, h.IsList D vs.toArray ∧ Ints vs P f
theorem RowAt.at {h h' : Heap} {D : Addr} {P : Nat} {f : Nat → Int} (x : RowAt h D P f) (k : ∀ o, h.get? D = some o → h'.get? D = some o) : RowAt h' D P f := by
  obtain ⟨vs, a, b⟩ := x
  exact ⟨vs, list_at a k, b⟩
structure LvI (P R x y : Nat) (c : Int) (D : Addr) (m : Str → Option Value) : Prop where
  la : ∃ t, m (Str.ofString "a") = some (.str (S (List.replicate P x)) t)
  lb : ∃ t, m (Str.ofString "b") = some (.str (S (List.replicate R y)) t)
  lc : ∃ t, m (Str.ofString "max_cost") = some (.int c t)
  lr : m (Str.ofString "row") = some (.ref D)
def OutI (P R x y : Nat) (c : Int) (D : Addr) (j : Nat) (h : Heap) (m : Str → Option Value) : Prop :=
  LvI P R x y c D m ∧ RowAt h D P (fun i => 2 * max ((i : Int) + 1) j) ∧ ∃ r t, m (Str.ofString "result") = some (.int r t) ∧ (0 < j → r = 2 * max (P : Int) j ∧ 2 * (j : Int) ≤ c)
def InI (P R x y : Nat) (c : Int) (D : Addr) (j : Nat) (k : Nat) (h : Heap) (m : Str → Option Value) : Prop :=
  LvI P R x y c D m ∧ RowAt h D P (fun q => if q < k then 2 * max ((q : Int) + 1) (j + 1) else 2 * max ((q : Int) + 1) j) ∧ (∃ t, m (Str.ofString "bchar") = some (.str (S [y]) t)) ∧
  (∃ d t, m (Str.ofString "distance") = some (.int d t) ∧ d = 2 * max (k : Int) j) ∧ (∃ r t, m (Str.ofString "result") = some (.int r t) ∧ (k = 0 → r = 2 * (j : Int)) ∧ (0 < k → r = 2 * max (k : Int) (j + 1))) ∧
  ∃ n t, m (Str.ofString "minimum") = some (.int n t) ∧ (k = 0 → n = 9223372036854775807) ∧ (0 < k → n = 2 * ((j : Int) + 1))

theorem f_lev {a b : List Nat} {c : Int} {t u v : Tok} {Q : Value → Shared → Prop} (g : G w mg mb h) (r : Room 4 A) (ha : a.length ≤ 30) (hb : b.length ≤ 30)
    (hcase : a = b ∨ strip a b = [] ∨ stripB a b = [] ∨ ∃ p q x y, strip a b = List.replicate p x ∧ stripB a b = List.replicate q y ∧ 0 < p ∧ 0 < q ∧ (x = 9 ∨ x = 32) ∧ (y = 9 ∨ y = 32) ∧ x ≠ y)
    (hQ : ∀ t' h' tk', Ext h h' → Q (.int (levOf a b c) t') ⟨h', gs, dr, tk', os⟩) : wpAny (model prog w) A (call (.ref 45) [.str (S a) t, .str (S b) u, .int c v]) Q E ⟨h, gs, dr, tk, os⟩ := by
  refine enter (P := fun v _ => ∃ t', v = .int (levOf a b c) t') (binds := [(Str.ofString "a", .str (S a) t), (Str.ofString "b", .str (S b) u), (Str.ofString "max_cost", .int c v)]) g r
    (by show (Mine.hd.heap_39 w.params).lookup 45 = _; k_is) (by kernel_rfl) rfl rfl rfl rfl (by rfl) (by rfl) (by rfl) rfl rfl rfl ?_ ?_
  · intro A' env L h₁ tk₁ r' e F g₁ x₁
    dsimp only at e
    generalize hm : (fun x => List.lookup x ([(Str.ofString "a", Value.str (S a) t), (Str.ofString "b", .str (S b) u), (Str.ofString "max_cost", .int c v)].reverse)) = m at F
    have m1 : m (Str.ofString "a") = some (.str (S a) t) := by rw [← hm]; rfl
    have m2 : m (Str.ofString "b") = some (.str (S b) u) := by rw [← hm]; rfl
    have m3 : m (Str.ofString "max_cost") = some (.int c v) := by rw [← hm]; rfl
    clear hm
    repeat (first | (with_reducible refine x_aug ?_) | ((with_reducible refine' x_assign2 ?k1 ?_); (case k1 => rfl)) | (with_reducible refine isTrue_not ?_) | (with_reducible refine e_none ?_) | (with_reducible refine e_some ?_) | (with_reducible refine isTrue_and_nil ?_) | (with_reducible refine isTrue_and ?_) | (with_reducible refine isTrue_or_nil ?_) | (with_reducible refine isTrue_or ?_) | ((with_reducible refine' x_splmore ?k1 ?_); (case k1 => rfl)) | (with_reducible refine x_splnone ?_) | ((with_reducible refine' x_setitem ?k1 ?_); (case k1 => rfl)) | (with_reducible refine r_none ?_) | ((with_reducible refine' r_ldn ?k1 ?k2 ?k3 ?k4 ?_); (case k1 => assumption); (case k2 => assumption); (case k3 => kernel_rfl!); (case k4 => walk_at "lk")) | ((with_reducible refine' c_t3 ?k1 ?_); (case k1 => rfl)) | ((with_reducible refine r_iadd ?_); intro _ _) | ((with_reducible refine r_isub ?_); intro _ _) | (with_reducible refine r_lt ?_) | (with_reducible refine r_gt ?_) | ((with_reducible refine' r_strue ?k1 ?_); (case k1 => walk_at "len"); intro _) | ((with_reducible refine' r_slenR ?k1 ?_); (case k1 => first | decide | omega); intro _ _) | ((with_reducible refine' r_slen ?k1 ?_); (case k1 => walk_at "len"); intro _ _) | (with_reducible refine r_itrue ?_) | ((with_reducible refine' r_bui ?k1 ?k2 ?k3 ?k4 ?k5 ?k6 ?k7 ?k8 ?_); (case k1 => assumption); (case k2 => assumption); (case k3 => assumption); (case k4 => kernel_rfl!); (case k5 => k_is); (case k6 => with_reducible first | exact bb_list | exact bb_min); (case k7 => decide +kernel); (case k8 => kernel_rfl!)) | walk_at "m")
    refine r_ite (fun q => ?_) fun hne => ?_
    · repeat (first | (with_reducible refine x_aug ?_) | ((with_reducible refine' x_assign2 ?k1 ?_); (case k1 => rfl)) | (with_reducible refine isTrue_not ?_) | (with_reducible refine e_none ?_) | (with_reducible refine e_some ?_) | (with_reducible refine isTrue_and_nil ?_) | (with_reducible refine isTrue_and ?_) | (with_reducible refine isTrue_or_nil ?_) | (with_reducible refine isTrue_or ?_) | ((with_reducible refine' x_splmore ?k1 ?_); (case k1 => rfl)) | (with_reducible refine x_splnone ?_) | ((with_reducible refine' x_setitem ?k1 ?_); (case k1 => rfl)) | (with_reducible refine r_none ?_) | ((with_reducible refine' r_ldn ?k1 ?k2 ?k3 ?k4 ?_); (case k1 => assumption); (case k2 => assumption); (case k3 => kernel_rfl!); (case k4 => walk_at "lk")) | ((with_reducible refine' c_t3 ?k1 ?_); (case k1 => rfl)) | ((with_reducible refine r_iadd ?_); intro _ _) | ((with_reducible refine r_isub ?_); intro _ _) | (with_reducible refine r_lt ?_) | (with_reducible refine r_gt ?_) | ((with_reducible refine' r_strue ?k1 ?_); (case k1 => walk_at "len"); intro _) | ((with_reducible refine' r_slenR ?k1 ?_); (case k1 => first | decide | omega); intro _ _) | ((with_reducible refine' r_slen ?k1 ?_); (case k1 => walk_at "len"); intro _ _) | (with_reducible refine r_itrue ?_) | ((with_reducible refine' r_bui ?k1 ?k2 ?k3 ?k4 ?k5 ?k6 ?k7 ?k8 ?_); (case k1 => assumption); (case k2 => assumption); (case k3 => assumption); (case k4 => kernel_rfl!); (case k5 => k_is); (case k6 => with_reducible first | exact bb_list | exact bb_min); (case k7 => decide +kernel); (case k8 => kernel_rfl!)) | walk_at "m")
      exact ⟨_, _, rfl, F.keep, _, by rw [levOf, if_pos q]⟩
    repeat (first | (with_reducible refine x_aug ?_) | ((with_reducible refine' x_assign2 ?k1 ?_); (case k1 => rfl)) | (with_reducible refine isTrue_not ?_) | (with_reducible refine e_none ?_) | (with_reducible refine e_some ?_) | (with_reducible refine isTrue_and_nil ?_) | (with_reducible refine isTrue_and ?_) | (with_reducible refine isTrue_or_nil ?_) | (with_reducible refine isTrue_or ?_) | ((with_reducible refine' x_splmore ?k1 ?_); (case k1 => rfl)) | (with_reducible refine x_splnone ?_) | ((with_reducible refine' x_setitem ?k1 ?_); (case k1 => rfl)) | (with_reducible refine r_none ?_) | ((with_reducible refine' r_ldn ?k1 ?k2 ?k3 ?k4 ?_); (case k1 => assumption); (case k2 => assumption); (case k3 => kernel_rfl!); (case k4 => walk_at "lk")) | ((with_reducible refine' c_t3 ?k1 ?_); (case k1 => rfl)) | ((with_reducible refine r_iadd ?_); intro _ _) | ((with_reducible refine r_isub ?_); intro _ _) | (with_reducible refine r_lt ?_) | (with_reducible refine r_gt ?_) | ((with_reducible refine' r_strue ?k1 ?_); (case k1 => walk_at "len"); intro _) | ((with_reducible refine' r_slenR ?k1 ?_); (case k1 => first | decide | omega); intro _ _) | ((with_reducible refine' r_slen ?k1 ?_); (case k1 => walk_at "len"); intro _ _) | (with_reducible refine r_itrue ?_) | ((with_reducible refine' r_bui ?k1 ?k2 ?k3 ?k4 ?k5 ?k6 ?k7 ?k8 ?_); (case k1 => assumption); (case k2 => assumption); (case k3 => assumption); (case k4 => kernel_rfl!); (case k5 => k_is); (case k6 => with_reducible first | exact bb_list | exact bb_min); (case k7 => decide +kernel); (case k8 => kernel_rfl!)) | walk_at "m")
    rename_i h2 tk2 F2 s2
    -- the first loop
    refine x_while (fun n _ m => Lv a b c m ∧ ∃ k tk, k ≤ lcp a b ∧ n = lcp a b - k ∧ m (Str.ofString "pre") = some (.int (k : Nat) tk)) F2 ⟨⟨⟨_, by walk_at "lk"⟩, ⟨_, by walk_at "lk"⟩, ⟨_, by walk_at "lk"⟩⟩, 0, _, Nat.zero_le _, rfl, upd_eq⟩ ?_
    rintro n h3 m3 tk3 F3 ⟨⟨⟨ta, l1⟩, ⟨tb, l2⟩, ⟨tc, l3⟩⟩, k, tp, hk, hn, l4⟩
    refine wpAny_mono (Q := fun b' s₂ => b' = decide (k < lcp a b) ∧ ∃ h' tk', s₂ = ⟨h', gs, dr, tk', os⟩ ∧ Fr h L h' m3) ?_ ?_ fun _ _ e => e
    · have hle := lcp_le a b
      repeat (first | (with_reducible refine x_aug ?_) | ((with_reducible refine' x_assign2 ?k1 ?_); (case k1 => rfl)) | (with_reducible refine isTrue_not ?_) | (with_reducible refine e_none ?_) | (with_reducible refine e_some ?_) | (with_reducible refine isTrue_and_nil ?_) | (with_reducible refine isTrue_and ?_) | (with_reducible refine isTrue_or_nil ?_) | (with_reducible refine isTrue_or ?_) | ((with_reducible refine' x_splmore ?k1 ?_); (case k1 => rfl)) | (with_reducible refine x_splnone ?_) | ((with_reducible refine' x_setitem ?k1 ?_); (case k1 => rfl)) | (with_reducible refine r_none ?_) | ((with_reducible refine' r_ldn ?k1 ?k2 ?k3 ?k4 ?_); (case k1 => assumption); (case k2 => assumption); (case k3 => kernel_rfl!); (case k4 => walk_at "lk")) | ((with_reducible refine' c_t3 ?k1 ?_); (case k1 => rfl)) | ((with_reducible refine r_iadd ?_); intro _ _) | ((with_reducible refine r_isub ?_); intro _ _) | (with_reducible refine r_lt ?_) | (with_reducible refine r_gt ?_) | ((with_reducible refine' r_strue ?k1 ?_); (case k1 => walk_at "len"); intro _) | ((with_reducible refine' r_slenR ?k1 ?_); (case k1 => first | decide | omega); intro _ _) | ((with_reducible refine' r_slen ?k1 ?_); (case k1 => walk_at "len"); intro _ _) | (with_reducible refine r_itrue ?_) | ((with_reducible refine' r_bui ?k1 ?k2 ?k3 ?k4 ?k5 ?k6 ?k7 ?k8 ?_); (case k1 => assumption); (case k2 => assumption); (case k3 => assumption); (case k4 => kernel_rfl!); (case k5 => k_is); (case k6 => with_reducible first | exact bb_list | exact bb_min); (case k7 => decide +kernel); (case k8 => kernel_rfl!)) | walk_at "m")
      refine r_ite (fun q1 => ?_) fun q1 => ⟨(decide_eq_false fun hlt => q1 (drop_ne.mpr (by omega))).symm, _, _, rfl, by assumption⟩
      rw [drop_ne] at q1
      repeat (first | (with_reducible refine x_aug ?_) | ((with_reducible refine' x_assign2 ?k1 ?_); (case k1 => rfl)) | (with_reducible refine isTrue_not ?_) | (with_reducible refine e_none ?_) | (with_reducible refine e_some ?_) | (with_reducible refine isTrue_and_nil ?_) | (with_reducible refine isTrue_and ?_) | (with_reducible refine isTrue_or_nil ?_) | (with_reducible refine isTrue_or ?_) | ((with_reducible refine' x_splmore ?k1 ?_); (case k1 => rfl)) | (with_reducible refine x_splnone ?_) | ((with_reducible refine' x_setitem ?k1 ?_); (case k1 => rfl)) | (with_reducible refine r_none ?_) | ((with_reducible refine' r_ldn ?k1 ?k2 ?k3 ?k4 ?_); (case k1 => assumption); (case k2 => assumption); (case k3 => kernel_rfl!); (case k4 => walk_at "lk")) | ((with_reducible refine' c_t3 ?k1 ?_); (case k1 => rfl)) | ((with_reducible refine r_iadd ?_); intro _ _) | ((with_reducible refine r_isub ?_); intro _ _) | (with_reducible refine r_lt ?_) | (with_reducible refine r_gt ?_) | ((with_reducible refine' r_strue ?k1 ?_); (case k1 => walk_at "len"); intro _) | ((with_reducible refine' r_slenR ?k1 ?_); (case k1 => first | decide | omega); intro _ _) | ((with_reducible refine' r_slen ?k1 ?_); (case k1 => walk_at "len"); intro _ _) | (with_reducible refine r_itrue ?_) | ((with_reducible refine' r_bui ?k1 ?k2 ?k3 ?k4 ?k5 ?k6 ?k7 ?k8 ?_); (case k1 => assumption); (case k2 => assumption); (case k3 => assumption); (case k4 => kernel_rfl!); (case k5 => k_is); (case k6 => with_reducible first | exact bb_list | exact bb_min); (case k7 => decide +kernel); (case k8 => kernel_rfl!)) | walk_at "m")
      refine r_ite (fun q2 => ?_) fun q2 => ⟨(decide_eq_false fun hlt => q2 (drop_ne.mpr (by omega))).symm, _, _, rfl, by assumption⟩
      rw [drop_ne] at q2
      repeat (first | (with_reducible refine x_aug ?_) | ((with_reducible refine' x_assign2 ?k1 ?_); (case k1 => rfl)) | (with_reducible refine isTrue_not ?_) | (with_reducible refine e_none ?_) | (with_reducible refine e_some ?_) | (with_reducible refine isTrue_and_nil ?_) | (with_reducible refine isTrue_and ?_) | (with_reducible refine isTrue_or_nil ?_) | (with_reducible refine isTrue_or ?_) | ((with_reducible refine' x_splmore ?k1 ?_); (case k1 => rfl)) | (with_reducible refine x_splnone ?_) | ((with_reducible refine' x_setitem ?k1 ?_); (case k1 => rfl)) | (with_reducible refine r_none ?_) | ((with_reducible refine' r_ldn ?k1 ?k2 ?k3 ?k4 ?_); (case k1 => assumption); (case k2 => assumption); (case k3 => kernel_rfl!); (case k4 => walk_at "lk")) | ((with_reducible refine' c_t3 ?k1 ?_); (case k1 => rfl)) | ((with_reducible refine r_iadd ?_); intro _ _) | ((with_reducible refine r_isub ?_); intro _ _) | (with_reducible refine r_lt ?_) | (with_reducible refine r_gt ?_) | ((with_reducible refine' r_strue ?k1 ?_); (case k1 => walk_at "len"); intro _) | ((with_reducible refine' r_slenR ?k1 ?_); (case k1 => first | decide | omega); intro _ _) | ((with_reducible refine' r_slen ?k1 ?_); (case k1 => walk_at "len"); intro _ _) | (with_reducible refine r_itrue ?_) | ((with_reducible refine' r_bui ?k1 ?k2 ?k3 ?k4 ?k5 ?k6 ?k7 ?k8 ?_); (case k1 => assumption); (case k2 => assumption); (case k3 => assumption); (case k4 => kernel_rfl!); (case k5 => k_is); (case k6 => with_reducible first | exact bb_list | exact bb_min); (case k7 => decide +kernel); (case k8 => kernel_rfl!)) | walk_at "m")
      refine r_sitem (c := a[k]) (by rw [idx_nat q1]; simp) (by omega) rfl fun _ _ => ?_
      repeat (first | (with_reducible refine x_aug ?_) | ((with_reducible refine' x_assign2 ?k1 ?_); (case k1 => rfl)) | (with_reducible refine isTrue_not ?_) | (with_reducible refine e_none ?_) | (with_reducible refine e_some ?_) | (with_reducible refine isTrue_and_nil ?_) | (with_reducible refine isTrue_and ?_) | (with_reducible refine isTrue_or_nil ?_) | (with_reducible refine isTrue_or ?_) | ((with_reducible refine' x_splmore ?k1 ?_); (case k1 => rfl)) | (with_reducible refine x_splnone ?_) | ((with_reducible refine' x_setitem ?k1 ?_); (case k1 => rfl)) | (with_reducible refine r_none ?_) | ((with_reducible refine' r_ldn ?k1 ?k2 ?k3 ?k4 ?_); (case k1 => assumption); (case k2 => assumption); (case k3 => kernel_rfl!); (case k4 => walk_at "lk")) | ((with_reducible refine' c_t3 ?k1 ?_); (case k1 => rfl)) | ((with_reducible refine r_iadd ?_); intro _ _) | ((with_reducible refine r_isub ?_); intro _ _) | (with_reducible refine r_lt ?_) | (with_reducible refine r_gt ?_) | ((with_reducible refine' r_strue ?k1 ?_); (case k1 => walk_at "len"); intro _) | ((with_reducible refine' r_slenR ?k1 ?_); (case k1 => first | decide | omega); intro _ _) | ((with_reducible refine' r_slen ?k1 ?_); (case k1 => walk_at "len"); intro _ _) | (with_reducible refine r_itrue ?_) | ((with_reducible refine' r_bui ?k1 ?k2 ?k3 ?k4 ?k5 ?k6 ?k7 ?k8 ?_); (case k1 => assumption); (case k2 => assumption); (case k3 => assumption); (case k4 => kernel_rfl!); (case k5 => k_is); (case k6 => with_reducible first | exact bb_list | exact bb_min); (case k7 => decide +kernel); (case k8 => kernel_rfl!)) | walk_at "m")
      refine r_sitem (c := b[k]) (by rw [idx_nat q2]; simp) (by omega) rfl fun _ _ => ?_
      repeat (first | (with_reducible refine x_aug ?_) | ((with_reducible refine' x_assign2 ?k1 ?_); (case k1 => rfl)) | (with_reducible refine isTrue_not ?_) | (with_reducible refine e_none ?_) | (with_reducible refine e_some ?_) | (with_reducible refine isTrue_and_nil ?_) | (with_reducible refine isTrue_and ?_) | (with_reducible refine isTrue_or_nil ?_) | (with_reducible refine isTrue_or ?_) | ((with_reducible refine' x_splmore ?k1 ?_); (case k1 => rfl)) | (with_reducible refine x_splnone ?_) | ((with_reducible refine' x_setitem ?k1 ?_); (case k1 => rfl)) | (with_reducible refine r_none ?_) | ((with_reducible refine' r_ldn ?k1 ?k2 ?k3 ?k4 ?_); (case k1 => assumption); (case k2 => assumption); (case k3 => kernel_rfl!); (case k4 => walk_at "lk")) | ((with_reducible refine' c_t3 ?k1 ?_); (case k1 => rfl)) | ((with_reducible refine r_iadd ?_); intro _ _) | ((with_reducible refine r_isub ?_); intro _ _) | (with_reducible refine r_lt ?_) | (with_reducible refine r_gt ?_) | ((with_reducible refine' r_strue ?k1 ?_); (case k1 => walk_at "len"); intro _) | ((with_reducible refine' r_slenR ?k1 ?_); (case k1 => first | decide | omega); intro _ _) | ((with_reducible refine' r_slen ?k1 ?_); (case k1 => walk_at "len"); intro _ _) | (with_reducible refine r_itrue ?_) | ((with_reducible refine' r_bui ?k1 ?k2 ?k3 ?k4 ?k5 ?k6 ?k7 ?k8 ?_); (case k1 => assumption); (case k2 => assumption); (case k3 => assumption); (case k4 => kernel_rfl!); (case k5 => k_is); (case k6 => with_reducible first | exact bb_list | exact bb_min); (case k7 => decide +kernel); (case k8 => kernel_rfl!)) | walk_at "m")
      refine r_ite (fun q3 => ?_) fun q3 => ⟨(decide_eq_false fun hlt => ?_).symm, _, _, rfl, by assumption⟩
      · refine isTrue_and_nil ⟨(decide_eq_true ?_).symm, _, _, rfl, by assumption⟩
        exact lcp_ge (c := a[k]) hk (by simp) (by simp at q3; simp [q3])
      · obtain ⟨x, y1, y2⟩ := lcp_lt hlt
        simp [q1, q2] at y1 y2
        exact q3 (by rw [y1, y2])
    · rintro b' s₂ ⟨rfl, h4, tk4, rfl, F4⟩
      refine r_ite (fun q => ?_) fun q => ?_
      · repeat (first | (with_reducible refine x_aug ?_) | ((with_reducible refine' x_assign2 ?k1 ?_); (case k1 => rfl)) | (with_reducible refine isTrue_not ?_) | (with_reducible refine e_none ?_) | (with_reducible refine e_some ?_) | (with_reducible refine isTrue_and_nil ?_) | (with_reducible refine isTrue_and ?_) | (with_reducible refine isTrue_or_nil ?_) | (with_reducible refine isTrue_or ?_) | ((with_reducible refine' x_splmore ?k1 ?_); (case k1 => rfl)) | (with_reducible refine x_splnone ?_) | ((with_reducible refine' x_setitem ?k1 ?_); (case k1 => rfl)) | (with_reducible refine r_none ?_) | ((with_reducible refine' r_ldn ?k1 ?k2 ?k3 ?k4 ?_); (case k1 => assumption); (case k2 => assumption); (case k3 => kernel_rfl!); (case k4 => walk_at "lk")) | ((with_reducible refine' c_t3 ?k1 ?_); (case k1 => rfl)) | ((with_reducible refine r_iadd ?_); intro _ _) | ((with_reducible refine r_isub ?_); intro _ _) | (with_reducible refine r_lt ?_) | (with_reducible refine r_gt ?_) | ((with_reducible refine' r_strue ?k1 ?_); (case k1 => walk_at "len"); intro _) | ((with_reducible refine' r_slenR ?k1 ?_); (case k1 => first | decide | omega); intro _ _) | ((with_reducible refine' r_slen ?k1 ?_); (case k1 => walk_at "len"); intro _ _) | (with_reducible refine r_itrue ?_) | ((with_reducible refine' r_bui ?k1 ?k2 ?k3 ?k4 ?k5 ?k6 ?k7 ?k8 ?_); (case k1 => assumption); (case k2 => assumption); (case k3 => assumption); (case k4 => kernel_rfl!); (case k5 => k_is); (case k6 => with_reducible first | exact bb_list | exact bb_min); (case k7 => decide +kernel); (case k8 => kernel_rfl!)) | walk_at "m")
        exact ⟨rfl, _, _, _, lcp a b - (k + 1), rfl, by omega, by assumption, ⟨⟨_, by walk_at "lk"⟩, ⟨_, by walk_at "lk"⟩, ⟨_, by walk_at "lk"⟩⟩, k + 1, _, q, rfl, upd_eq⟩
      have ek : k = lcp a b := by omega
      subst ek
      clear hn
      repeat (first | (with_reducible refine x_aug ?_) | ((with_reducible refine' x_assign2 ?k1 ?_); (case k1 => rfl)) | (with_reducible refine isTrue_not ?_) | (with_reducible refine e_none ?_) | (with_reducible refine e_some ?_) | (with_reducible refine isTrue_and_nil ?_) | (with_reducible refine isTrue_and ?_) | (with_reducible refine isTrue_or_nil ?_) | (with_reducible refine isTrue_or ?_) | ((with_reducible refine' x_splmore ?k1 ?_); (case k1 => rfl)) | (with_reducible refine x_splnone ?_) | ((with_reducible refine' x_setitem ?k1 ?_); (case k1 => rfl)) | (with_reducible refine r_none ?_) | ((with_reducible refine' r_ldn ?k1 ?k2 ?k3 ?k4 ?_); (case k1 => assumption); (case k2 => assumption); (case k3 => kernel_rfl!); (case k4 => walk_at "lk")) | ((with_reducible refine' c_t3 ?k1 ?_); (case k1 => rfl)) | ((with_reducible refine r_iadd ?_); intro _ _) | ((with_reducible refine r_isub ?_); intro _ _) | (with_reducible refine r_lt ?_) | (with_reducible refine r_gt ?_) | ((with_reducible refine' r_strue ?k1 ?_); (case k1 => walk_at "len"); intro _) | ((with_reducible refine' r_slenR ?k1 ?_); (case k1 => first | decide | omega); intro _ _) | ((with_reducible refine' r_slen ?k1 ?_); (case k1 => walk_at "len"); intro _ _) | (with_reducible refine r_itrue ?_) | ((with_reducible refine' r_bui ?k1 ?k2 ?k3 ?k4 ?k5 ?k6 ?k7 ?k8 ?_); (case k1 => assumption); (case k2 => assumption); (case k3 => assumption); (case k4 => kernel_rfl!); (case k5 => k_is); (case k6 => with_reducible first | exact bb_list | exact bb_min); (case k7 => decide +kernel); (case k8 => kernel_rfl!)) | walk_at "m")
      rename_i h5 tk5 F5 _
      -- the second loop
      have a1l : (a.drop (lcp a b)).length ≤ 30 := by rw [List.length_drop]; omega
      have b1l : (b.drop (lcp a b)).length ≤ 30 := by rw [List.length_drop]; omega
      have hs1 : strip a b = tl1 (a.drop (lcp a b)) (b.drop (lcp a b)) := rfl
      have hs2 : stripB a b = (b.drop (lcp a b)).take ((b.drop (lcp a b)).length - lcp (a.drop (lcp a b)).reverse (b.drop (lcp a b)).reverse) := rfl
      generalize hm5 : upd _ (Str.ofString "post") _ = m5 at F5
      have l1' : ∃ t, m5 (Str.ofString "a") = some (.str (S (a.drop (lcp a b))) t) := by rw [← hm5]; exact ⟨_, by walk_at "lk"⟩
      have l2' : ∃ t, m5 (Str.ofString "b") = some (.str (S (b.drop (lcp a b))) t) := by rw [← hm5]; exact ⟨_, by walk_at "lk"⟩
      have l3' : ∃ t, m5 (Str.ofString "max_cost") = some (.int c t) := by rw [← hm5]; exact ⟨_, by walk_at "lk"⟩
      have l4' : ∃ t, m5 (Str.ofString "post") = some (.int (-((0 : Nat) : Int)) t) := by rw [← hm5]; exact ⟨_, upd_eq⟩
      clear hm5 l1 l2 l3 l4
      obtain ⟨tp, l4⟩ := l4'
      generalize a.drop (lcp a b) = a1 at a1l hs1 hs2 l1' l2'
      generalize b.drop (lcp a b) = b1 at b1l hs1 hs2 l1' l2'
      refine x_while (fun n _ m => Lv a1 b1 c m ∧ ∃ k tk, k ≤ lcp a1.reverse b1.reverse ∧ n = lcp a1.reverse b1.reverse - k ∧ m (Str.ofString "post") = some (.int (-(k : Nat)) tk)) F5 ⟨⟨l1', l2', l3'⟩, 0, _, Nat.zero_le _, rfl, l4⟩ ?_
      clear l1' l2' l3' l4
      rintro n h6 m6 tk6 F6 ⟨⟨⟨ta, l1⟩, ⟨tb, l2⟩, ⟨tc, l3⟩⟩, k, tp, hk, hn, l4⟩
      have hle := lcp_le a1.reverse b1.reverse
      rw [List.length_reverse, List.length_reverse] at hle
      refine wpAny_mono (Q := fun b' s₂ => b' = decide (k < lcp a1.reverse b1.reverse) ∧ ∃ h' tk', s₂ = ⟨h', gs, dr, tk', os⟩ ∧ Fr h L h' m6) ?_ ?_ fun _ _ e => e
      · repeat (first | (with_reducible refine x_aug ?_) | ((with_reducible refine' x_assign2 ?k1 ?_); (case k1 => rfl)) | (with_reducible refine isTrue_not ?_) | (with_reducible refine e_none ?_) | (with_reducible refine e_some ?_) | (with_reducible refine isTrue_and_nil ?_) | (with_reducible refine isTrue_and ?_) | (with_reducible refine isTrue_or_nil ?_) | (with_reducible refine isTrue_or ?_) | ((with_reducible refine' x_splmore ?k1 ?_); (case k1 => rfl)) | (with_reducible refine x_splnone ?_) | ((with_reducible refine' x_setitem ?k1 ?_); (case k1 => rfl)) | (with_reducible refine r_none ?_) | ((with_reducible refine' r_ldn ?k1 ?k2 ?k3 ?k4 ?_); (case k1 => assumption); (case k2 => assumption); (case k3 => kernel_rfl!); (case k4 => walk_at "lk")) | ((with_reducible refine' c_t3 ?k1 ?_); (case k1 => rfl)) | ((with_reducible refine r_iadd ?_); intro _ _) | ((with_reducible refine r_isub ?_); intro _ _) | (with_reducible refine r_lt ?_) | (with_reducible refine r_gt ?_) | ((with_reducible refine' r_strue ?k1 ?_); (case k1 => walk_at "len"); intro _) | ((with_reducible refine' r_slenR ?k1 ?_); (case k1 => first | decide | omega); intro _ _) | ((with_reducible refine' r_slen ?k1 ?_); (case k1 => walk_at "len"); intro _ _) | (with_reducible refine r_itrue ?_) | ((with_reducible refine' r_bui ?k1 ?k2 ?k3 ?k4 ?k5 ?k6 ?k7 ?k8 ?_); (case k1 => assumption); (case k2 => assumption); (case k3 => assumption); (case k4 => kernel_rfl!); (case k5 => k_is); (case k6 => with_reducible first | exact bb_list | exact bb_min); (case k7 => decide +kernel); (case k8 => kernel_rfl!)) | walk_at "m")
        refine r_ite (fun q1 => ?_) fun q1 => ⟨(decide_eq_false fun hlt => q1 ((take_ne (by omega)).mpr (by omega))).symm, _, _, rfl, by assumption⟩
        rw [take_ne (by omega)] at q1
        repeat (first | (with_reducible refine x_aug ?_) | ((with_reducible refine' x_assign2 ?k1 ?_); (case k1 => rfl)) | (with_reducible refine isTrue_not ?_) | (with_reducible refine e_none ?_) | (with_reducible refine e_some ?_) | (with_reducible refine isTrue_and_nil ?_) | (with_reducible refine isTrue_and ?_) | (with_reducible refine isTrue_or_nil ?_) | (with_reducible refine isTrue_or ?_) | ((with_reducible refine' x_splmore ?k1 ?_); (case k1 => rfl)) | (with_reducible refine x_splnone ?_) | ((with_reducible refine' x_setitem ?k1 ?_); (case k1 => rfl)) | (with_reducible refine r_none ?_) | ((with_reducible refine' r_ldn ?k1 ?k2 ?k3 ?k4 ?_); (case k1 => assumption); (case k2 => assumption); (case k3 => kernel_rfl!); (case k4 => walk_at "lk")) | ((with_reducible refine' c_t3 ?k1 ?_); (case k1 => rfl)) | ((with_reducible refine r_iadd ?_); intro _ _) | ((with_reducible refine r_isub ?_); intro _ _) | (with_reducible refine r_lt ?_) | (with_reducible refine r_gt ?_) | ((with_reducible refine' r_strue ?k1 ?_); (case k1 => walk_at "len"); intro _) | ((with_reducible refine' r_slenR ?k1 ?_); (case k1 => first | decide | omega); intro _ _) | ((with_reducible refine' r_slen ?k1 ?_); (case k1 => walk_at "len"); intro _ _) | (with_reducible refine r_itrue ?_) | ((with_reducible refine' r_bui ?k1 ?k2 ?k3 ?k4 ?k5 ?k6 ?k7 ?k8 ?_); (case k1 => assumption); (case k2 => assumption); (case k3 => assumption); (case k4 => kernel_rfl!); (case k5 => k_is); (case k6 => with_reducible first | exact bb_list | exact bb_min); (case k7 => decide +kernel); (case k8 => kernel_rfl!)) | walk_at "m")
        refine r_ite (fun q2 => ?_) fun q2 => ⟨(decide_eq_false fun hlt => q2 ((take_ne (by omega)).mpr (by omega))).symm, _, _, rfl, by assumption⟩
        rw [take_ne (by omega)] at q2
        repeat (first | (with_reducible refine x_aug ?_) | ((with_reducible refine' x_assign2 ?k1 ?_); (case k1 => rfl)) | (with_reducible refine isTrue_not ?_) | (with_reducible refine e_none ?_) | (with_reducible refine e_some ?_) | (with_reducible refine isTrue_and_nil ?_) | (with_reducible refine isTrue_and ?_) | (with_reducible refine isTrue_or_nil ?_) | (with_reducible refine isTrue_or ?_) | ((with_reducible refine' x_splmore ?k1 ?_); (case k1 => rfl)) | (with_reducible refine x_splnone ?_) | ((with_reducible refine' x_setitem ?k1 ?_); (case k1 => rfl)) | (with_reducible refine r_none ?_) | ((with_reducible refine' r_ldn ?k1 ?k2 ?k3 ?k4 ?_); (case k1 => assumption); (case k2 => assumption); (case k3 => kernel_rfl!); (case k4 => walk_at "lk")) | ((with_reducible refine' c_t3 ?k1 ?_); (case k1 => rfl)) | ((with_reducible refine r_iadd ?_); intro _ _) | ((with_reducible refine r_isub ?_); intro _ _) | (with_reducible refine r_lt ?_) | (with_reducible refine r_gt ?_) | ((with_reducible refine' r_strue ?k1 ?_); (case k1 => walk_at "len"); intro _) | ((with_reducible refine' r_slenR ?k1 ?_); (case k1 => first | decide | omega); intro _ _) | ((with_reducible refine' r_slen ?k1 ?_); (case k1 => walk_at "len"); intro _ _) | (with_reducible refine r_itrue ?_) | ((with_reducible refine' r_bui ?k1 ?k2 ?k3 ?k4 ?k5 ?k6 ?k7 ?k8 ?_); (case k1 => assumption); (case k2 => assumption); (case k3 => assumption); (case k4 => kernel_rfl!); (case k5 => k_is); (case k6 => with_reducible first | exact bb_list | exact bb_min); (case k7 => decide +kernel); (case k8 => kernel_rfl!)) | walk_at "m")
        have ei : -(k : Int) - 1 = -((k + 1 : Nat) : Int) := by omega
        refine r_sitem (c := a1[a1.length - (k + 1)]) (by rw [ei, idx_neg (by omega) (by omega)]; simp) (by omega) rfl fun _ _ => ?_
        repeat (first | (with_reducible refine x_aug ?_) | ((with_reducible refine' x_assign2 ?k1 ?_); (case k1 => rfl)) | (with_reducible refine isTrue_not ?_) | (with_reducible refine e_none ?_) | (with_reducible refine e_some ?_) | (with_reducible refine isTrue_and_nil ?_) | (with_reducible refine isTrue_and ?_) | (with_reducible refine isTrue_or_nil ?_) | (with_reducible refine isTrue_or ?_) | ((with_reducible refine' x_splmore ?k1 ?_); (case k1 => rfl)) | (with_reducible refine x_splnone ?_) | ((with_reducible refine' x_setitem ?k1 ?_); (case k1 => rfl)) | (with_reducible refine r_none ?_) | ((with_reducible refine' r_ldn ?k1 ?k2 ?k3 ?k4 ?_); (case k1 => assumption); (case k2 => assumption); (case k3 => kernel_rfl!); (case k4 => walk_at "lk")) | ((with_reducible refine' c_t3 ?k1 ?_); (case k1 => rfl)) | ((with_reducible refine r_iadd ?_); intro _ _) | ((with_reducible refine r_isub ?_); intro _ _) | (with_reducible refine r_lt ?_) | (with_reducible refine r_gt ?_) | ((with_reducible refine' r_strue ?k1 ?_); (case k1 => walk_at "len"); intro _) | ((with_reducible refine' r_slenR ?k1 ?_); (case k1 => first | decide | omega); intro _ _) | ((with_reducible refine' r_slen ?k1 ?_); (case k1 => walk_at "len"); intro _ _) | (with_reducible refine r_itrue ?_) | ((with_reducible refine' r_bui ?k1 ?k2 ?k3 ?k4 ?k5 ?k6 ?k7 ?k8 ?_); (case k1 => assumption); (case k2 => assumption); (case k3 => assumption); (case k4 => kernel_rfl!); (case k5 => k_is); (case k6 => with_reducible first | exact bb_list | exact bb_min); (case k7 => decide +kernel); (case k8 => kernel_rfl!)) | walk_at "m")
        refine r_sitem (c := b1[b1.length - (k + 1)]) (by rw [ei, idx_neg (by omega) (by omega)]; simp) (by omega) rfl fun _ _ => ?_
        repeat (first | (with_reducible refine x_aug ?_) | ((with_reducible refine' x_assign2 ?k1 ?_); (case k1 => rfl)) | (with_reducible refine isTrue_not ?_) | (with_reducible refine e_none ?_) | (with_reducible refine e_some ?_) | (with_reducible refine isTrue_and_nil ?_) | (with_reducible refine isTrue_and ?_) | (with_reducible refine isTrue_or_nil ?_) | (with_reducible refine isTrue_or ?_) | ((with_reducible refine' x_splmore ?k1 ?_); (case k1 => rfl)) | (with_reducible refine x_splnone ?_) | ((with_reducible refine' x_setitem ?k1 ?_); (case k1 => rfl)) | (with_reducible refine r_none ?_) | ((with_reducible refine' r_ldn ?k1 ?k2 ?k3 ?k4 ?_); (case k1 => assumption); (case k2 => assumption); (case k3 => kernel_rfl!); (case k4 => walk_at "lk")) | ((with_reducible refine' c_t3 ?k1 ?_); (case k1 => rfl)) | ((with_reducible refine r_iadd ?_); intro _ _) | ((with_reducible refine r_isub ?_); intro _ _) | (with_reducible refine r_lt ?_) | (with_reducible refine r_gt ?_) | ((with_reducible refine' r_strue ?k1 ?_); (case k1 => walk_at "len"); intro _) | ((with_reducible refine' r_slenR ?k1 ?_); (case k1 => first | decide | omega); intro _ _) | ((with_reducible refine' r_slen ?k1 ?_); (case k1 => walk_at "len"); intro _ _) | (with_reducible refine r_itrue ?_) | ((with_reducible refine' r_bui ?k1 ?k2 ?k3 ?k4 ?k5 ?k6 ?k7 ?k8 ?_); (case k1 => assumption); (case k2 => assumption); (case k3 => assumption); (case k4 => kernel_rfl!); (case k5 => k_is); (case k6 => with_reducible first | exact bb_list | exact bb_min); (case k7 => decide +kernel); (case k8 => kernel_rfl!)) | walk_at "m")
        have ra : a1.reverse[k]? = some a1[a1.length - (k + 1)] := by
          rw [List.getElem?_reverse q1, List.getElem?_eq_getElem (by omega)]; congr 2; omega
        have rb : b1.reverse[k]? = some b1[b1.length - (k + 1)] := by
          rw [List.getElem?_reverse q2, List.getElem?_eq_getElem (by omega)]; congr 2; omega
        refine r_ite (fun q3 => ?_) fun q3 => ⟨(decide_eq_false fun hlt => ?_).symm, _, _, rfl, by assumption⟩
        · refine isTrue_and_nil ⟨(decide_eq_true ?_).symm, _, _, rfl, by assumption⟩
          exact lcp_ge hk ra (by rw [rb]; simp at q3; rw [q3])
        · obtain ⟨x, y1, y2⟩ := lcp_lt hlt
          rw [ra] at y1; rw [rb] at y2
          cases y1
          exact q3 (by rw [Option.some.inj y2])
      · rintro b' s₂ ⟨rfl, h7, tk7, rfl, F7⟩
        refine r_ite (fun q => ?_) fun q => ?_
        · repeat (first | (with_reducible refine x_aug ?_) | ((with_reducible refine' x_assign2 ?k1 ?_); (case k1 => rfl)) | (with_reducible refine isTrue_not ?_) | (with_reducible refine e_none ?_) | (with_reducible refine e_some ?_) | (with_reducible refine isTrue_and_nil ?_) | (with_reducible refine isTrue_and ?_) | (with_reducible refine isTrue_or_nil ?_) | (with_reducible refine isTrue_or ?_) | ((with_reducible refine' x_splmore ?k1 ?_); (case k1 => rfl)) | (with_reducible refine x_splnone ?_) | ((with_reducible refine' x_setitem ?k1 ?_); (case k1 => rfl)) | (with_reducible refine r_none ?_) | ((with_reducible refine' r_ldn ?k1 ?k2 ?k3 ?k4 ?_); (case k1 => assumption); (case k2 => assumption); (case k3 => kernel_rfl!); (case k4 => walk_at "lk")) | ((with_reducible refine' c_t3 ?k1 ?_); (case k1 => rfl)) | ((with_reducible refine r_iadd ?_); intro _ _) | ((with_reducible refine r_isub ?_); intro _ _) | (with_reducible refine r_lt ?_) | (with_reducible refine r_gt ?_) | ((with_reducible refine' r_strue ?k1 ?_); (case k1 => walk_at "len"); intro _) | ((with_reducible refine' r_slenR ?k1 ?_); (case k1 => first | decide | omega); intro _ _) | ((with_reducible refine' r_slen ?k1 ?_); (case k1 => walk_at "len"); intro _ _) | (with_reducible refine r_itrue ?_) | ((with_reducible refine' r_bui ?k1 ?k2 ?k3 ?k4 ?k5 ?k6 ?k7 ?k8 ?_); (case k1 => assumption); (case k2 => assumption); (case k3 => assumption); (case k4 => kernel_rfl!); (case k5 => k_is); (case k6 => with_reducible first | exact bb_list | exact bb_min); (case k7 => decide +kernel); (case k8 => kernel_rfl!)) | walk_at "m")
          refine ⟨rfl, _, _, _, lcp a1.reverse b1.reverse - (k + 1), rfl, by omega, by assumption, ⟨⟨_, by walk_at "lk"⟩, ⟨_, by walk_at "lk"⟩, ⟨_, by walk_at "lk"⟩⟩, k + 1, ?_, q, rfl, ?_⟩
          rotate_left
          · rw [show -((k + 1 : Nat) : Int) = -(k : Int) - 1 by omega]; exact upd_eq
        have ek : k = lcp a1.reverse b1.reverse := by omega
        subst ek
        clear hn
        (first | (with_reducible refine x_aug ?_) | ((with_reducible refine' x_assign2 ?k1 ?_); (case k1 => rfl)) | (with_reducible refine isTrue_not ?_) | (with_reducible refine e_none ?_) | (with_reducible refine e_some ?_) | (with_reducible refine isTrue_and_nil ?_) | (with_reducible refine isTrue_and ?_) | (with_reducible refine isTrue_or_nil ?_) | (with_reducible refine isTrue_or ?_) | ((with_reducible refine' x_splmore ?k1 ?_); (case k1 => rfl)) | (with_reducible refine x_splnone ?_) | ((with_reducible refine' x_setitem ?k1 ?_); (case k1 => rfl)) | (with_reducible refine r_none ?_) | ((with_reducible refine' r_ldn ?k1 ?k2 ?k3 ?k4 ?_); (case k1 => assumption); (case k2 => assumption); (case k3 => kernel_rfl!); (case k4 => walk_at "lk")) | ((with_reducible refine' c_t3 ?k1 ?_); (case k1 => rfl)) | ((with_reducible refine r_iadd ?_); intro _ _) | ((with_reducible refine r_isub ?_); intro _ _) | (with_reducible refine r_lt ?_) | (with_reducible refine r_gt ?_) | ((with_reducible refine' r_strue ?k1 ?_); (case k1 => walk_at "len"); intro _) | ((with_reducible refine' r_slenR ?k1 ?_); (case k1 => first | decide | omega); intro _ _) | ((with_reducible refine' r_slen ?k1 ?_); (case k1 => walk_at "len"); intro _ _) | (with_reducible refine r_itrue ?_) | ((with_reducible refine' r_bui ?k1 ?k2 ?k3 ?k4 ?k5 ?k6 ?k7 ?k8 ?_); (case k1 => assumption); (case k2 => assumption); (case k3 => assumption); (case k4 => kernel_rfl!); (case k5 => k_is); (case k6 => with_reducible first | exact bb_list | exact bb_min); (case k7 => decide +kernel); (case k8 => kernel_rfl!)) | walk_at "m")
        (first | (with_reducible refine x_aug ?_) | ((with_reducible refine' x_assign2 ?k1 ?_); (case k1 => rfl)) | (with_reducible refine isTrue_not ?_) | (with_reducible refine e_none ?_) | (with_reducible refine e_some ?_) | (with_reducible refine isTrue_and_nil ?_) | (with_reducible refine isTrue_and ?_) | (with_reducible refine isTrue_or_nil ?_) | (with_reducible refine isTrue_or ?_) | ((with_reducible refine' x_splmore ?k1 ?_); (case k1 => rfl)) | (with_reducible refine x_splnone ?_) | ((with_reducible refine' x_setitem ?k1 ?_); (case k1 => rfl)) | (with_reducible refine r_none ?_) | ((with_reducible refine' r_ldn ?k1 ?k2 ?k3 ?k4 ?_); (case k1 => assumption); (case k2 => assumption); (case k3 => kernel_rfl!); (case k4 => walk_at "lk")) | ((with_reducible refine' c_t3 ?k1 ?_); (case k1 => rfl)) | ((with_reducible refine r_iadd ?_); intro _ _) | ((with_reducible refine r_isub ?_); intro _ _) | (with_reducible refine r_lt ?_) | (with_reducible refine r_gt ?_) | ((with_reducible refine' r_strue ?k1 ?_); (case k1 => walk_at "len"); intro _) | ((with_reducible refine' r_slenR ?k1 ?_); (case k1 => first | decide | omega); intro _ _) | ((with_reducible refine' r_slen ?k1 ?_); (case k1 => walk_at "len"); intro _ _) | (with_reducible refine r_itrue ?_) | ((with_reducible refine' r_bui ?k1 ?k2 ?k3 ?k4 ?k5 ?k6 ?k7 ?k8 ?_); (case k1 => assumption); (case k2 => assumption); (case k3 => assumption); (case k4 => kernel_rfl!); (case k5 => k_is); (case k6 => with_reducible first | exact bb_list | exact bb_min); (case k7 => decide +kernel); (case k8 => kernel_rfl!)) | walk_at "m")
        (first | (with_reducible refine x_aug ?_) | ((with_reducible refine' x_assign2 ?k1 ?_); (case k1 => rfl)) | (with_reducible refine isTrue_not ?_) | (with_reducible refine e_none ?_) | (with_reducible refine e_some ?_) | (with_reducible refine isTrue_and_nil ?_) | (with_reducible refine isTrue_and ?_) | (with_reducible refine isTrue_or_nil ?_) | (with_reducible refine isTrue_or ?_) | ((with_reducible refine' x_splmore ?k1 ?_); (case k1 => rfl)) | (with_reducible refine x_splnone ?_) | ((with_reducible refine' x_setitem ?k1 ?_); (case k1 => rfl)) | (with_reducible refine r_none ?_) | ((with_reducible refine' r_ldn ?k1 ?k2 ?k3 ?k4 ?_); (case k1 => assumption); (case k2 => assumption); (case k3 => kernel_rfl!); (case k4 => walk_at "lk")) | ((with_reducible refine' c_t3 ?k1 ?_); (case k1 => rfl)) | ((with_reducible refine r_iadd ?_); intro _ _) | ((with_reducible refine r_isub ?_); intro _ _) | (with_reducible refine r_lt ?_) | (with_reducible refine r_gt ?_) | ((with_reducible refine' r_strue ?k1 ?_); (case k1 => walk_at "len"); intro _) | ((with_reducible refine' r_slenR ?k1 ?_); (case k1 => first | decide | omega); intro _ _) | ((with_reducible refine' r_slen ?k1 ?_); (case k1 => walk_at "len"); intro _ _) | (with_reducible refine r_itrue ?_) | ((with_reducible refine' r_bui ?k1 ?k2 ?k3 ?k4 ?k5 ?k6 ?k7 ?k8 ?_); (case k1 => assumption); (case k2 => assumption); (case k3 => assumption); (case k4 => kernel_rfl!); (case k5 => k_is); (case k6 => with_reducible first | exact bb_list | exact bb_min); (case k7 => decide +kernel); (case k8 => kernel_rfl!)) | walk_at "m")
        (first | (with_reducible refine x_aug ?_) | ((with_reducible refine' x_assign2 ?k1 ?_); (case k1 => rfl)) | (with_reducible refine isTrue_not ?_) | (with_reducible refine e_none ?_) | (with_reducible refine e_some ?_) | (with_reducible refine isTrue_and_nil ?_) | (with_reducible refine isTrue_and ?_) | (with_reducible refine isTrue_or_nil ?_) | (with_reducible refine isTrue_or ?_) | ((with_reducible refine' x_splmore ?k1 ?_); (case k1 => rfl)) | (with_reducible refine x_splnone ?_) | ((with_reducible refine' x_setitem ?k1 ?_); (case k1 => rfl)) | (with_reducible refine r_none ?_) | ((with_reducible refine' r_ldn ?k1 ?k2 ?k3 ?k4 ?_); (case k1 => assumption); (case k2 => assumption); (case k3 => kernel_rfl!); (case k4 => walk_at "lk")) | ((with_reducible refine' c_t3 ?k1 ?_); (case k1 => rfl)) | ((with_reducible refine r_iadd ?_); intro _ _) | ((with_reducible refine r_isub ?_); intro _ _) | (with_reducible refine r_lt ?_) | (with_reducible refine r_gt ?_) | ((with_reducible refine' r_strue ?k1 ?_); (case k1 => walk_at "len"); intro _) | ((with_reducible refine' r_slenR ?k1 ?_); (case k1 => first | decide | omega); intro _ _) | ((with_reducible refine' r_slen ?k1 ?_); (case k1 => walk_at "len"); intro _ _) | (with_reducible refine r_itrue ?_) | ((with_reducible refine' r_bui ?k1 ?k2 ?k3 ?k4 ?k5 ?k6 ?k7 ?k8 ?_); (case k1 => assumption); (case k2 => assumption); (case k3 => assumption); (case k4 => kernel_rfl!); (case k5 => k_is); (case k6 => with_reducible first | exact bb_list | exact bb_min); (case k7 => decide +kernel); (case k8 => kernel_rfl!)) | walk_at "m")
        (first | (with_reducible refine x_aug ?_) | ((with_reducible refine' x_assign2 ?k1 ?_); (case k1 => rfl)) | (with_reducible refine isTrue_not ?_) | (with_reducible refine e_none ?_) | (with_reducible refine e_some ?_) | (with_reducible refine isTrue_and_nil ?_) | (with_reducible refine isTrue_and ?_) | (with_reducible refine isTrue_or_nil ?_) | (with_reducible refine isTrue_or ?_) | ((with_reducible refine' x_splmore ?k1 ?_); (case k1 => rfl)) | (with_reducible refine x_splnone ?_) | ((with_reducible refine' x_setitem ?k1 ?_); (case k1 => rfl)) | (with_reducible refine r_none ?_) | ((with_reducible refine' r_ldn ?k1 ?k2 ?k3 ?k4 ?_); (case k1 => assumption); (case k2 => assumption); (case k3 => kernel_rfl!); (case k4 => walk_at "lk")) | ((with_reducible refine' c_t3 ?k1 ?_); (case k1 => rfl)) | ((with_reducible refine r_iadd ?_); intro _ _) | ((with_reducible refine r_isub ?_); intro _ _) | (with_reducible refine r_lt ?_) | (with_reducible refine r_gt ?_) | ((with_reducible refine' r_strue ?k1 ?_); (case k1 => walk_at "len"); intro _) | ((with_reducible refine' r_slenR ?k1 ?_); (case k1 => first | decide | omega); intro _ _) | ((with_reducible refine' r_slen ?k1 ?_); (case k1 => walk_at "len"); intro _ _) | (with_reducible refine r_itrue ?_) | ((with_reducible refine' r_bui ?k1 ?k2 ?k3 ?k4 ?k5 ?k6 ?k7 ?k8 ?_); (case k1 => assumption); (case k2 => assumption); (case k3 => assumption); (case k4 => kernel_rfl!); (case k5 => k_is); (case k6 => with_reducible first | exact bb_list | exact bb_min); (case k7 => decide +kernel); (case k8 => kernel_rfl!)) | walk_at "m")
        (first | (with_reducible refine x_aug ?_) | ((with_reducible refine' x_assign2 ?k1 ?_); (case k1 => rfl)) | (with_reducible refine isTrue_not ?_) | (with_reducible refine e_none ?_) | (with_reducible refine e_some ?_) | (with_reducible refine isTrue_and_nil ?_) | (with_reducible refine isTrue_and ?_) | (with_reducible refine isTrue_or_nil ?_) | (with_reducible refine isTrue_or ?_) | ((with_reducible refine' x_splmore ?k1 ?_); (case k1 => rfl)) | (with_reducible refine x_splnone ?_) | ((with_reducible refine' x_setitem ?k1 ?_); (case k1 => rfl)) | (with_reducible refine r_none ?_) | ((with_reducible refine' r_ldn ?k1 ?k2 ?k3 ?k4 ?_); (case k1 => assumption); (case k2 => assumption); (case k3 => kernel_rfl!); (case k4 => walk_at "lk")) | ((with_reducible refine' c_t3 ?k1 ?_); (case k1 => rfl)) | ((with_reducible refine r_iadd ?_); intro _ _) | ((with_reducible refine r_isub ?_); intro _ _) | (with_reducible refine r_lt ?_) | (with_reducible refine r_gt ?_) | ((with_reducible refine' r_strue ?k1 ?_); (case k1 => walk_at "len"); intro _) | ((with_reducible refine' r_slenR ?k1 ?_); (case k1 => first | decide | omega); intro _ _) | ((with_reducible refine' r_slen ?k1 ?_); (case k1 => walk_at "len"); intro _ _) | (with_reducible refine r_itrue ?_) | ((with_reducible refine' r_bui ?k1 ?k2 ?k3 ?k4 ?k5 ?k6 ?k7 ?k8 ?_); (case k1 => assumption); (case k2 => assumption); (case k3 => assumption); (case k4 => kernel_rfl!); (case k5 => k_is); (case k6 => with_reducible first | exact bb_list | exact bb_min); (case k7 => decide +kernel); (case k8 => kernel_rfl!)) | walk_at "m")
        rename_i h9 tk9 F9 _
        generalize hm9 : upd _ (Str.ofString "b") _ = m9 at F9
        rw [show List.take (a1.length - lcp a1.reverse b1.reverse) a1 = strip a b from hs1.symm, show List.take (b1.length - lcp a1.reverse b1.reverse) b1 = stripB a b from hs2.symm] at hm9
        have l5 : ∃ t, m9 (Str.ofString "a") = some (.str (S (strip a b)) t) := by rw [← hm9]; exact ⟨_, by walk_at "lk"⟩
        have l6 : ∃ t, m9 (Str.ofString "b") = some (.str (S (stripB a b)) t) := by rw [← hm9]; exact ⟨_, by walk_at "lk"⟩
        have l7 : ∃ t, m9 (Str.ofString "max_cost") = some (.int c t) := by rw [← hm9]; exact ⟨_, by walk_at "lk"⟩
        have al : (strip a b).length ≤ 30 := by rw [hs1, tl1, List.length_take]; omega
        have bl : (stripB a b).length ≤ 30 := by rw [hs2, List.length_take]; omega
        clear hm9 l1 l2 l3 l4
        clear F7 F6 F5 hs1 hs2 a1l b1l hle
        obtain ⟨t5, l5⟩ := l5
        obtain ⟨t6, l6⟩ := l6
        obtain ⟨t7, l7⟩ := l7
        have r0 := r'.less (Nat.zero_le _)
        -- nothing is left of one
        refine x_if_ret (wpAny_mono (Q := fun b' s₂ => b' = decide (strip a b = [] ∨ stripB a b = []) ∧ ∃ h' tk', s₂ = ⟨h', gs, dr, tk', os⟩ ∧ Fr h L h' m9) ?_ ?_ fun _ _ e => e)
        · repeat (first | (with_reducible refine x_aug ?_) | ((with_reducible refine' x_assign2 ?k1 ?_); (case k1 => rfl)) | (with_reducible refine isTrue_not ?_) | (with_reducible refine e_none ?_) | (with_reducible refine e_some ?_) | (with_reducible refine isTrue_and_nil ?_) | (with_reducible refine isTrue_and ?_) | (with_reducible refine isTrue_or_nil ?_) | (with_reducible refine isTrue_or ?_) | ((with_reducible refine' x_splmore ?k1 ?_); (case k1 => rfl)) | (with_reducible refine x_splnone ?_) | ((with_reducible refine' x_setitem ?k1 ?_); (case k1 => rfl)) | (with_reducible refine r_none ?_) | ((with_reducible refine' r_ldn ?k1 ?k2 ?k3 ?k4 ?_); (case k1 => assumption); (case k2 => assumption); (case k3 => kernel_rfl!); (case k4 => walk_at "lk")) | ((with_reducible refine' c_t3 ?k1 ?_); (case k1 => rfl)) | ((with_reducible refine r_iadd ?_); intro _ _) | ((with_reducible refine r_isub ?_); intro _ _) | (with_reducible refine r_lt ?_) | (with_reducible refine r_gt ?_) | ((with_reducible refine' r_strue ?k1 ?_); (case k1 => walk_at "len"); intro _) | ((with_reducible refine' r_slenR ?k1 ?_); (case k1 => first | decide | omega); intro _ _) | ((with_reducible refine' r_slen ?k1 ?_); (case k1 => walk_at "len"); intro _ _) | (with_reducible refine r_itrue ?_) | ((with_reducible refine' r_bui ?k1 ?k2 ?k3 ?k4 ?k5 ?k6 ?k7 ?k8 ?_); (case k1 => assumption); (case k2 => assumption); (case k3 => assumption); (case k4 => kernel_rfl!); (case k5 => k_is); (case k6 => with_reducible first | exact bb_list | exact bb_min); (case k7 => decide +kernel); (case k8 => kernel_rfl!)) | walk_at "m")
          refine r_iteb (fun q => ?_) fun q => ?_
          · exact ⟨(decide_eq_true (.inl (by simpa using q))).symm, _, _, rfl, by assumption⟩
          · have n1 : strip a b ≠ [] := by simpa using q
            repeat (first | (with_reducible refine x_aug ?_) | ((with_reducible refine' x_assign2 ?k1 ?_); (case k1 => rfl)) | (with_reducible refine isTrue_not ?_) | (with_reducible refine e_none ?_) | (with_reducible refine e_some ?_) | (with_reducible refine isTrue_and_nil ?_) | (with_reducible refine isTrue_and ?_) | (with_reducible refine isTrue_or_nil ?_) | (with_reducible refine isTrue_or ?_) | ((with_reducible refine' x_splmore ?k1 ?_); (case k1 => rfl)) | (with_reducible refine x_splnone ?_) | ((with_reducible refine' x_setitem ?k1 ?_); (case k1 => rfl)) | (with_reducible refine r_none ?_) | ((with_reducible refine' r_ldn ?k1 ?k2 ?k3 ?k4 ?_); (case k1 => assumption); (case k2 => assumption); (case k3 => kernel_rfl!); (case k4 => walk_at "lk")) | ((with_reducible refine' c_t3 ?k1 ?_); (case k1 => rfl)) | ((with_reducible refine r_iadd ?_); intro _ _) | ((with_reducible refine r_isub ?_); intro _ _) | (with_reducible refine r_lt ?_) | (with_reducible refine r_gt ?_) | ((with_reducible refine' r_strue ?k1 ?_); (case k1 => walk_at "len"); intro _) | ((with_reducible refine' r_slenR ?k1 ?_); (case k1 => first | decide | omega); intro _ _) | ((with_reducible refine' r_slen ?k1 ?_); (case k1 => walk_at "len"); intro _ _) | (with_reducible refine r_itrue ?_) | ((with_reducible refine' r_bui ?k1 ?k2 ?k3 ?k4 ?k5 ?k6 ?k7 ?k8 ?_); (case k1 => assumption); (case k2 => assumption); (case k3 => assumption); (case k4 => kernel_rfl!); (case k5 => k_is); (case k6 => with_reducible first | exact bb_list | exact bb_min); (case k7 => decide +kernel); (case k8 => kernel_rfl!)) | walk_at "m")
            refine r_iteb (fun q2 => ?_) fun q2 => isTrue_or_nil ?_
            · exact ⟨(decide_eq_true (.inr (by simpa using q2))).symm, _, _, rfl, by assumption⟩
            · have n2 : stripB a b ≠ [] := by simpa using q2
              exact ⟨by simp [n1, n2], _, _, rfl, by assumption⟩
        rintro b' s₂ ⟨rfl, h10, tk10, rfl, F10⟩
        refine r_ite (fun q => ?_) fun q => ?_
        · repeat (first | (with_reducible refine x_aug ?_) | ((with_reducible refine' x_assign2 ?k1 ?_); (case k1 => rfl)) | (with_reducible refine isTrue_not ?_) | (with_reducible refine e_none ?_) | (with_reducible refine e_some ?_) | (with_reducible refine isTrue_and_nil ?_) | (with_reducible refine isTrue_and ?_) | (with_reducible refine isTrue_or_nil ?_) | (with_reducible refine isTrue_or ?_) | ((with_reducible refine' x_splmore ?k1 ?_); (case k1 => rfl)) | (with_reducible refine x_splnone ?_) | ((with_reducible refine' x_setitem ?k1 ?_); (case k1 => rfl)) | (with_reducible refine r_none ?_) | ((with_reducible refine' r_ldn ?k1 ?k2 ?k3 ?k4 ?_); (case k1 => assumption); (case k2 => assumption); (case k3 => kernel_rfl!); (case k4 => walk_at "lk")) | ((with_reducible refine' c_t3 ?k1 ?_); (case k1 => rfl)) | ((with_reducible refine r_iadd ?_); intro _ _) | ((with_reducible refine r_isub ?_); intro _ _) | (with_reducible refine r_lt ?_) | (with_reducible refine r_gt ?_) | ((with_reducible refine' r_strue ?k1 ?_); (case k1 => walk_at "len"); intro _) | ((with_reducible refine' r_slenR ?k1 ?_); (case k1 => first | decide | omega); intro _ _) | ((with_reducible refine' r_slen ?k1 ?_); (case k1 => walk_at "len"); intro _ _) | (with_reducible refine r_itrue ?_) | ((with_reducible refine' r_bui ?k1 ?k2 ?k3 ?k4 ?k5 ?k6 ?k7 ?k8 ?_); (case k1 => assumption); (case k2 => assumption); (case k3 => assumption); (case k4 => kernel_rfl!); (case k5 => k_is); (case k6 => with_reducible first | exact bb_list | exact bb_min); (case k7 => decide +kernel); (case k8 => kernel_rfl!)) | walk_at "m")
          exact ⟨_, _, rfl, Fr.keep (by assumption), _, by rw [levOf, if_neg hne, if_pos q]⟩
        obtain ⟨p, qn, x, y, hp, hq, p0, q0, hx, hy, hxy⟩ := (hcase.resolve_left hne).elim (fun z => absurd (.inl z) q) fun z => z.elim (fun z => absurd (.inr z) q) id
        have hlev : levOf a b c = if 2 * max (p : Int) qn ≤ c then 2 * max (p : Int) qn else c + 1 := by
          rw [levOf, if_neg hne, if_neg q, hp, hq, List.length_replicate, List.length_replicate]
        rw [hp] at l5 al
        rw [hq] at l6 bl
        rw [List.length_replicate] at al bl
        clear q hp hq hcase F9
        repeat (first | (with_reducible refine x_aug ?_) | ((with_reducible refine' x_assign2 ?k1 ?_); (case k1 => rfl)) | (with_reducible refine isTrue_not ?_) | (with_reducible refine e_none ?_) | (with_reducible refine e_some ?_) | (with_reducible refine isTrue_and_nil ?_) | (with_reducible refine isTrue_and ?_) | (with_reducible refine isTrue_or_nil ?_) | (with_reducible refine isTrue_or ?_) | ((with_reducible refine' x_splmore ?k1 ?_); (case k1 => rfl)) | (with_reducible refine x_splnone ?_) | ((with_reducible refine' x_setitem ?k1 ?_); (case k1 => rfl)) | (with_reducible refine r_none ?_) | ((with_reducible refine' r_ldn ?k1 ?k2 ?k3 ?k4 ?_); (case k1 => assumption); (case k2 => assumption); (case k3 => kernel_rfl!); (case k4 => walk_at "lk")) | ((with_reducible refine' c_t3 ?k1 ?_); (case k1 => rfl)) | ((with_reducible refine r_iadd ?_); intro _ _) | ((with_reducible refine r_isub ?_); intro _ _) | (with_reducible refine r_lt ?_) | (with_reducible refine r_gt ?_) | ((with_reducible refine' r_strue ?k1 ?_); (case k1 => walk_at "len"); intro _) | ((with_reducible refine' r_slenR ?k1 ?_); (case k1 => first | decide | omega); intro _ _) | ((with_reducible refine' r_slen ?k1 ?_); (case k1 => walk_at "len"); intro _ _) | (with_reducible refine r_itrue ?_) | ((with_reducible refine' r_bui ?k1 ?k2 ?k3 ?k4 ?k5 ?k6 ?k7 ?k8 ?_); (case k1 => assumption); (case k2 => assumption); (case k3 => assumption); (case k4 => kernel_rfl!); (case k5 => k_is); (case k6 => with_reducible first | exact bb_list | exact bb_min); (case k7 => decide +kernel); (case k8 => kernel_rfl!)) | walk_at "m")
        refine r_ite (fun z => absurd z (by omega)) fun _ => ?_
        repeat (first | (with_reducible refine x_aug ?_) | ((with_reducible refine' x_assign2 ?k1 ?_); (case k1 => rfl)) | (with_reducible refine isTrue_not ?_) | (with_reducible refine e_none ?_) | (with_reducible refine e_some ?_) | (with_reducible refine isTrue_and_nil ?_) | (with_reducible refine isTrue_and ?_) | (with_reducible refine isTrue_or_nil ?_) | (with_reducible refine isTrue_or ?_) | ((with_reducible refine' x_splmore ?k1 ?_); (case k1 => rfl)) | (with_reducible refine x_splnone ?_) | ((with_reducible refine' x_setitem ?k1 ?_); (case k1 => rfl)) | (with_reducible refine r_none ?_) | ((with_reducible refine' r_ldn ?k1 ?k2 ?k3 ?k4 ?_); (case k1 => assumption); (case k2 => assumption); (case k3 => kernel_rfl!); (case k4 => walk_at "lk")) | ((with_reducible refine' c_t3 ?k1 ?_); (case k1 => rfl)) | ((with_reducible refine r_iadd ?_); intro _ _) | ((with_reducible refine r_isub ?_); intro _ _) | (with_reducible refine r_lt ?_) | (with_reducible refine r_gt ?_) | ((with_reducible refine' r_strue ?k1 ?_); (case k1 => walk_at "len"); intro _) | ((with_reducible refine' r_slenR ?k1 ?_); (case k1 => first | decide | omega); intro _ _) | ((with_reducible refine' r_slen ?k1 ?_); (case k1 => walk_at "len"); intro _ _) | (with_reducible refine r_itrue ?_) | ((with_reducible refine' r_bui ?k1 ?k2 ?k3 ?k4 ?k5 ?k6 ?k7 ?k8 ?_); (case k1 => assumption); (case k2 => assumption); (case k3 => assumption); (case k4 => kernel_rfl!); (case k5 => k_is); (case k6 => with_reducible first | exact bb_list | exact bb_min); (case k7 => decide +kernel); (case k8 => kernel_rfl!)) | walk_at "m")
        refine r_ite (fun z => absurd z (by omega)) fun _ => isTrue_or_nil (r_iteb (fun z => absurd z (by decide)) fun _ => ?_)
        -- the shorter one first
        refine x_if_join (fun s₂ => ∃ h' tk' m' P R x y t t' t'', s₂ = ⟨h', gs, dr, tk', os⟩ ∧ Fr h L h' m' ∧ m' (Str.ofString "a") = some (.str (S (List.replicate P x)) t) ∧ m' (Str.ofString "b") = some (.str (S (List.replicate R y)) t') ∧ m' (Str.ofString "max_cost") = some (.int c t'') ∧
          0 < P ∧ P ≤ R ∧ R ≤ 30 ∧ (R : Int) = max (p : Int) qn ∧ (x = 9 ∨ x = 32) ∧ (y = 9 ∨ y = 32) ∧ x ≠ y) ?_ ?_
        · repeat (first | (with_reducible refine x_aug ?_) | ((with_reducible refine' x_assign2 ?k1 ?_); (case k1 => rfl)) | (with_reducible refine isTrue_not ?_) | (with_reducible refine e_none ?_) | (with_reducible refine e_some ?_) | (with_reducible refine isTrue_and_nil ?_) | (with_reducible refine isTrue_and ?_) | (with_reducible refine isTrue_or_nil ?_) | (with_reducible refine isTrue_or ?_) | ((with_reducible refine' x_splmore ?k1 ?_); (case k1 => rfl)) | (with_reducible refine x_splnone ?_) | ((with_reducible refine' x_setitem ?k1 ?_); (case k1 => rfl)) | (with_reducible refine r_none ?_) | ((with_reducible refine' r_ldn ?k1 ?k2 ?k3 ?k4 ?_); (case k1 => assumption); (case k2 => assumption); (case k3 => kernel_rfl!); (case k4 => walk_at "lk")) | ((with_reducible refine' c_t3 ?k1 ?_); (case k1 => rfl)) | ((with_reducible refine r_iadd ?_); intro _ _) | ((with_reducible refine r_isub ?_); intro _ _) | (with_reducible refine r_lt ?_) | (with_reducible refine r_gt ?_) | ((with_reducible refine' r_strue ?k1 ?_); (case k1 => walk_at "len"); intro _) | ((with_reducible refine' r_slenR ?k1 ?_); (case k1 => first | decide | omega); intro _ _) | ((with_reducible refine' r_slen ?k1 ?_); (case k1 => walk_at "len"); intro _ _) | (with_reducible refine r_itrue ?_) | ((with_reducible refine' r_bui ?k1 ?k2 ?k3 ?k4 ?k5 ?k6 ?k7 ?k8 ?_); (case k1 => assumption); (case k2 => assumption); (case k3 => assumption); (case k4 => kernel_rfl!); (case k5 => k_is); (case k6 => with_reducible first | exact bb_list | exact bb_min); (case k7 => decide +kernel); (case k8 => kernel_rfl!)) | walk_at "m")
          refine r_ite (fun z => ?_) fun z => ?_
          · refine x_swap (h₀ := h) e r0 (by kernel_rfl!) (by kernel_rfl!) (by kernel_rfl!) (by rfl) (by rfl) (by rfl) (by rfl) (by rfl) ?_
            repeat (first | (with_reducible refine x_aug ?_) | ((with_reducible refine' x_assign2 ?k1 ?_); (case k1 => rfl)) | (with_reducible refine isTrue_not ?_) | (with_reducible refine e_none ?_) | (with_reducible refine e_some ?_) | (with_reducible refine isTrue_and_nil ?_) | (with_reducible refine isTrue_and ?_) | (with_reducible refine isTrue_or_nil ?_) | (with_reducible refine isTrue_or ?_) | ((with_reducible refine' x_splmore ?k1 ?_); (case k1 => rfl)) | (with_reducible refine x_splnone ?_) | ((with_reducible refine' x_setitem ?k1 ?_); (case k1 => rfl)) | (with_reducible refine r_none ?_) | ((with_reducible refine' r_ldn ?k1 ?k2 ?k3 ?k4 ?_); (case k1 => assumption); (case k2 => assumption); (case k3 => kernel_rfl!); (case k4 => walk_at "lk")) | ((with_reducible refine' c_t3 ?k1 ?_); (case k1 => rfl)) | ((with_reducible refine r_iadd ?_); intro _ _) | ((with_reducible refine r_isub ?_); intro _ _) | (with_reducible refine r_lt ?_) | (with_reducible refine r_gt ?_) | ((with_reducible refine' r_strue ?k1 ?_); (case k1 => walk_at "len"); intro _) | ((with_reducible refine' r_slenR ?k1 ?_); (case k1 => first | decide | omega); intro _ _) | ((with_reducible refine' r_slen ?k1 ?_); (case k1 => walk_at "len"); intro _ _) | (with_reducible refine r_itrue ?_) | ((with_reducible refine' r_bui ?k1 ?k2 ?k3 ?k4 ?k5 ?k6 ?k7 ?k8 ?_); (case k1 => assumption); (case k2 => assumption); (case k3 => assumption); (case k4 => kernel_rfl!); (case k5 => k_is); (case k6 => with_reducible first | exact bb_list | exact bb_min); (case k7 => decide +kernel); (case k8 => kernel_rfl!)) | walk_at "m")
            rename_i ht _ FF
            refine ⟨_, _, _, _, _, _, rfl, rfl, ht, FF, fun h₂ tk₂ F₂ _ => ?_⟩
            repeat (first | (with_reducible refine x_aug ?_) | ((with_reducible refine' x_assign2 ?k1 ?_); (case k1 => rfl)) | (with_reducible refine isTrue_not ?_) | (with_reducible refine e_none ?_) | (with_reducible refine e_some ?_) | (with_reducible refine isTrue_and_nil ?_) | (with_reducible refine isTrue_and ?_) | (with_reducible refine isTrue_or_nil ?_) | (with_reducible refine isTrue_or ?_) | ((with_reducible refine' x_splmore ?k1 ?_); (case k1 => rfl)) | (with_reducible refine x_splnone ?_) | ((with_reducible refine' x_setitem ?k1 ?_); (case k1 => rfl)) | (with_reducible refine r_none ?_) | ((with_reducible refine' r_ldn ?k1 ?k2 ?k3 ?k4 ?_); (case k1 => assumption); (case k2 => assumption); (case k3 => kernel_rfl!); (case k4 => walk_at "lk")) | ((with_reducible refine' c_t3 ?k1 ?_); (case k1 => rfl)) | ((with_reducible refine r_iadd ?_); intro _ _) | ((with_reducible refine r_isub ?_); intro _ _) | (with_reducible refine r_lt ?_) | (with_reducible refine r_gt ?_) | ((with_reducible refine' r_strue ?k1 ?_); (case k1 => walk_at "len"); intro _) | ((with_reducible refine' r_slenR ?k1 ?_); (case k1 => first | decide | omega); intro _ _) | ((with_reducible refine' r_slen ?k1 ?_); (case k1 => walk_at "len"); intro _ _) | (with_reducible refine r_itrue ?_) | ((with_reducible refine' r_bui ?k1 ?k2 ?k3 ?k4 ?k5 ?k6 ?k7 ?k8 ?_); (case k1 => assumption); (case k2 => assumption); (case k3 => assumption); (case k4 => kernel_rfl!); (case k5 => k_is); (case k6 => with_reducible first | exact bb_list | exact bb_min); (case k7 => decide +kernel); (case k8 => kernel_rfl!)) | walk_at "m")
            exact ⟨rfl, _, _, _, qn, p, y, x, _, _, _, rfl, F₂, by walk_at "lk", by walk_at "lk", by walk_at "lk", q0, by omega, by omega, by omega, hy, hx, Ne.symm hxy⟩
          · repeat (first | (with_reducible refine x_aug ?_) | ((with_reducible refine' x_assign2 ?k1 ?_); (case k1 => rfl)) | (with_reducible refine isTrue_not ?_) | (with_reducible refine e_none ?_) | (with_reducible refine e_some ?_) | (with_reducible refine isTrue_and_nil ?_) | (with_reducible refine isTrue_and ?_) | (with_reducible refine isTrue_or_nil ?_) | (with_reducible refine isTrue_or ?_) | ((with_reducible refine' x_splmore ?k1 ?_); (case k1 => rfl)) | (with_reducible refine x_splnone ?_) | ((with_reducible refine' x_setitem ?k1 ?_); (case k1 => rfl)) | (with_reducible refine r_none ?_) | ((with_reducible refine' r_ldn ?k1 ?k2 ?k3 ?k4 ?_); (case k1 => assumption); (case k2 => assumption); (case k3 => kernel_rfl!); (case k4 => walk_at "lk")) | ((with_reducible refine' c_t3 ?k1 ?_); (case k1 => rfl)) | ((with_reducible refine r_iadd ?_); intro _ _) | ((with_reducible refine r_isub ?_); intro _ _) | (with_reducible refine r_lt ?_) | (with_reducible refine r_gt ?_) | ((with_reducible refine' r_strue ?k1 ?_); (case k1 => walk_at "len"); intro _) | ((with_reducible refine' r_slenR ?k1 ?_); (case k1 => first | decide | omega); intro _ _) | ((with_reducible refine' r_slen ?k1 ?_); (case k1 => walk_at "len"); intro _ _) | (with_reducible refine r_itrue ?_) | ((with_reducible refine' r_bui ?k1 ?k2 ?k3 ?k4 ?k5 ?k6 ?k7 ?k8 ?_); (case k1 => assumption); (case k2 => assumption); (case k3 => assumption); (case k4 => kernel_rfl!); (case k5 => k_is); (case k6 => with_reducible first | exact bb_list | exact bb_min); (case k7 => decide +kernel); (case k8 => kernel_rfl!)) | walk_at "m")
            exact ⟨rfl, _, _, _, p, qn, x, y, _, _, _, rfl, F10, l5, l6, l7, p0, by omega, by omega, by omega, hx, hy, hxy⟩
        rintro s₂ ⟨h11, tk11, m11, P, R, x, y, t1, t2, t3, rfl, F11, l8, l9, l10, P0, PR, R30, hR, hx, hy, hxy⟩
        clear F10 l5 l6 l7
        rw [← hR] at hlev
        clear hR
        repeat (first | (with_reducible refine x_aug ?_) | ((with_reducible refine' x_assign2 ?k1 ?_); (case k1 => rfl)) | (with_reducible refine isTrue_not ?_) | (with_reducible refine e_none ?_) | (with_reducible refine e_some ?_) | (with_reducible refine isTrue_and_nil ?_) | (with_reducible refine isTrue_and ?_) | (with_reducible refine isTrue_or_nil ?_) | (with_reducible refine isTrue_or ?_) | ((with_reducible refine' x_splmore ?k1 ?_); (case k1 => rfl)) | (with_reducible refine x_splnone ?_) | ((with_reducible refine' x_setitem ?k1 ?_); (case k1 => rfl)) | (with_reducible refine r_none ?_) | ((with_reducible refine' r_ldn ?k1 ?k2 ?k3 ?k4 ?_); (case k1 => assumption); (case k2 => assumption); (case k3 => kernel_rfl!); (case k4 => walk_at "lk")) | ((with_reducible refine' c_t3 ?k1 ?_); (case k1 => rfl)) | ((with_reducible refine r_iadd ?_); intro _ _) | ((with_reducible refine r_isub ?_); intro _ _) | (with_reducible refine r_lt ?_) | (with_reducible refine r_gt ?_) | ((with_reducible refine' r_strue ?k1 ?_); (case k1 => walk_at "len"); intro _) | ((with_reducible refine' r_slenR ?k1 ?_); (case k1 => first | decide | omega); intro _ _) | ((with_reducible refine' r_slen ?k1 ?_); (case k1 => walk_at "len"); intro _ _) | (with_reducible refine r_itrue ?_) | ((with_reducible refine' r_bui ?k1 ?k2 ?k3 ?k4 ?k5 ?k6 ?k7 ?k8 ?_); (case k1 => assumption); (case k2 => assumption); (case k3 => assumption); (case k4 => kernel_rfl!); (case k5 => k_is); (case k6 => with_reducible first | exact bb_list | exact bb_min); (case k7 => decide +kernel); (case k8 => kernel_rfl!)) | walk_at "m")
        refine r_ite (fun z => ?_) fun z => ?_
        · repeat (first | (with_reducible refine x_aug ?_) | ((with_reducible refine' x_assign2 ?k1 ?_); (case k1 => rfl)) | (with_reducible refine isTrue_not ?_) | (with_reducible refine e_none ?_) | (with_reducible refine e_some ?_) | (with_reducible refine isTrue_and_nil ?_) | (with_reducible refine isTrue_and ?_) | (with_reducible refine isTrue_or_nil ?_) | (with_reducible refine isTrue_or ?_) | ((with_reducible refine' x_splmore ?k1 ?_); (case k1 => rfl)) | (with_reducible refine x_splnone ?_) | ((with_reducible refine' x_setitem ?k1 ?_); (case k1 => rfl)) | (with_reducible refine r_none ?_) | ((with_reducible refine' r_ldn ?k1 ?k2 ?k3 ?k4 ?_); (case k1 => assumption); (case k2 => assumption); (case k3 => kernel_rfl!); (case k4 => walk_at "lk")) | ((with_reducible refine' c_t3 ?k1 ?_); (case k1 => rfl)) | ((with_reducible refine r_iadd ?_); intro _ _) | ((with_reducible refine r_isub ?_); intro _ _) | (with_reducible refine r_lt ?_) | (with_reducible refine r_gt ?_) | ((with_reducible refine' r_strue ?k1 ?_); (case k1 => walk_at "len"); intro _) | ((with_reducible refine' r_slenR ?k1 ?_); (case k1 => first | decide | omega); intro _ _) | ((with_reducible refine' r_slen ?k1 ?_); (case k1 => walk_at "len"); intro _ _) | (with_reducible refine r_itrue ?_) | ((with_reducible refine' r_bui ?k1 ?k2 ?k3 ?k4 ?k5 ?k6 ?k7 ?k8 ?_); (case k1 => assumption); (case k2 => assumption); (case k3 => assumption); (case k4 => kernel_rfl!); (case k5 => k_is); (case k6 => with_reducible first | exact bb_list | exact bb_min); (case k7 => decide +kernel); (case k8 => kernel_rfl!)) | walk_at "m")
          exact ⟨_, _, rfl, Fr.keep (by assumption), _, by rw [hlev, if_neg (by omega)]⟩
        repeat (first | (with_reducible refine x_aug ?_) | ((with_reducible refine' x_assign2 ?k1 ?_); (case k1 => rfl)) | (with_reducible refine isTrue_not ?_) | (with_reducible refine e_none ?_) | (with_reducible refine e_some ?_) | (with_reducible refine isTrue_and_nil ?_) | (with_reducible refine isTrue_and ?_) | (with_reducible refine isTrue_or_nil ?_) | (with_reducible refine isTrue_or ?_) | ((with_reducible refine' x_splmore ?k1 ?_); (case k1 => rfl)) | (with_reducible refine x_splnone ?_) | ((with_reducible refine' x_setitem ?k1 ?_); (case k1 => rfl)) | (with_reducible refine r_none ?_) | ((with_reducible refine' r_ldn ?k1 ?k2 ?k3 ?k4 ?_); (case k1 => assumption); (case k2 => assumption); (case k3 => kernel_rfl!); (case k4 => walk_at "lk")) | ((with_reducible refine' c_t3 ?k1 ?_); (case k1 => rfl)) | ((with_reducible refine r_iadd ?_); intro _ _) | ((with_reducible refine r_isub ?_); intro _ _) | (with_reducible refine r_lt ?_) | (with_reducible refine r_gt ?_) | ((with_reducible refine' r_strue ?k1 ?_); (case k1 => walk_at "len"); intro _) | ((with_reducible refine' r_slenR ?k1 ?_); (case k1 => first | decide | omega); intro _ _) | ((with_reducible refine' r_slen ?k1 ?_); (case k1 => walk_at "len"); intro _ _) | (with_reducible refine r_itrue ?_) | ((with_reducible refine' r_bui ?k1 ?k2 ?k3 ?k4 ?k5 ?k6 ?k7 ?k8 ?_); (case k1 => assumption); (case k2 => assumption); (case k3 => assumption); (case k4 => kernel_rfl!); (case k5 => k_is); (case k6 => with_reducible first | exact bb_list | exact bb_min); (case k7 => decide +kernel); (case k8 => kernel_rfl!)) | walk_at "m")
        refine r_list2 r0 (by assumption) P0 (by omega) fun D h12 tk12 vs X12 hD hL hIn => ?_
        rename_i Fa
        have hLD : L < D := Nat.lt_of_lt_of_le Fa.ns.lt hD
        have hDL : D ≠ L := Nat.ne_of_gt hLD
        have hD0 : h.get? D = none := fresh_none (Nat.le_of_lt (Nat.lt_of_le_of_lt Fa.above hLD))
        have F12 := Fr.keeps Fa X12
        (first | (with_reducible refine x_aug ?_) | ((with_reducible refine' x_assign2 ?k1 ?_); (case k1 => rfl)) | (with_reducible refine isTrue_not ?_) | (with_reducible refine e_none ?_) | (with_reducible refine e_some ?_) | (with_reducible refine isTrue_and_nil ?_) | (with_reducible refine isTrue_and ?_) | (with_reducible refine isTrue_or_nil ?_) | (with_reducible refine isTrue_or ?_) | ((with_reducible refine' x_splmore ?k1 ?_); (case k1 => rfl)) | (with_reducible refine x_splnone ?_) | ((with_reducible refine' x_setitem ?k1 ?_); (case k1 => rfl)) | (with_reducible refine r_none ?_) | ((with_reducible refine' r_ldn ?k1 ?k2 ?k3 ?k4 ?_); (case k1 => assumption); (case k2 => assumption); (case k3 => kernel_rfl!); (case k4 => walk_at "lk")) | ((with_reducible refine' c_t3 ?k1 ?_); (case k1 => rfl)) | ((with_reducible refine r_iadd ?_); intro _ _) | ((with_reducible refine r_isub ?_); intro _ _) | (with_reducible refine r_lt ?_) | (with_reducible refine r_gt ?_) | ((with_reducible refine' r_strue ?k1 ?_); (case k1 => walk_at "len"); intro _) | ((with_reducible refine' r_slenR ?k1 ?_); (case k1 => first | decide | omega); intro _ _) | ((with_reducible refine' r_slen ?k1 ?_); (case k1 => walk_at "len"); intro _ _) | (with_reducible refine r_itrue ?_) | ((with_reducible refine' r_bui ?k1 ?k2 ?k3 ?k4 ?k5 ?k6 ?k7 ?k8 ?_); (case k1 => assumption); (case k2 => assumption); (case k3 => assumption); (case k4 => kernel_rfl!); (case k5 => k_is); (case k6 => with_reducible first | exact bb_list | exact bb_min); (case k7 => decide +kernel); (case k8 => kernel_rfl!)) | walk_at "m")
        (first | (with_reducible refine x_aug ?_) | ((with_reducible refine' x_assign2 ?k1 ?_); (case k1 => rfl)) | (with_reducible refine isTrue_not ?_) | (with_reducible refine e_none ?_) | (with_reducible refine e_some ?_) | (with_reducible refine isTrue_and_nil ?_) | (with_reducible refine isTrue_and ?_) | (with_reducible refine isTrue_or_nil ?_) | (with_reducible refine isTrue_or ?_) | ((with_reducible refine' x_splmore ?k1 ?_); (case k1 => rfl)) | (with_reducible refine x_splnone ?_) | ((with_reducible refine' x_setitem ?k1 ?_); (case k1 => rfl)) | (with_reducible refine r_none ?_) | ((with_reducible refine' r_ldn ?k1 ?k2 ?k3 ?k4 ?_); (case k1 => assumption); (case k2 => assumption); (case k3 => kernel_rfl!); (case k4 => walk_at "lk")) | ((with_reducible refine' c_t3 ?k1 ?_); (case k1 => rfl)) | ((with_reducible refine r_iadd ?_); intro _ _) | ((with_reducible refine r_isub ?_); intro _ _) | (with_reducible refine r_lt ?_) | (with_reducible refine r_gt ?_) | ((with_reducible refine' r_strue ?k1 ?_); (case k1 => walk_at "len"); intro _) | ((with_reducible refine' r_slenR ?k1 ?_); (case k1 => first | decide | omega); intro _ _) | ((with_reducible refine' r_slen ?k1 ?_); (case k1 => walk_at "len"); intro _ _) | (with_reducible refine r_itrue ?_) | ((with_reducible refine' r_bui ?k1 ?k2 ?k3 ?k4 ?k5 ?k6 ?k7 ?k8 ?_); (case k1 => assumption); (case k2 => assumption); (case k3 => assumption); (case k4 => kernel_rfl!); (case k5 => k_is); (case k6 => with_reducible first | exact bb_list | exact bb_min); (case k7 => decide +kernel); (case k8 => kernel_rfl!)) | walk_at "m")
        (first | (with_reducible refine x_aug ?_) | ((with_reducible refine' x_assign2 ?k1 ?_); (case k1 => rfl)) | (with_reducible refine isTrue_not ?_) | (with_reducible refine e_none ?_) | (with_reducible refine e_some ?_) | (with_reducible refine isTrue_and_nil ?_) | (with_reducible refine isTrue_and ?_) | (with_reducible refine isTrue_or_nil ?_) | (with_reducible refine isTrue_or ?_) | ((with_reducible refine' x_splmore ?k1 ?_); (case k1 => rfl)) | (with_reducible refine x_splnone ?_) | ((with_reducible refine' x_setitem ?k1 ?_); (case k1 => rfl)) | (with_reducible refine r_none ?_) | ((with_reducible refine' r_ldn ?k1 ?k2 ?k3 ?k4 ?_); (case k1 => assumption); (case k2 => assumption); (case k3 => kernel_rfl!); (case k4 => walk_at "lk")) | ((with_reducible refine' c_t3 ?k1 ?_); (case k1 => rfl)) | ((with_reducible refine r_iadd ?_); intro _ _) | ((with_reducible refine r_isub ?_); intro _ _) | (with_reducible refine r_lt ?_) | (with_reducible refine r_gt ?_) | ((with_reducible refine' r_strue ?k1 ?_); (case k1 => walk_at "len"); intro _) | ((with_reducible refine' r_slenR ?k1 ?_); (case k1 => first | decide | omega); intro _ _) | ((with_reducible refine' r_slen ?k1 ?_); (case k1 => walk_at "len"); intro _ _) | (with_reducible refine r_itrue ?_) | ((with_reducible refine' r_bui ?k1 ?k2 ?k3 ?k4 ?k5 ?k6 ?k7 ?k8 ?_); (case k1 => assumption); (case k2 => assumption); (case k3 => assumption); (case k4 => kernel_rfl!); (case k5 => k_is); (case k6 => with_reducible first | exact bb_list | exact bb_min); (case k7 => decide +kernel); (case k8 => kernel_rfl!)) | walk_at "m")
        (first | (with_reducible refine x_aug ?_) | ((with_reducible refine' x_assign2 ?k1 ?_); (case k1 => rfl)) | (with_reducible refine isTrue_not ?_) | (with_reducible refine e_none ?_) | (with_reducible refine e_some ?_) | (with_reducible refine isTrue_and_nil ?_) | (with_reducible refine isTrue_and ?_) | (with_reducible refine isTrue_or_nil ?_) | (with_reducible refine isTrue_or ?_) | ((with_reducible refine' x_splmore ?k1 ?_); (case k1 => rfl)) | (with_reducible refine x_splnone ?_) | ((with_reducible refine' x_setitem ?k1 ?_); (case k1 => rfl)) | (with_reducible refine r_none ?_) | ((with_reducible refine' r_ldn ?k1 ?k2 ?k3 ?k4 ?_); (case k1 => assumption); (case k2 => assumption); (case k3 => kernel_rfl!); (case k4 => walk_at "lk")) | ((with_reducible refine' c_t3 ?k1 ?_); (case k1 => rfl)) | ((with_reducible refine r_iadd ?_); intro _ _) | ((with_reducible refine r_isub ?_); intro _ _) | (with_reducible refine r_lt ?_) | (with_reducible refine r_gt ?_) | ((with_reducible refine' r_strue ?k1 ?_); (case k1 => walk_at "len"); intro _) | ((with_reducible refine' r_slenR ?k1 ?_); (case k1 => first | decide | omega); intro _ _) | ((with_reducible refine' r_slen ?k1 ?_); (case k1 => walk_at "len"); intro _ _) | (with_reducible refine r_itrue ?_) | ((with_reducible refine' r_bui ?k1 ?k2 ?k3 ?k4 ?k5 ?k6 ?k7 ?k8 ?_); (case k1 => assumption); (case k2 => assumption); (case k3 => assumption); (case k4 => kernel_rfl!); (case k5 => k_is); (case k6 => with_reducible first | exact bb_list | exact bb_min); (case k7 => decide +kernel); (case k8 => kernel_rfl!)) | walk_at "m")
        rename_i h13 tk13 s13 F13 s13'
        refine x_for (fun _ => rfl) ?_
        repeat (first | (with_reducible refine x_aug ?_) | ((with_reducible refine' x_assign2 ?k1 ?_); (case k1 => rfl)) | (with_reducible refine isTrue_not ?_) | (with_reducible refine e_none ?_) | (with_reducible refine e_some ?_) | (with_reducible refine isTrue_and_nil ?_) | (with_reducible refine isTrue_and ?_) | (with_reducible refine isTrue_or_nil ?_) | (with_reducible refine isTrue_or ?_) | ((with_reducible refine' x_splmore ?k1 ?_); (case k1 => rfl)) | (with_reducible refine x_splnone ?_) | ((with_reducible refine' x_setitem ?k1 ?_); (case k1 => rfl)) | (with_reducible refine r_none ?_) | ((with_reducible refine' r_ldn ?k1 ?k2 ?k3 ?k4 ?_); (case k1 => assumption); (case k2 => assumption); (case k3 => kernel_rfl!); (case k4 => walk_at "lk")) | ((with_reducible refine' c_t3 ?k1 ?_); (case k1 => rfl)) | ((with_reducible refine r_iadd ?_); intro _ _) | ((with_reducible refine r_isub ?_); intro _ _) | (with_reducible refine r_lt ?_) | (with_reducible refine r_gt ?_) | ((with_reducible refine' r_strue ?k1 ?_); (case k1 => walk_at "len"); intro _) | ((with_reducible refine' r_slenR ?k1 ?_); (case k1 => first | decide | omega); intro _ _) | ((with_reducible refine' r_slen ?k1 ?_); (case k1 => walk_at "len"); intro _ _) | (with_reducible refine r_itrue ?_) | ((with_reducible refine' r_bui ?k1 ?k2 ?k3 ?k4 ?k5 ?k6 ?k7 ?k8 ?_); (case k1 => assumption); (case k2 => assumption); (case k3 => assumption); (case k4 => kernel_rfl!); (case k5 => k_is); (case k6 => with_reducible first | exact bb_list | exact bb_min); (case k7 => decide +kernel); (case k8 => kernel_rfl!)) | walk_at "m")
        rename_i rg h14 _ _ _ _ X14 hrg F14
        have RA : RowAt h14 D P (fun i => 2 * max ((i : Int) + 1) (0 : Nat)) := ⟨vs, list_at hL fun o q => by walk_at "kd", hIn.to fun i _ => by omega⟩
        refine for_range (X := [L, D]) (OutI P R x y c D) R (by omega) hrg (by omega) r0 e (by kernel_rfl!) (.head _) ?_ F14 ?_ ?_ ?_ ?_
        · intro z hz
          rcases List.mem_cons.mp hz with rfl | hz
          · exact F14.ns.lt
          · rw [List.mem_singleton.mp hz]
            obtain ⟨_, ⟨o, ho, _⟩, _⟩ := RA
            exact Heap.lt_size ho
        · intro h' X'
          exact ⟨⟨⟨_, by walk_at "lk"⟩, ⟨_, by walk_at "lk"⟩, ⟨_, by walk_at "lk"⟩, by walk_at "lk"⟩, RA.at fun o q => X' _ _ q, _, _, upd_eq, fun z => absurd z (by omega)⟩
        · rintro I i h₁ h₂ m₁ hI ⟨i1, i2, i3⟩ O
          refine ⟨i1, i2.at fun o q => O D o ?_ q, i3⟩
          intro hz
          rcases List.mem_cons.mp hz with hz | hz
          · exact hDL hz
          · obtain ⟨_, ⟨o, ho, _⟩, _⟩ := RA
            have hlt := Heap.lt_size ho
            rw [List.mem_singleton.mp hz] at hlt
            exact absurd hlt (Nat.not_lt.mpr hI)
        · rintro j tj h15 m15 tk15 hj ⟨⟨⟨t1, i1⟩, ⟨t2, i2⟩, ⟨t3, i3⟩, i4⟩, RA1, -⟩ O15 F15
          clear l8 l9 l10
          repeat (first | (with_reducible refine x_aug ?_) | ((with_reducible refine' x_assign2 ?k1 ?_); (case k1 => rfl)) | (with_reducible refine isTrue_not ?_) | (with_reducible refine e_none ?_) | (with_reducible refine e_some ?_) | (with_reducible refine isTrue_and_nil ?_) | (with_reducible refine isTrue_and ?_) | (with_reducible refine isTrue_or_nil ?_) | (with_reducible refine isTrue_or ?_) | ((with_reducible refine' x_splmore ?k1 ?_); (case k1 => rfl)) | (with_reducible refine x_splnone ?_) | ((with_reducible refine' x_setitem ?k1 ?_); (case k1 => rfl)) | (with_reducible refine r_none ?_) | ((with_reducible refine' r_ldn ?k1 ?k2 ?k3 ?k4 ?_); (case k1 => assumption); (case k2 => assumption); (case k3 => kernel_rfl!); (case k4 => walk_at "lk")) | ((with_reducible refine' c_t3 ?k1 ?_); (case k1 => rfl)) | ((with_reducible refine r_iadd ?_); intro _ _) | ((with_reducible refine r_isub ?_); intro _ _) | (with_reducible refine r_lt ?_) | (with_reducible refine r_gt ?_) | ((with_reducible refine' r_strue ?k1 ?_); (case k1 => walk_at "len"); intro _) | ((with_reducible refine' r_slenR ?k1 ?_); (case k1 => first | decide | omega); intro _ _) | ((with_reducible refine' r_slen ?k1 ?_); (case k1 => walk_at "len"); intro _ _) | (with_reducible refine r_itrue ?_) | ((with_reducible refine' r_bui ?k1 ?k2 ?k3 ?k4 ?k5 ?k6 ?k7 ?k8 ?_); (case k1 => assumption); (case k2 => assumption); (case k3 => assumption); (case k4 => kernel_rfl!); (case k5 => k_is); (case k6 => with_reducible first | exact bb_list | exact bb_min); (case k7 => decide +kernel); (case k8 => kernel_rfl!)) | walk_at "m")
          refine r_sitem (c := y) (by rw [show (0 : Int) + (j : Nat) = (j : Nat) from Int.zero_add _, List.length_replicate, idx_nat hj]; simp [hj]) (by omega) rfl fun _ _ => ?_
          repeat (first | (with_reducible refine x_aug ?_) | ((with_reducible refine' x_assign2 ?k1 ?_); (case k1 => rfl)) | (with_reducible refine isTrue_not ?_) | (with_reducible refine e_none ?_) | (with_reducible refine e_some ?_) | (with_reducible refine isTrue_and_nil ?_) | (with_reducible refine isTrue_and ?_) | (with_reducible refine isTrue_or_nil ?_) | (with_reducible refine isTrue_or ?_) | ((with_reducible refine' x_splmore ?k1 ?_); (case k1 => rfl)) | (with_reducible refine x_splnone ?_) | ((with_reducible refine' x_setitem ?k1 ?_); (case k1 => rfl)) | (with_reducible refine r_none ?_) | ((with_reducible refine' r_ldn ?k1 ?k2 ?k3 ?k4 ?_); (case k1 => assumption); (case k2 => assumption); (case k3 => kernel_rfl!); (case k4 => walk_at "lk")) | ((with_reducible refine' c_t3 ?k1 ?_); (case k1 => rfl)) | ((with_reducible refine r_iadd ?_); intro _ _) | ((with_reducible refine r_isub ?_); intro _ _) | (with_reducible refine r_lt ?_) | (with_reducible refine r_gt ?_) | ((with_reducible refine' r_strue ?k1 ?_); (case k1 => walk_at "len"); intro _) | ((with_reducible refine' r_slenR ?k1 ?_); (case k1 => first | decide | omega); intro _ _) | ((with_reducible refine' r_slen ?k1 ?_); (case k1 => walk_at "len"); intro _ _) | (with_reducible refine r_itrue ?_) | ((with_reducible refine' r_bui ?k1 ?k2 ?k3 ?k4 ?k5 ?k6 ?k7 ?k8 ?_); (case k1 => assumption); (case k2 => assumption); (case k3 => assumption); (case k4 => kernel_rfl!); (case k5 => k_is); (case k6 => with_reducible first | exact bb_list | exact bb_min); (case k7 => decide +kernel); (case k8 => kernel_rfl!)) | walk_at "m")
          refine x_for (fun _ => rfl) ?_
          repeat (first | (with_reducible refine x_aug ?_) | ((with_reducible refine' x_assign2 ?k1 ?_); (case k1 => rfl)) | (with_reducible refine isTrue_not ?_) | (with_reducible refine e_none ?_) | (with_reducible refine e_some ?_) | (with_reducible refine isTrue_and_nil ?_) | (with_reducible refine isTrue_and ?_) | (with_reducible refine isTrue_or_nil ?_) | (with_reducible refine isTrue_or ?_) | ((with_reducible refine' x_splmore ?k1 ?_); (case k1 => rfl)) | (with_reducible refine x_splnone ?_) | ((with_reducible refine' x_setitem ?k1 ?_); (case k1 => rfl)) | (with_reducible refine r_none ?_) | ((with_reducible refine' r_ldn ?k1 ?k2 ?k3 ?k4 ?_); (case k1 => assumption); (case k2 => assumption); (case k3 => kernel_rfl!); (case k4 => walk_at "lk")) | ((with_reducible refine' c_t3 ?k1 ?_); (case k1 => rfl)) | ((with_reducible refine r_iadd ?_); intro _ _) | ((with_reducible refine r_isub ?_); intro _ _) | (with_reducible refine r_lt ?_) | (with_reducible refine r_gt ?_) | ((with_reducible refine' r_strue ?k1 ?_); (case k1 => walk_at "len"); intro _) | ((with_reducible refine' r_slenR ?k1 ?_); (case k1 => first | decide | omega); intro _ _) | ((with_reducible refine' r_slen ?k1 ?_); (case k1 => walk_at "len"); intro _ _) | (with_reducible refine r_itrue ?_) | ((with_reducible refine' r_bui ?k1 ?k2 ?k3 ?k4 ?k5 ?k6 ?k7 ?k8 ?_); (case k1 => assumption); (case k2 => assumption); (case k3 => assumption); (case k4 => kernel_rfl!); (case k5 => k_is); (case k6 => with_reducible first | exact bb_list | exact bb_min); (case k7 => decide +kernel); (case k8 => kernel_rfl!)) | walk_at "m")
          rename_i rg2 h16 _ _ _ _ X16 hrg2 F16
          have RA2 : RowAt h16 D P (fun q => if q < 0 then 2 * max ((q : Int) + 1) (j + 1) else 2 * max ((q : Int) + 1) j) := by
            obtain ⟨vs, v1, v2⟩ := RA1
            exact ⟨vs, list_at v1 fun o q => by walk_at "kd", v2.to fun i _ => if_neg (Nat.not_lt_zero i)⟩
          refine for_range (X := [L, D]) (InI P R x y c D j) P (by omega) hrg2 (by omega) r0 e (by kernel_rfl!) (.head _) ?_ F16 ?_ ?_ ?_ ?_
          · intro z hz
            rcases List.mem_cons.mp hz with rfl | hz
            · exact F16.ns.lt
            · rw [List.mem_singleton.mp hz]
              obtain ⟨_, ⟨o, ho, _⟩, _⟩ := RA2
              exact Heap.lt_size ho
          · intro h' X'
            exact ⟨⟨⟨_, by walk_at "lk"⟩, ⟨_, by walk_at "lk"⟩, ⟨_, by walk_at "lk"⟩, by walk_at "lk"⟩, RA2.at fun o q => X' _ _ q, ⟨_, by walk_at "lk"⟩, ⟨_, _, by walk_at "lk", by omega⟩, ⟨_, _, by walk_at "lk", by omega, by omega⟩, _, _, by walk_at "lk", fun _ => rfl, by omega⟩
          · rintro I i h₁ h₂ m₁ hI ⟨k1, k2, k3⟩ O
            refine ⟨k1, k2.at fun o q => O D o ?_ q, k3⟩
            intro hz
            rcases List.mem_cons.mp hz with hz | hz
            · exact hDL hz
            · obtain ⟨_, ⟨o, ho, _⟩, _⟩ := RA2
              have hlt := Heap.lt_size ho
              rw [List.mem_singleton.mp hz] at hlt
              exact absurd hlt (Nat.not_lt.mpr hI)
          · clear i1 i2 i3 i4 RA1 RA2
            rintro k tk0 h17 m17 tk17 hk ⟨⟨⟨t1, i1⟩, ⟨t2, i2⟩, ⟨t3, i3⟩, i4⟩, ⟨vs, V1, V2⟩, ⟨t4, i5⟩, ⟨d, t5, i6, e6⟩, ⟨rr, t7, i7, e7, e7'⟩, mn, t8, i8, e8, e8'⟩ O17 F17
            repeat (first | (with_reducible refine x_aug ?_) | ((with_reducible refine' x_assign2 ?k1 ?_); (case k1 => rfl)) | (with_reducible refine isTrue_not ?_) | (with_reducible refine e_none ?_) | (with_reducible refine e_some ?_) | (with_reducible refine isTrue_and_nil ?_) | (with_reducible refine isTrue_and ?_) | (with_reducible refine isTrue_or_nil ?_) | (with_reducible refine isTrue_or ?_) | ((with_reducible refine' x_splmore ?k1 ?_); (case k1 => rfl)) | (with_reducible refine x_splnone ?_) | ((with_reducible refine' x_setitem ?k1 ?_); (case k1 => rfl)) | (with_reducible refine r_none ?_) | ((with_reducible refine' r_ldn ?k1 ?k2 ?k3 ?k4 ?_); (case k1 => assumption); (case k2 => assumption); (case k3 => kernel_rfl!); (case k4 => walk_at "lk")) | ((with_reducible refine' c_t3 ?k1 ?_); (case k1 => rfl)) | ((with_reducible refine r_iadd ?_); intro _ _) | ((with_reducible refine r_isub ?_); intro _ _) | (with_reducible refine r_lt ?_) | (with_reducible refine r_gt ?_) | ((with_reducible refine' r_strue ?k1 ?_); (case k1 => walk_at "len"); intro _) | ((with_reducible refine' r_slenR ?k1 ?_); (case k1 => first | decide | omega); intro _ _) | ((with_reducible refine' r_slen ?k1 ?_); (case k1 => walk_at "len"); intro _ _) | (with_reducible refine r_itrue ?_) | ((with_reducible refine' r_bui ?k1 ?k2 ?k3 ?k4 ?k5 ?k6 ?k7 ?k8 ?_); (case k1 => assumption); (case k2 => assumption); (case k3 => assumption); (case k4 => kernel_rfl!); (case k5 => k_is); (case k6 => with_reducible first | exact bb_list | exact bb_min); (case k7 => decide +kernel); (case k8 => kernel_rfl!)) | walk_at "m")
            refine r_sitem (c := x) (by rw [show (0 : Int) + (k : Nat) = (k : Nat) from Int.zero_add _, List.length_replicate, idx_nat hk]; simp [hk]) (by omega) rfl fun _ _ => ?_
            repeat (first | (with_reducible refine x_aug ?_) | ((with_reducible refine' x_assign2 ?k1 ?_); (case k1 => rfl)) | (with_reducible refine isTrue_not ?_) | (with_reducible refine e_none ?_) | (with_reducible refine e_some ?_) | (with_reducible refine isTrue_and_nil ?_) | (with_reducible refine isTrue_and ?_) | (with_reducible refine isTrue_or_nil ?_) | (with_reducible refine isTrue_or ?_) | ((with_reducible refine' x_splmore ?k1 ?_); (case k1 => rfl)) | (with_reducible refine x_splnone ?_) | ((with_reducible refine' x_setitem ?k1 ?_); (case k1 => rfl)) | (with_reducible refine r_none ?_) | ((with_reducible refine' r_ldn ?k1 ?k2 ?k3 ?k4 ?_); (case k1 => assumption); (case k2 => assumption); (case k3 => kernel_rfl!); (case k4 => walk_at "lk")) | ((with_reducible refine' c_t3 ?k1 ?_); (case k1 => rfl)) | ((with_reducible refine r_iadd ?_); intro _ _) | ((with_reducible refine r_isub ?_); intro _ _) | (with_reducible refine r_lt ?_) | (with_reducible refine r_gt ?_) | ((with_reducible refine' r_strue ?k1 ?_); (case k1 => walk_at "len"); intro _) | ((with_reducible refine' r_slenR ?k1 ?_); (case k1 => first | decide | omega); intro _ _) | ((with_reducible refine' r_slen ?k1 ?_); (case k1 => walk_at "len"); intro _ _) | (with_reducible refine r_itrue ?_) | ((with_reducible refine' r_bui ?k1 ?k2 ?k3 ?k4 ?k5 ?k6 ?k7 ?k8 ?_); (case k1 => assumption); (case k2 => assumption); (case k3 => assumption); (case k4 => kernel_rfl!); (case k5 => k_is); (case k6 => with_reducible first | exact bb_list | exact bb_min); (case k7 => decide +kernel); (case k8 => kernel_rfl!)) | walk_at "m")
            refine f_subst (g.keeps (Fr.keep (by assumption))) (r'.less (by omega)) hy hx (Ne.symm hxy) fun _ h18 _ X18 => ?_
            have F18 := Fr.keeps F17 X18
            repeat (first | (with_reducible refine x_aug ?_) | ((with_reducible refine' x_assign2 ?k1 ?_); (case k1 => rfl)) | (with_reducible refine isTrue_not ?_) | (with_reducible refine e_none ?_) | (with_reducible refine e_some ?_) | (with_reducible refine isTrue_and_nil ?_) | (with_reducible refine isTrue_and ?_) | (with_reducible refine isTrue_or_nil ?_) | (with_reducible refine isTrue_or ?_) | ((with_reducible refine' x_splmore ?k1 ?_); (case k1 => rfl)) | (with_reducible refine x_splnone ?_) | ((with_reducible refine' x_setitem ?k1 ?_); (case k1 => rfl)) | (with_reducible refine r_none ?_) | ((with_reducible refine' r_ldn ?k1 ?k2 ?k3 ?k4 ?_); (case k1 => assumption); (case k2 => assumption); (case k3 => kernel_rfl!); (case k4 => walk_at "lk")) | ((with_reducible refine' c_t3 ?k1 ?_); (case k1 => rfl)) | ((with_reducible refine r_iadd ?_); intro _ _) | ((with_reducible refine r_isub ?_); intro _ _) | (with_reducible refine r_lt ?_) | (with_reducible refine r_gt ?_) | ((with_reducible refine' r_strue ?k1 ?_); (case k1 => walk_at "len"); intro _) | ((with_reducible refine' r_slenR ?k1 ?_); (case k1 => first | decide | omega); intro _ _) | ((with_reducible refine' r_slen ?k1 ?_); (case k1 => walk_at "len"); intro _ _) | (with_reducible refine r_itrue ?_) | ((with_reducible refine' r_bui ?k1 ?k2 ?k3 ?k4 ?k5 ?k6 ?k7 ?k8 ?_); (case k1 => assumption); (case k2 => assumption); (case k3 => assumption); (case k4 => kernel_rfl!); (case k5 => k_is); (case k6 => with_reducible first | exact bb_list | exact bb_min); (case k7 => decide +kernel); (case k8 => kernel_rfl!)) | walk_at "m")
            have hz : (0 + (k : Int)).toNat = k := by rw [Int.zero_add]; rfl
            obtain ⟨tv, hv⟩ := V2.2 k hk
            dsimp only at hv
            rw [if_neg (Nat.lt_irrefl k)] at hv
            refine r_litem (list_at V1 fun o q => by walk_at "kd") (by omega) (by rw [hz]; exact hv) rfl ?_
            repeat (first | (with_reducible refine x_aug ?_) | ((with_reducible refine' x_assign2 ?k1 ?_); (case k1 => rfl)) | (with_reducible refine isTrue_not ?_) | (with_reducible refine e_none ?_) | (with_reducible refine e_some ?_) | (with_reducible refine isTrue_and_nil ?_) | (with_reducible refine isTrue_and ?_) | (with_reducible refine isTrue_or_nil ?_) | (with_reducible refine isTrue_or ?_) | ((with_reducible refine' x_splmore ?k1 ?_); (case k1 => rfl)) | (with_reducible refine x_splnone ?_) | ((with_reducible refine' x_setitem ?k1 ?_); (case k1 => rfl)) | (with_reducible refine r_none ?_) | ((with_reducible refine' r_ldn ?k1 ?k2 ?k3 ?k4 ?_); (case k1 => assumption); (case k2 => assumption); (case k3 => kernel_rfl!); (case k4 => walk_at "lk")) | ((with_reducible refine' c_t3 ?k1 ?_); (case k1 => rfl)) | ((with_reducible refine r_iadd ?_); intro _ _) | ((with_reducible refine r_isub ?_); intro _ _) | (with_reducible refine r_lt ?_) | (with_reducible refine r_gt ?_) | ((with_reducible refine' r_strue ?k1 ?_); (case k1 => walk_at "len"); intro _) | ((with_reducible refine' r_slenR ?k1 ?_); (case k1 => first | decide | omega); intro _ _) | ((with_reducible refine' r_slen ?k1 ?_); (case k1 => walk_at "len"); intro _ _) | (with_reducible refine r_itrue ?_) | ((with_reducible refine' r_bui ?k1 ?k2 ?k3 ?k4 ?k5 ?k6 ?k7 ?k8 ?_); (case k1 => assumption); (case k2 => assumption); (case k3 => assumption); (case k4 => kernel_rfl!); (case k5 => k_is); (case k6 => with_reducible first | exact bb_list | exact bb_min); (case k7 => decide +kernel); (case k8 => kernel_rfl!)) | walk_at "m")
            refine r_setitem (list_at V1 fun o q => by walk_at "kd") (by omega) (by rw [hz, V2.1]; exact hk) (by assumption) hDL hD0 ?_
            intro h19 V19 S19 F19
            rw [hz] at V19
            have hstep := lev_step e6 e7 e7'
            have RN : ∀ t, Ints (vs.set k (.int (min (min rr (2 * max ((k : Int) + 1) j) + 2) (d + 2)) t)) P (fun q => if q < k + 1 then 2 * max ((q : Int) + 1) (j + 1) else 2 * max ((q : Int) + 1) j) := by
              intro t
              refine V2.set k _ t hk fun i _ => ?_
              by_cases ei : i = k
              · subst ei
                rw [if_pos rfl, if_pos (Nat.lt_succ_self _), hstep]
              · rw [if_neg ei]
                by_cases el : i < k
                · rw [if_pos el, if_pos (by omega)]
                · rw [if_neg el, if_neg (by omega)]
            have e9 : (2 * max ((k : Int) + 1) j) = 2 * max ((k + 1 : Nat) : Int) j := rfl
            have e10 : min (min rr (2 * max ((k : Int) + 1) j) + 2) (d + 2) = 2 * max ((k + 1 : Nat) : Int) (j + 1) := by rw [hstep]; rfl
            repeat (first | (with_reducible refine x_aug ?_) | ((with_reducible refine' x_assign2 ?k1 ?_); (case k1 => rfl)) | (with_reducible refine isTrue_not ?_) | (with_reducible refine e_none ?_) | (with_reducible refine e_some ?_) | (with_reducible refine isTrue_and_nil ?_) | (with_reducible refine isTrue_and ?_) | (with_reducible refine isTrue_or_nil ?_) | (with_reducible refine isTrue_or ?_) | ((with_reducible refine' x_splmore ?k1 ?_); (case k1 => rfl)) | (with_reducible refine x_splnone ?_) | ((with_reducible refine' x_setitem ?k1 ?_); (case k1 => rfl)) | (with_reducible refine r_none ?_) | ((with_reducible refine' r_ldn ?k1 ?k2 ?k3 ?k4 ?_); (case k1 => assumption); (case k2 => assumption); (case k3 => kernel_rfl!); (case k4 => walk_at "lk")) | ((with_reducible refine' c_t3 ?k1 ?_); (case k1 => rfl)) | ((with_reducible refine r_iadd ?_); intro _ _) | ((with_reducible refine r_isub ?_); intro _ _) | (with_reducible refine r_lt ?_) | (with_reducible refine r_gt ?_) | ((with_reducible refine' r_strue ?k1 ?_); (case k1 => walk_at "len"); intro _) | ((with_reducible refine' r_slenR ?k1 ?_); (case k1 => first | decide | omega); intro _ _) | ((with_reducible refine' r_slen ?k1 ?_); (case k1 => walk_at "len"); intro _ _) | (with_reducible refine r_itrue ?_) | ((with_reducible refine' r_bui ?k1 ?k2 ?k3 ?k4 ?k5 ?k6 ?k7 ?k8 ?_); (case k1 => assumption); (case k2 => assumption); (case k3 => assumption); (case k4 => kernel_rfl!); (case k5 => k_is); (case k6 => with_reducible first | exact bb_list | exact bb_min); (case k7 => decide +kernel); (case k8 => kernel_rfl!)) | walk_at "m")
            refine r_ite (fun z => ?_) fun z => ?_
            · repeat (first | (with_reducible refine x_aug ?_) | ((with_reducible refine' x_assign2 ?k1 ?_); (case k1 => rfl)) | (with_reducible refine isTrue_not ?_) | (with_reducible refine e_none ?_) | (with_reducible refine e_some ?_) | (with_reducible refine isTrue_and_nil ?_) | (with_reducible refine isTrue_and ?_) | (with_reducible refine isTrue_or_nil ?_) | (with_reducible refine isTrue_or ?_) | ((with_reducible refine' x_splmore ?k1 ?_); (case k1 => rfl)) | (with_reducible refine x_splnone ?_) | ((with_reducible refine' x_setitem ?k1 ?_); (case k1 => rfl)) | (with_reducible refine r_none ?_) | ((with_reducible refine' r_ldn ?k1 ?k2 ?k3 ?k4 ?_); (case k1 => assumption); (case k2 => assumption); (case k3 => kernel_rfl!); (case k4 => walk_at "lk")) | ((with_reducible refine' c_t3 ?k1 ?_); (case k1 => rfl)) | ((with_reducible refine r_iadd ?_); intro _ _) | ((with_reducible refine r_isub ?_); intro _ _) | (with_reducible refine r_lt ?_) | (with_reducible refine r_gt ?_) | ((with_reducible refine' r_strue ?k1 ?_); (case k1 => walk_at "len"); intro _) | ((with_reducible refine' r_slenR ?k1 ?_); (case k1 => first | decide | omega); intro _ _) | ((with_reducible refine' r_slen ?k1 ?_); (case k1 => walk_at "len"); intro _ _) | (with_reducible refine r_itrue ?_) | ((with_reducible refine' r_bui ?k1 ?k2 ?k3 ?k4 ?k5 ?k6 ?k7 ?k8 ?_); (case k1 => assumption); (case k2 => assumption); (case k3 => assumption); (case k4 => kernel_rfl!); (case k5 => k_is); (case k6 => with_reducible first | exact bb_list | exact bb_min); (case k7 => decide +kernel); (case k8 => kernel_rfl!)) | walk_at "m")
              refine ⟨rfl, x_nil ?_⟩
              refine ⟨_, _, _, rfl, by assumption, ⟨⟨⟨_, by walk_at "lk"⟩, ⟨_, by walk_at "lk"⟩, ⟨_, by walk_at "lk"⟩, by walk_at "lk"⟩, ⟨_, list_at V19 fun o q => by walk_at "kd", RN _⟩, ⟨_, by walk_at "lk"⟩, ⟨_, _, by walk_at "lk", e9⟩, ⟨_, _, by walk_at "lk", fun q => absurd q (Nat.succ_ne_zero k), fun _ => e10⟩, _, _, by walk_at "lk", fun q => absurd q (Nat.succ_ne_zero k), fun _ => ?_⟩, fun b' o hb q => ?_⟩
              · rw [hstep] at z ⊢
                clear e10 e9 hstep e6 e7 e7' RN
                rcases Nat.eq_zero_or_pos k with e0 | e0
                · subst e0
                  rw [Int.max_eq_right (by omega)]
                · have := e8' e0
                  rw [this] at z
                  omega
              · have h1 : b' ≠ L := fun z => hb (z ▸ .head _)
                have h2 : b' ≠ D := fun z => hb (z ▸ .tail _ (.head _))
                walk_at "kd"
            · repeat (first | (with_reducible refine x_aug ?_) | ((with_reducible refine' x_assign2 ?k1 ?_); (case k1 => rfl)) | (with_reducible refine isTrue_not ?_) | (with_reducible refine e_none ?_) | (with_reducible refine e_some ?_) | (with_reducible refine isTrue_and_nil ?_) | (with_reducible refine isTrue_and ?_) | (with_reducible refine isTrue_or_nil ?_) | (with_reducible refine isTrue_or ?_) | ((with_reducible refine' x_splmore ?k1 ?_); (case k1 => rfl)) | (with_reducible refine x_splnone ?_) | ((with_reducible refine' x_setitem ?k1 ?_); (case k1 => rfl)) | (with_reducible refine r_none ?_) | ((with_reducible refine' r_ldn ?k1 ?k2 ?k3 ?k4 ?_); (case k1 => assumption); (case k2 => assumption); (case k3 => kernel_rfl!); (case k4 => walk_at "lk")) | ((with_reducible refine' c_t3 ?k1 ?_); (case k1 => rfl)) | ((with_reducible refine r_iadd ?_); intro _ _) | ((with_reducible refine r_isub ?_); intro _ _) | (with_reducible refine r_lt ?_) | (with_reducible refine r_gt ?_) | ((with_reducible refine' r_strue ?k1 ?_); (case k1 => walk_at "len"); intro _) | ((with_reducible refine' r_slenR ?k1 ?_); (case k1 => first | decide | omega); intro _ _) | ((with_reducible refine' r_slen ?k1 ?_); (case k1 => walk_at "len"); intro _ _) | (with_reducible refine r_itrue ?_) | ((with_reducible refine' r_bui ?k1 ?k2 ?k3 ?k4 ?k5 ?k6 ?k7 ?k8 ?_); (case k1 => assumption); (case k2 => assumption); (case k3 => assumption); (case k4 => kernel_rfl!); (case k5 => k_is); (case k6 => with_reducible first | exact bb_list | exact bb_min); (case k7 => decide +kernel); (case k8 => kernel_rfl!)) | walk_at "m")
              refine ⟨_, _, _, rfl, by assumption, ⟨⟨⟨_, by walk_at "lk"⟩, ⟨_, by walk_at "lk"⟩, ⟨_, by walk_at "lk"⟩, by walk_at "lk"⟩, ⟨_, list_at V19 fun o q => by walk_at "kd", RN _⟩, ⟨_, by walk_at "lk"⟩, ⟨_, _, by walk_at "lk", e9⟩, ⟨_, _, by walk_at "lk", fun q => absurd q (Nat.succ_ne_zero k), fun _ => e10⟩, _, _, by walk_at "lk", fun q => absurd q (Nat.succ_ne_zero k), fun _ => ?_⟩, fun b' o hb q => ?_⟩
              · rw [hstep] at z
                rcases Nat.eq_zero_or_pos k with e0 | e0
                · subst e0
                  have := e8 rfl
                  clear e10 e9 hstep e6 e7 e7' RN e8 e8'
                  omega
                · exact e8' e0
              · have h1 : b' ≠ L := fun z => hb (z ▸ .head _)
                have h2 : b' ≠ D := fun z => hb (z ▸ .tail _ (.head _))
                walk_at "kd"
          · clear i1 i2 i3 i4 RA2
            rintro h17 m17 tk17 F17 ⟨⟨⟨t1, i1⟩, ⟨t2, i2⟩, ⟨t3, i3⟩, i4⟩, ⟨vs, V1, V2⟩, -, -, ⟨rr, t7, i7, -, e7'⟩, mn, t8, i8, -, e8'⟩ O17
            have e7' := e7' P0
            have e8' := e8' P0
            show wpAny _ _ _ _ _ _
            repeat (first | (with_reducible refine x_aug ?_) | ((with_reducible refine' x_assign2 ?k1 ?_); (case k1 => rfl)) | (with_reducible refine isTrue_not ?_) | (with_reducible refine e_none ?_) | (with_reducible refine e_some ?_) | (with_reducible refine isTrue_and_nil ?_) | (with_reducible refine isTrue_and ?_) | (with_reducible refine isTrue_or_nil ?_) | (with_reducible refine isTrue_or ?_) | ((with_reducible refine' x_splmore ?k1 ?_); (case k1 => rfl)) | (with_reducible refine x_splnone ?_) | ((with_reducible refine' x_setitem ?k1 ?_); (case k1 => rfl)) | (with_reducible refine r_none ?_) | ((with_reducible refine' r_ldn ?k1 ?k2 ?k3 ?k4 ?_); (case k1 => assumption); (case k2 => assumption); (case k3 => kernel_rfl!); (case k4 => walk_at "lk")) | ((with_reducible refine' c_t3 ?k1 ?_); (case k1 => rfl)) | ((with_reducible refine r_iadd ?_); intro _ _) | ((with_reducible refine r_isub ?_); intro _ _) | (with_reducible refine r_lt ?_) | (with_reducible refine r_gt ?_) | ((with_reducible refine' r_strue ?k1 ?_); (case k1 => walk_at "len"); intro _) | ((with_reducible refine' r_slenR ?k1 ?_); (case k1 => first | decide | omega); intro _ _) | ((with_reducible refine' r_slen ?k1 ?_); (case k1 => walk_at "len"); intro _ _) | (with_reducible refine r_itrue ?_) | ((with_reducible refine' r_bui ?k1 ?k2 ?k3 ?k4 ?k5 ?k6 ?k7 ?k8 ?_); (case k1 => assumption); (case k2 => assumption); (case k3 => assumption); (case k4 => kernel_rfl!); (case k5 => k_is); (case k6 => with_reducible first | exact bb_list | exact bb_min); (case k7 => decide +kernel); (case k8 => kernel_rfl!)) | walk_at "m")
            refine r_ite (fun z => ?_) fun z => ?_
            · repeat (first | (with_reducible refine x_aug ?_) | ((with_reducible refine' x_assign2 ?k1 ?_); (case k1 => rfl)) | (with_reducible refine isTrue_not ?_) | (with_reducible refine e_none ?_) | (with_reducible refine e_some ?_) | (with_reducible refine isTrue_and_nil ?_) | (with_reducible refine isTrue_and ?_) | (with_reducible refine isTrue_or_nil ?_) | (with_reducible refine isTrue_or ?_) | ((with_reducible refine' x_splmore ?k1 ?_); (case k1 => rfl)) | (with_reducible refine x_splnone ?_) | ((with_reducible refine' x_setitem ?k1 ?_); (case k1 => rfl)) | (with_reducible refine r_none ?_) | ((with_reducible refine' r_ldn ?k1 ?k2 ?k3 ?k4 ?_); (case k1 => assumption); (case k2 => assumption); (case k3 => kernel_rfl!); (case k4 => walk_at "lk")) | ((with_reducible refine' c_t3 ?k1 ?_); (case k1 => rfl)) | ((with_reducible refine r_iadd ?_); intro _ _) | ((with_reducible refine r_isub ?_); intro _ _) | (with_reducible refine r_lt ?_) | (with_reducible refine r_gt ?_) | ((with_reducible refine' r_strue ?k1 ?_); (case k1 => walk_at "len"); intro _) | ((with_reducible refine' r_slenR ?k1 ?_); (case k1 => first | decide | omega); intro _ _) | ((with_reducible refine' r_slen ?k1 ?_); (case k1 => walk_at "len"); intro _ _) | (with_reducible refine r_itrue ?_) | ((with_reducible refine' r_bui ?k1 ?k2 ?k3 ?k4 ?k5 ?k6 ?k7 ?k8 ?_); (case k1 => assumption); (case k2 => assumption); (case k3 => assumption); (case k4 => kernel_rfl!); (case k5 => k_is); (case k6 => with_reducible first | exact bb_list | exact bb_min); (case k7 => decide +kernel); (case k8 => kernel_rfl!)) | walk_at "m")
              exact ⟨_, _, rfl, F17.keep, _, by rw [hlev, if_neg (by omega)]⟩
            · repeat (first | (with_reducible refine x_aug ?_) | ((with_reducible refine' x_assign2 ?k1 ?_); (case k1 => rfl)) | (with_reducible refine isTrue_not ?_) | (with_reducible refine e_none ?_) | (with_reducible refine e_some ?_) | (with_reducible refine isTrue_and_nil ?_) | (with_reducible refine isTrue_and ?_) | (with_reducible refine isTrue_or_nil ?_) | (with_reducible refine isTrue_or ?_) | ((with_reducible refine' x_splmore ?k1 ?_); (case k1 => rfl)) | (with_reducible refine x_splnone ?_) | ((with_reducible refine' x_setitem ?k1 ?_); (case k1 => rfl)) | (with_reducible refine r_none ?_) | ((with_reducible refine' r_ldn ?k1 ?k2 ?k3 ?k4 ?_); (case k1 => assumption); (case k2 => assumption); (case k3 => kernel_rfl!); (case k4 => walk_at "lk")) | ((with_reducible refine' c_t3 ?k1 ?_); (case k1 => rfl)) | ((with_reducible refine r_iadd ?_); intro _ _) | ((with_reducible refine r_isub ?_); intro _ _) | (with_reducible refine r_lt ?_) | (with_reducible refine r_gt ?_) | ((with_reducible refine' r_strue ?k1 ?_); (case k1 => walk_at "len"); intro _) | ((with_reducible refine' r_slenR ?k1 ?_); (case k1 => first | decide | omega); intro _ _) | ((with_reducible refine' r_slen ?k1 ?_); (case k1 => walk_at "len"); intro _ _) | (with_reducible refine r_itrue ?_) | ((with_reducible refine' r_bui ?k1 ?k2 ?k3 ?k4 ?k5 ?k6 ?k7 ?k8 ?_); (case k1 => assumption); (case k2 => assumption); (case k3 => assumption); (case k4 => kernel_rfl!); (case k5 => k_is); (case k6 => with_reducible first | exact bb_list | exact bb_min); (case k7 => decide +kernel); (case k8 => kernel_rfl!)) | walk_at "m")
              refine ⟨_, _, _, rfl, by assumption, ⟨⟨⟨_, i1⟩, ⟨_, i2⟩, ⟨_, i3⟩, i4⟩, ⟨_, V1, V2.to fun i hi => ?_⟩, _, _, i7, fun _ => ⟨?_, ?_⟩⟩, fun b' o hb q => O17 b' o hb ?_⟩
              · rw [if_pos hi]; rfl
              · rw [e7']; rfl
              · omega
              · have h1 : b' ≠ L := fun z => hb (z ▸ .head _)
                walk_at "kd"
        · rintro h15 m15 tk15 F15 ⟨i1, i2, r, tr, i3, i4⟩ O15
          have i4 := i4 (by omega)
          show wpAny _ _ _ _ _ _
          repeat (first | (with_reducible refine x_aug ?_) | ((with_reducible refine' x_assign2 ?k1 ?_); (case k1 => rfl)) | (with_reducible refine isTrue_not ?_) | (with_reducible refine e_none ?_) | (with_reducible refine e_some ?_) | (with_reducible refine isTrue_and_nil ?_) | (with_reducible refine isTrue_and ?_) | (with_reducible refine isTrue_or_nil ?_) | (with_reducible refine isTrue_or ?_) | ((with_reducible refine' x_splmore ?k1 ?_); (case k1 => rfl)) | (with_reducible refine x_splnone ?_) | ((with_reducible refine' x_setitem ?k1 ?_); (case k1 => rfl)) | (with_reducible refine r_none ?_) | ((with_reducible refine' r_ldn ?k1 ?k2 ?k3 ?k4 ?_); (case k1 => assumption); (case k2 => assumption); (case k3 => kernel_rfl!); (case k4 => walk_at "lk")) | ((with_reducible refine' c_t3 ?k1 ?_); (case k1 => rfl)) | ((with_reducible refine r_iadd ?_); intro _ _) | ((with_reducible refine r_isub ?_); intro _ _) | (with_reducible refine r_lt ?_) | (with_reducible refine r_gt ?_) | ((with_reducible refine' r_strue ?k1 ?_); (case k1 => walk_at "len"); intro _) | ((with_reducible refine' r_slenR ?k1 ?_); (case k1 => first | decide | omega); intro _ _) | ((with_reducible refine' r_slen ?k1 ?_); (case k1 => walk_at "len"); intro _ _) | (with_reducible refine r_itrue ?_) | ((with_reducible refine' r_bui ?k1 ?k2 ?k3 ?k4 ?k5 ?k6 ?k7 ?k8 ?_); (case k1 => assumption); (case k2 => assumption); (case k3 => assumption); (case k4 => kernel_rfl!); (case k5 => k_is); (case k6 => with_reducible first | exact bb_list | exact bb_min); (case k7 => decide +kernel); (case k8 => kernel_rfl!)) | walk_at "m")
          exact ⟨_, _, rfl, F15.keep, _, by rw [hlev, if_pos (by omega), i4.1, show max (P : Int) R = R by omega]⟩
  · rintro v h' tk' k ⟨t', rfl⟩
    exact hQ t' h' tk' k
end
end

section
section
open PySem.Builtin PySem.Builtin.Str PySem.StrLaws

def flat (ds : List (List Nat)) : List Nat := (ds.map fun d => d ++ [13, 10]).flatten
theorem flat_nil : flat [] = [] := rfl
theorem flat_cons (d : List Nat) (ds : List (List Nat)) : flat (d :: ds) = d ++ 13 :: 10 :: flat ds := by
  unfold flat; rw [List.map_cons, List.flatten_cons, List.append_assoc]; rfl
def cutsFrom : Nat → List (List Nat) → List Nat
  | _, [] => []
  | a, d :: r => (a + d.length) :: cutsFrom (a + d.length + 2) r
def occStep (s sub : Str) (hi limit : Nat) (st : Array Nat × Nat) (i : Nat) : Array Nat × Nat :=
  if ((st.fst.size < limit ∧ st.snd ≤ i) ∧ i + sub.length ≤ hi) ∧ subAt s sub i = true then (st.fst.push i, i + sub.length) else (st.fst, st.snd)
theorem occ_fold (s sub : Str) (hi limit : Nat) : ∀ (l : List Nat) (st : Array Nat × Nat), (forIn l st (occBody s sub hi limit)).run = l.foldl (occStep s sub hi limit) st
  | [], _ => rfl
  | a :: l, st => by
    rw [List.forIn_cons, List.foldl_cons]
    unfold occBody
    rw [occStep]
    split
    · exact occ_fold s sub hi limit l _
    · exact occ_fold s sub hi limit l _
theorem occ_miss (s sub : Str) (hi limit : Nat) : ∀ (l : List Nat) (st : Array Nat × Nat), (∀ i ∈ l, subAt s sub i = false) → l.foldl (occStep s sub hi limit) st = st
  | [], _, _ => rfl
  | a :: l, st, h => by
    rw [List.foldl_cons, occStep, if_neg (by rw [h a (.head _)]; rintro ⟨_, h⟩; cases h)]
    exact occ_miss s sub hi limit l _ fun i hi => h i (.tail _ hi)
theorem subAt_13 {l : List Nat} {i : Nat} (h : subAt (S l) (S [13, 10]) i = true) : l[i]? = some 13 := by
  rw [subAt_eq] at h
  have h := eq_of_beq h
  rw [S_list, S_len, S_list] at h
  have h2 : ((l.drop i).take [13, 10].length)[0]? = some 13 := by rw [h]; rfl
  simpa using h2
theorem occ_main (l : List Nat) (limit : Nat) : ∀ (ds : List (List Nat)) (p : List Nat) (acc : Array Nat) (free : Nat), (∀ d ∈ ds, 13 ∉ d) → l = p ++ flat ds → free ≤ p.length → acc.size + ds.length ≤ limit →
    ((List.range' p.length ((flat ds).length + 1)).foldl (occStep (S l) (S [13, 10]) l.length limit) (acc, free)).fst.toList = acc.toList ++ cutsFrom p.length ds
  | [], p, acc, free, _, hl, _, _ => by
    rw [flat_nil, List.append_nil] at hl
    show (List.foldl (occStep (S l) (S [13, 10]) l.length limit) (acc, free) [p.length]).fst.toList = _
    rw [List.foldl_cons, List.foldl_nil, occStep, if_neg (by rintro ⟨⟨_, h⟩, _⟩; rw [S_len, hl] at h; simp at h; omega)]
    simp [cutsFrom]
  | d :: r, p, acc, free, hd, hl, hf, ha => by
    rw [flat_cons] at hl
    have hn : (flat (d :: r)).length + 1 = d.length + (1 + (1 + ((flat r).length + 1))) := by rw [flat_cons]; simp; omega
    rw [hn, ← List.range'_append_1, ← List.range'_append_1, ← List.range'_append_1, List.foldl_append, List.foldl_append, List.foldl_append]
    have m1 : ∀ i ∈ List.range' p.length d.length, subAt (S l) (S [13, 10]) i = false := by
      intro i hi
      rw [List.mem_range'_1] at hi
      cases q : subAt (S l) (S [13, 10]) i with
      | false => rfl
      | true =>
        have q := subAt_13 q
        rw [hl, List.getElem?_append_right hi.1, List.getElem?_append_left (by omega)] at q
        exact absurd (List.mem_of_getElem? q) (hd d (.head _))
    rw [occ_miss _ _ _ _ _ _ m1]
    show (List.foldl _ ([p.length + d.length + 1].foldl _ ([p.length + d.length].foldl _ (acc, free))) (List.range' (p.length + d.length + 1 + 1) _)).fst.toList = _
    rw [List.foldl_cons, List.foldl_nil, List.foldl_cons, List.foldl_nil]
    have ha1 : acc.size < limit := by rw [List.length_cons] at ha; omega
    have s1 : occStep (S l) (S [13, 10]) l.length limit (acc, free) (p.length + d.length) = (acc.push (p.length + d.length), p.length + d.length + 2) := by
      rw [occStep, if_pos]
      · rfl
      · refine ⟨⟨⟨ha1, by show free ≤ _; omega⟩, ?_⟩, ?_⟩
        · rw [S_len, hl]; simp; omega
        · rw [subAt_eq, S_list, S_len, S_list, hl]
          have : (p ++ (d ++ 13 :: 10 :: flat r)).drop (p.length + d.length) = 13 :: 10 :: flat r := by rw [← List.append_assoc]; exact List.drop_left' (by simp)
          rw [this]; rfl
    rw [s1]
    have s2 : occStep (S l) (S [13, 10]) l.length limit (acc.push (p.length + d.length), p.length + d.length + 2) (p.length + d.length + 1) = (acc.push (p.length + d.length), p.length + d.length + 2) := by
      rw [occStep, if_neg (by rintro ⟨⟨⟨_, h⟩, _⟩, _⟩; revert h; simp)]
    rw [s2]
    have ih := occ_main l limit r (p ++ d ++ [13, 10]) (acc.push (p.length + d.length)) (p.length + d.length + 2) (fun x hx => hd x (.tail _ hx)) (by rw [hl]; simp) (by simp; omega) (by rw [Array.size_push]; rw [List.length_cons] at ha; omega)
    have en : List.length (p ++ d ++ [13, 10] : List Nat) = p.length + d.length + 1 + 1 := by simp; omega
    rw [en] at ih
    rw [ih, Array.toList_push]
    simp [cutsFrom]
theorem parts_main (l : List Nat) : ∀ (ds : List (List Nat)) (p : List Nat), l = p ++ flat ds → partsFrom (S l) 2 p.length (cutsFrom p.length ds) = ds.map S ++ [S []]
  | [], p, hl => by
    rw [flat_nil, List.append_nil] at hl
    show [strSub (S l) p.length (S l).length] = _
    rw [S_eq (x := strSub (S l) p.length (S l).length) (l := []) (by rw [strSub_toList, S_list, S_len, hl]; simp)]; rfl
  | d :: r, p, hl => by
    rw [flat_cons] at hl
    have ih := parts_main l r (p ++ d ++ [13, 10]) (by rw [hl]; simp)
    have en : List.length (p ++ d ++ [13, 10] : List Nat) = p.length + d.length + 2 := by simp; omega
    rw [en] at ih
    show strSub (S l) p.length (p.length + d.length) :: partsFrom (S l) 2 (p.length + d.length + 2) (cutsFrom (p.length + d.length + 2) r) = _
    rw [ih, S_eq (x := strSub (S l) p.length (p.length + d.length)) (l := d) (by rw [strSub_toList, S_list, hl, List.drop_left' rfl]; simp)]
    rfl
theorem occ_flat (ds : List (List Nat)) (hd : ∀ d ∈ ds, 13 ∉ d) : occurrences (S (flat ds)) (S [13, 10]) 0 (S (flat ds)).length ((S (flat ds)).length + 1) = cutsFrom 0 ds := by
  have hlen : ∀ ds : List (List Nat), ds.length ≤ (flat ds).length := by
    intro ds
    induction ds with
    | nil => exact Nat.zero_le _
    | cons d r ih => rw [flat_cons]; simp; omega
  have := occ_main (flat ds) ((flat ds).length + 1) ds [] #[] 0 hd rfl (Nat.le_refl _) (by have := hlen ds; simp; omega)
  rw [occ_eq, occ_fold, S_len]
  simpa using this
theorem parts_flat (ds : List (List Nat)) (hd : ∀ d ∈ ds, 13 ∉ d) : partsBetween (S (flat ds)) (occurrences (S (flat ds)) (S [13, 10]) 0 (S (flat ds)).length ((S (flat ds)).length + 1)) (S [13, 10]).length = ds.map S ++ [S []] := by
  rw [occ_flat ds hd, partsBetween_eq]
  exact parts_main _ ds [] rfl
theorem split_flat (ds : List (List Nat)) (hd : ∀ d ∈ ds, 13 ∉ d) (hne : ds ≠ []) : Txt.split (S (flat ds)) (S [13, 10]) = ds.map S ++ [S []] := by
  unfold Txt.split
  cases ds with
  | nil => exact absurd rfl hne
  | cons d r =>
    rw [if_neg, if_neg, parts_flat _ hd]
    · rw [occ_flat _ hd]; simp [cutsFrom]
    · rw [Bool.or_eq_true, decide_eq_true_eq, decide_eq_true_eq]
      rintro (h | h)
      · rw [S_len, S_len, flat_cons] at h; simp at h; omega
      · have : Builtin.Str.strKind (S [13, 10]) = 1 := by decide +kernel
        rw [this] at h
        unfold Builtin.Str.strKind at h
        split at h
        · omega
        · split at h <;> omega
end

section
def mailL (rs : List Row) : List Nat := (rs.map fun r => writtenL r ++ r.e).flatten
def dueL (r : Row) : List Nat := if hasDot r = true then 46 :: writtenL r else writtenL r
theorem mem_written {r : Row} (k : RowOk r) {c : Nat} (h : c ∈ writtenL r) : c = 9 ∨ c = 32 ∨ c = 46 ∨ c = 97 := by
  unfold writtenL at h
  rw [List.mem_append, List.mem_append] at h
  rcases h with (h | h) | h
  · exact .inl (List.eq_of_mem_replicate h)
  · exact .inr (.inl (List.eq_of_mem_replicate h))
  · rcases k.hw with e | e | e | e <;> rw [e] at h <;> simp at h <;> omega
theorem written_ne {r : Row} (k : RowOk r) : writtenL r ≠ [] := by
  unfold writtenL
  have := (wlen k).1
  intro h
  have := congrArg List.length h
  rw [List.length_append, List.length_nil] at this
  omega
theorem fix_app : ∀ (w r : List Nat), (∀ c ∈ w, c ≠ 10 ∧ c ≠ 13) → fixL (w ++ r) = w ++ fixL r
  | [], _, _ => rfl
  | c :: w, r, h => by
    rw [List.cons_append, fix_plain (h c (.head _)).1 (h c (.head _)).2, fix_app w r fun x hx => h x (.tail _ hx)]; rfl
theorem mail_head {rs : List Row} (k : ∀ r ∈ rs, RowOk r) : (mailL rs).head? ≠ some 10 := by
  cases rs with
  | nil => simp [mailL]
  | cons r rs =>
    unfold mailL
    rw [List.map_cons, List.flatten_cons, List.append_assoc]
    cases hw : writtenL r with
    | nil => exact absurd hw (written_ne (k r (.head _)))
    | cons c l =>
      have := mem_written (k r (.head _)) (c := c) (by rw [hw]; exact .head _)
      simp; omega
theorem fix_mail : ∀ (rs : List Row), (∀ r ∈ rs, RowOk r) → fixL (mailL rs) = flat (rs.map writtenL)
  | [], _ => fix_nil
  | r :: rs, k => by
    have ih := fix_mail rs fun x hx => k x (.tail _ hx)
    have kr := k r (.head _)
    have e : mailL (r :: rs) = writtenL r ++ (r.e ++ mailL rs) := by unfold mailL; rw [List.map_cons, List.flatten_cons, List.append_assoc]
    rw [e, fix_app _ _ (fun c hc => by have := mem_written kr hc; omega), List.map_cons, flat_cons]
    congr 1
    rcases kr.he with e | e | e <;> rw [e]
    · show fixL (10 :: mailL rs) = _
      rw [fix_lf, ih]
    · show fixL (13 :: mailL rs) = _
      rw [fix_cr (mail_head fun x hx => k x (.tail _ hx)), ih]
    · show fixL (13 :: 10 :: mailL rs) = _
      rw [fix_crlf, ih]
theorem quo_false : ∀ (w r : List Nat), (∀ c ∈ w, c ≠ 10) → quoL false (w ++ r) = w ++ quoL false r
  | [], _, _ => rfl
  | c :: w, r, h => by
    rw [List.cons_append, quoL, if_neg (by simp), show (c == 10) = false by simpa using h c (.head _), quo_false w r fun x hx => h x (.tail _ hx)]; rfl
theorem quo_eol (r : List Nat) : quoL false (13 :: 10 :: r) = 13 :: 10 :: quoL true r := by
  rw [quoL, if_neg (by simp), show ((13 : Nat) == 10) = false by decide, quoL, if_neg (by simp), show ((10 : Nat) == 10) = true by decide]
theorem quo_flat : ∀ (rs : List Row), (∀ r ∈ rs, RowOk r) → quoL true (flat (rs.map writtenL)) = flat (rs.map dueL)
  | [], _ => rfl
  | r :: rs, k => by
    have ih := quo_flat rs fun x hx => k x (.tail _ hx)
    have kr := k r (.head _)
    rw [List.map_cons, flat_cons, List.map_cons, flat_cons, ← ih, ← quo_eol]
    have hm : ∀ c ∈ writtenL r, c = 9 ∨ c = 32 ∨ c = 46 ∨ c = 97 := fun c hc => mem_written kr hc
    have hdot : hasDot r = true ↔ (writtenL r).head? = some 46 := by
      unfold hasDot writtenL
      have h1 := kr.t0
      have h2 := kr.b0
      rw [Bool.and_eq_true, decide_eq_true_eq, decide_eq_true_eq]
      by_cases ht : r.t.toNat = 0
      · by_cases hb : r.b.toNat = 0
        · rw [ht, hb]; simp; omega
        · obtain ⟨n, hn⟩ : ∃ n, r.b.toNat = n + 1 := ⟨r.b.toNat - 1, by omega⟩
          rw [ht, hn, List.replicate_succ]; simp; omega
      · obtain ⟨n, hn⟩ : ∃ n, r.t.toNat = n + 1 := ⟨r.t.toNat - 1, by omega⟩
        rw [hn, List.replicate_succ]; simp; omega
    unfold dueL
    cases hw : writtenL r with
    | nil => exact absurd hw (written_ne kr)
    | cons c l =>
      rw [hw] at hm hdot
      have hl : ∀ x ∈ l, x ≠ 10 := fun x hx => by have := hm x (.tail _ hx); omega
      have hc := hm c (.head _)
      rw [List.cons_append, quoL]
      by_cases h46 : c = 46
      · subst h46
        rw [if_pos ⟨rfl, rfl⟩, if_pos (hdot.mpr rfl), quo_false _ _ hl]; rfl
      · rw [if_neg (by simp [h46]), if_neg (by rw [hdot]; simpa using h46), show (c == 10) = false by simp; omega, quo_false _ _ hl]; rfl
theorem due_13 {r : Row} (k : RowOk r) : 13 ∉ dueL r := by
  unfold dueL
  intro h
  split at h
  · rcases List.mem_cons.mp h with h | h
    · omega
    · have := mem_written k h; omega
  · have := mem_written k h; omega
theorem written_len {r : Row} (k : RowOk r) : (writtenL r).length ≤ 10 := by
  have := (wlen k).2; have := k.t4; have := k.b4
  unfold writtenL; simp; omega
theorem due_len {r : Row} (k : RowOk r) : (dueL r).length ≤ 11 := by
  have := written_len k
  unfold dueL; split
  · rw [List.length_cons]; omega
  · omega
end
end

section
def leadL (t b : Nat) : List Nat := List.replicate t 9 ++ List.replicate b 32
/-- both stripped leads, told at once -/
def levChk (t b t' b' : Nat) : Bool :=
  let s := strip (leadL t b) (leadL t' b')
  let s' := stripB (leadL t b) (leadL t' b')
  if (t ≤ t' ∧ b ≤ b') ∨ (t' ≤ t ∧ b' ≤ b) then
    decide (s = [] ∨ s' = [])
  else if t < t' then decide (s = List.replicate (b - b') 32 ∧ s' = List.replicate (t' - t) 9 ∧ leadL t b ≠ leadL t' b')
  else decide (s = List.replicate (t - t') 9 ∧ s' = List.replicate (b' - b) 32 ∧ leadL t b ≠ leadL t' b')
theorem lev_chk0 : ∀ t b t' b' : Fin 5, levChk t.val b.val t'.val b'.val = true := by decide +kernel
theorem lev_chk {t b t' b' : Nat} (h1 : t ≤ 4) (h2 : b ≤ 4) (h3 : t' ≤ 4) (h4 : b' ≤ 4) : levChk t b t' b' = true :=
  lev_chk0 ⟨t, by omega⟩ ⟨b, by omega⟩ ⟨t', by omega⟩ ⟨b', by omega⟩
theorem lev_case {t b t' b' : Nat} (h1 : t ≤ 4) (h2 : b ≤ 4) (h3 : t' ≤ 4) (h4 : b' ≤ 4) : leadL t b = leadL t' b' ∨ strip (leadL t b) (leadL t' b') = [] ∨ stripB (leadL t b) (leadL t' b') = [] ∨
    ∃ p q x y, strip (leadL t b) (leadL t' b') = List.replicate p x ∧ stripB (leadL t b) (leadL t' b') = List.replicate q y ∧ 0 < p ∧ 0 < q ∧ (x = 9 ∨ x = 32) ∧ (y = 9 ∨ y = 32) ∧ x ≠ y := by
  have h := lev_chk h1 h2 h3 h4
  unfold levChk at h
  dsimp only at h
  split at h
  · have h := of_decide_eq_true h
    rcases h with e | e
    · exact .inr (.inl e)
    · exact .inr (.inr (.inl e))
  · rename_i hn
    split at h
    · have h := of_decide_eq_true h
      exact .inr (.inr (.inr ⟨_, _, 32, 9, h.1, h.2.1, by omega, by omega, .inr rfl, .inl rfl, by decide⟩))
    · have h := of_decide_eq_true h
      exact .inr (.inr (.inr ⟨_, _, 9, 32, h.1, h.2.1, by omega, by omega, .inl rfl, .inr rfl, by decide⟩))
def levChk2 (t b t' b' : Nat) : Bool :=
  if ((t : Int) - t') * ((b : Int) - b') ≥ 0 then
    decide (leadL t b = leadL t' b' ∨ (strip (leadL t b) (leadL t' b') = [] ∨ stripB (leadL t b) (leadL t' b') = [])) &&
    (decide (leadL t b = leadL t' b' → 0 = 2 * ((((t : Int) - t').natAbs : Int) + ((b : Int) - b').natAbs)) &&
    decide (¬ leadL t b = leadL t' b' → 2 * ((strip (leadL t b) (leadL t' b')).length + (stripB (leadL t b) (leadL t' b')).length : Int) = 2 * ((((t : Int) - t').natAbs : Int) + ((b : Int) - b').natAbs)))
  else
    decide (¬ leadL t b = leadL t' b') && (decide (¬ (strip (leadL t b) (leadL t' b') = [] ∨ stripB (leadL t b) (leadL t' b') = [])) &&
    decide (2 * max ((strip (leadL t b) (leadL t' b')).length : Int) (stripB (leadL t b) (leadL t' b')).length = 2 * max (((t : Int) - t').natAbs : Int) ((b : Int) - b').natAbs))
theorem lev_chk20 : ∀ t b t' b' : Fin 5, levChk2 t.val b.val t'.val b'.val = true := by decide +kernel
theorem lev_way {p q : Row} (kp : RowOk p) (kq : RowOk q) (c : Int) : levOf (leadL p.t.toNat p.b.toNat) (leadL q.t.toNat q.b.toNat) c = wayOf p q c := by
  obtain ⟨T, hT⟩ := Int.eq_ofNat_of_zero_le kp.t0
  obtain ⟨B, hB⟩ := Int.eq_ofNat_of_zero_le kp.b0
  obtain ⟨T', hT'⟩ := Int.eq_ofNat_of_zero_le kq.t0
  obtain ⟨B', hB'⟩ := Int.eq_ofNat_of_zero_le kq.b0
  have p2 := kp.t4; have p4 := kp.b4; have q2 := kq.t4; have q4 := kq.b4
  have h := lev_chk20 ⟨T, by omega⟩ ⟨B, by omega⟩ ⟨T', by omega⟩ ⟨B', by omega⟩
  unfold levOf wayOf
  rw [hT, hB, hT', hB', Int.toNat_natCast, Int.toNat_natCast, Int.toNat_natCast, Int.toNat_natCast]
  unfold levChk2 at h
  dsimp only at h
  by_cases hx : ((T : Int) - T') * ((B : Int) - B') ≥ 0
  · rw [if_pos hx, Bool.and_eq_true, Bool.and_eq_true, decide_eq_true_eq, decide_eq_true_eq, decide_eq_true_eq] at h
    rw [if_pos hx]
    by_cases he : leadL T B = leadL T' B'
    · rw [if_pos he]; exact h.2.1 he
    · rw [if_neg he, if_pos (h.1.resolve_left he)]; exact h.2.2 he
  · rw [if_neg hx, Bool.and_eq_true, Bool.and_eq_true, decide_eq_true_eq, decide_eq_true_eq, decide_eq_true_eq] at h
    rw [if_neg hx, if_neg h.1, if_neg h.2.1, h.2.2]
theorem dot_rows {r : Row} (k : RowOk r) (h : hasDot r = true) : (writtenL r = [46] ∧ dueL r = [46, 46]) ∨ (writtenL r = [46, 46] ∧ dueL r = [46, 46, 46]) := by
  unfold dueL
  rw [if_pos h]
  unfold hasDot at h
  rw [Bool.and_eq_true, decide_eq_true_eq, decide_eq_true_eq] at h
  have e1 : r.t.toNat = 0 := by have := k.t0; have := k.b0; omega
  have e2 : r.b.toNat = 0 := by have := k.t0; have := k.b0; omega
  have e3 : writtenL r = r.w := by unfold writtenL; rw [e1, e2]; rfl
  rw [e3]
  rcases k.hw with e | e | e | e <;> rw [e] at h ⊢
  · exact .inl ⟨rfl, rfl⟩
  · exact absurd h.2 (by decide)
  · exact .inr ⟨rfl, rfl⟩
  · exact absurd h.2 (by decide)
theorem lev_dot {r : Row} (k : RowOk r) (c : Int) : levOf (writtenL r) (dueL r) c = if hasDot r = true then 2 else 0 := by
  split
  · rename_i h
    rcases dot_rows k h with ⟨e1, e2⟩ | ⟨e1, e2⟩ <;> rw [e1, e2] <;> rfl
  · rename_i h
    unfold levOf dueL
    rw [if_neg h, if_pos rfl]
theorem lev_dcase {r : Row} (k : RowOk r) : writtenL r = dueL r ∨ strip (writtenL r) (dueL r) = [] := by
  by_cases h : hasDot r = true
  · rcases dot_rows k h with ⟨e1, e2⟩ | ⟨e1, e2⟩ <;> rw [e1, e2] <;> exact .inr (by decide)
  · left; unfold dueL; rw [if_neg h]
end

section
def colD (p q : Row) (s : Int) : PyData := .tuple [.int s, .int (s * p.t + p.b), .int (s * q.t + q.b)]
def colN (p q : Row) : Nat := (max p.b q.b + 1).toNat
def cols (p q : Row) : List Int := iRange 1 (colN p q)
theorem mem_iRange {a s : Int} {n : Nat} (h : s ∈ iRange a n) : a ≤ s ∧ s < a + n := by
  unfold iRange at h
  obtain ⟨i, hi, rfl⟩ := List.mem_map.mp h
  have := List.mem_range.mp hi
  omega
theorem cell_at {h h' : Heap} {c : Addr} {v : Option Value} (x : h.IsCell c v) (k : ∀ o, h.get? c = some o → h'.get? c = some o) : h'.IsCell c v := by
  obtain ⟨o, ho, r⟩ := x
  exact ⟨o, k o ho, r⟩
theorem is_tup {h : Heap} {a : Addr} {vs : List Value} {ds : List PyData} (x : IsTup h a vs.toArray) (y : Iss h vs ds) : Is h (.ref a) (.tuple ds) := by
  obtain ⟨o, e1, e2, n, e3⟩ := x
  exact .tup e1 e2 e3 y
theorem is_lst {h : Heap} {a : Addr} {vs : List Value} {ds : List PyData} (x : h.IsList a vs.toArray) (y : Iss h vs ds) : Is h (.ref a) (.list ds) := by
  obtain ⟨o, e1, e2, n, e3⟩ := x
  exact .lst e1 e2 e3 y
theorem fr_size {h h₁ : Heap} {L D : Addr} {m : Str → Option Value} (F : Fr h L h₁ m) (hD : h₁.objs.size ≤ D) : h.objs.size ≤ D := Nat.le_trans F.above (Nat.le_trans (Nat.le_of_lt F.ns.lt) hD)
theorem filter_all {α : Type} (l : List α) : l.filter (fun _ => true) = l := List.filter_eq_self.mpr fun _ _ => rfl
theorem moves_is {α : Type} {d : α → PyData} (hd : ∀ a, noL (d a) = true) : Moves (fun a (_ : Nat) h y => Is h y (d a)) := fun a _ _ _ _ t mi => t.tq mi.tq (hd a)

section
variable {prog : Program} {w : World} {mg mb : Str → Option Value} {A : Around} {E : Value → Shared → Prop} {gs : Array GenState} {dr : Drawn} {tk : Nat} {os : OsState} {h : Heap}
theorem f_columns {p q : Row} {u v : Value} {Q : Value → Shared → Prop} (g : G w mg mb h) (r : Room 3 A) (hp : Is h u (rowD p)) (hq : Is h v (rowD q)) (kp : RowOk p) (kq : RowOk q)
    (hQ : ∀ D h' tk' (ys : List Value), Ext h h' → h.objs.size ≤ D → h'.PlainList D ys.toArray → Iss h' ys ((cols p q).map (colD p q)) → Q (.ref D) ⟨h', gs, dr, tk', os⟩) : wpAny (model prog w) A (call (.ref 175) [u, v]) Q E ⟨h, gs, dr, tk, os⟩ := by
  obtain ⟨a, t0, t1, t2, t3, rfl, ha⟩ := row_inv hp
  obtain ⟨b, t4, t5, t6, t7, rfl, hb⟩ := row_inv hq
  have p1 := kp.t0; have p2 := kp.t4; have p3 := kp.b0; have p4 := kp.b4
  have q1 := kq.t0; have q2 := kq.t4; have q3 := kq.b0; have q4 := kq.b4
  refine enterC (P := fun v h' => ∃ D ys, v = .ref D ∧ h.objs.size ≤ D ∧ h'.PlainList D ys.toArray ∧ Iss h' ys ((cols p q).map (colD p q))) (binds := [(Str.ofString "one", .ref a), (Str.ofString "two", .ref b)]) g r
    (by show (Mine.hd.heap_39 w.params).lookup 175 = _; k_is) (by kernel_rfl) rfl rfl rfl rfl (by rfl) (by rfl) rfl rfl rfl ?_ ?_
  · intro A' env L h₁ tk₁ r' e F hcl g₁ x₁
    dsimp only at e
    have e : EnvIs env L _ [(Str.ofString "two", L + 1 + 1), (Str.ofString "one", L + 1)] := e
    have c1 : h₁.IsCell (L + 1) (some (.ref a)) := hcl (Str.ofString "one") (L + 1) (by rfl)
    have c2 : h₁.IsCell (L + 1 + 1) (some (.ref b)) := hcl (Str.ofString "two") (L + 1 + 1) (by rfl)
    clear hcl
    generalize bindL _ _ _ = m at F
    have r0 := r'.less (Nat.zero_le _)
    repeat (first | ((with_reducible refine' r_cell ?k1 ?k2 ?k3 ?k4 ?k5 ?k6 ?_); (case k1 => assumption); (case k2 => assumption); (case k3 => kernel_rfl!); (case k4 => assumption); (case k5 => assumption); (case k6 => kernel_rfl!)) | walk_at "m")
    refine r_cell' e (by kernel_rfl!) (by rfl) c1 (by kernel_rfl!) ?_
    repeat (first | ((with_reducible refine' r_cell ?k1 ?k2 ?k3 ?k4 ?k5 ?k6 ?_); (case k1 => assumption); (case k2 => assumption); (case k3 => kernel_rfl!); (case k4 => assumption); (case k5 => assumption); (case k6 => kernel_rfl!)) | walk_at "m")
    refine r_cell' e (by kernel_rfl!) (by rfl) c2 (by kernel_rfl!) ?_
    repeat (first | ((with_reducible refine' r_cell ?k1 ?k2 ?k3 ?k4 ?k5 ?k6 ?_); (case k1 => assumption); (case k2 => assumption); (case k3 => kernel_rfl!); (case k4 => assumption); (case k5 => assumption); (case k6 => kernel_rfl!)) | walk_at "m")
    rename_i rg h3 _ _ _ _ X3 hrg F3 h4 tk4 F4 S4
    have n1 : L + 1 ≠ L := Nat.succ_ne_self L
    have n2 : L + 1 + 1 ≠ L := Nat.ne_of_gt (Nat.lt_succ_of_lt (Nat.lt_succ_self L))
    have d1 : h4.IsCell (L + 1) (some (.ref a)) := cell_at c1 fun o q => by walk_at "kd"
    have d2 : h4.IsCell (L + 1 + 1) (some (.ref b)) := cell_at c2 fun o q => by walk_at "kd"
    have hrg4 : IsRange h4 rg 1 (max p.b q.b + 2) 1 _ _ _ := S4.extBut rg _ (by
      rintro rfl
      obtain ⟨o', es, ep, a1, a2, _⟩ := F3.ns
      have hrg' : h3.get? rg = some _ := hrg
      rw [hrg'] at a1; cases a1; cases a2) hrg
    have ha4 := ha.keeps F4.keep
    have hb4 := hb.keeps F4.keep
    refine cv_range (gs := gs) (dr := dr) (os := os) 1 (max p.b q.b + 2) (fun _ => true) (fun s _ h y => Is h y (colD p q s)) r0 e (by omega) (fun _ => rfl) (clos_of e (by rfl)) (by rfl) rfl (by rfl) (by rfl) (moves_is fun _ => rfl) ?_
    repeat (first | ((with_reducible refine' r_cell ?k1 ?k2 ?k3 ?k4 ?k5 ?k6 ?_); (case k1 => assumption); (case k2 => assumption); (case k3 => kernel_rfl!); (case k4 => assumption); (case k5 => assumption); (case k6 => kernel_rfl!)) | walk_at "m")
    refine ⟨_, _, _, _, _, _, rfl, rfl, hrg4, ?_, ?_⟩
    · rintro C s h₃ m₃ tk₃ hs ⟨ts, hm⟩ F₃ e₃
      refine ⟨tests_none ⟨_, _, rfl, Ext.refl _⟩, fun _ => ?_⟩
      have hs := mem_iRange hs
      have k1 : List.lookup (Str.ofString "one") [(Str.ofString "two", L + 1 + 1), (Str.ofString "one", L + 1)] = some (L + 1) := by rfl
      have k2 : List.lookup (Str.ofString "two") [(Str.ofString "two", L + 1 + 1), (Str.ofString "one", L + 1)] = some (L + 1 + 1) := by rfl
      repeat (first | ((with_reducible refine' r_cell ?k1 ?k2 ?k3 ?k4 ?k5 ?k6 ?_); (case k1 => assumption); (case k2 => assumption); (case k3 => kernel_rfl!); (case k4 => assumption); (case k5 => assumption); (case k6 => kernel_rfl!)) | walk_at "m")
      rename_i ht _ _
      exact ⟨_, _, rfl, by assumption, is_tup ht (.cons (.int _ _) (.cons (.int _ _) (.cons (.int _ _) .nil)))⟩
    · intro D h' tk' lo ys hD x pl hlo pr
      refine ⟨_, _, rfl, Ext.trans F4.keep x, D, ys, rfl, fr_size F4 hD, pl, ?_⟩
      rw [filter_all] at pr
      have hn : (max p.b q.b + 2 - 1).toNat = colN p q := by unfold colN; omega
      rw [hn] at pr
      exact paired_iss pr
  · rintro v h' tk' k ⟨D, ys, rfl, c1, c2, c3⟩
    exact hQ D h' tk' ys k c1 c2 c3
end
end

section
theorem pat1 {w : World} {mg mb : Str → Option Value} {h : Heap} (g : G w mg mb h) : PatIs h 50 code1 := by
  have a : (Mine.hd.heap_39 w.params).lookup 50 = some ⟨.type "re.Pattern", none, .fields #[Value.str (Str.ofString "(?m)^\\.") 321, Value.int 40 334, Value.int 0 0, Value.none, Value.none, Value.ref 49, Value.int 0 0], #[]⟩ := by kernel_rfl
  have b : (Mine.hd.heap_39 w.params).lookup 49 = some { cls := .type "tuple", data := .seq #[Value.int 14 0, Value.int 4 0, Value.int 0 0, Value.int 1 0, Value.int 1 0, Value.int 6 0, Value.int 1 0, Value.int 16 0, Value.int 46 0, Value.int 1 0] } := by kernel_rfl
  exact ⟨_, _, _, _, _, _, _, _, g.X _ _ a, g.X _ _ b, rfl, by decide +kernel⟩
theorem pat2 {w : World} {mg mb : Str → Option Value} {h : Heap} (g : G w mg mb h) : PatIs h 55 code2 := by
  have a : (Mine.hd.heap_39 w.params).lookup 55 = some ⟨.type "re.Pattern", none, .fields #[Value.str (Str.ofString "(?:\\r\\n|\\n|\\r(?!\\n))") 337, Value.int 32 376, Value.int 0 0, Value.none, Value.none, Value.ref 54, Value.int 0 0], #[]⟩ := by kernel_rfl
  have b : (Mine.hd.heap_39 w.params).lookup 54 = some { cls := .type "tuple", data := .seq #[Value.int 14 0, Value.int 9 0, Value.int 4 0, Value.int 1 0, Value.int 2 0, Value.int 16 0, Value.int 10 0,
        Value.int 16 0, Value.int 13 0, Value.int 0 0, Value.int 7 0, Value.int 7 0, Value.int 16 0, Value.int 13 0,
        Value.int 16 0, Value.int 10 0, Value.int 15 0, Value.int 18 0, Value.int 5 0, Value.int 16 0, Value.int 10 0,
        Value.int 15 0, Value.int 13 0, Value.int 11 0, Value.int 16 0, Value.int 13 0, Value.int 5 0, Value.int 5 0,
        Value.int 0 0, Value.int 16 0, Value.int 10 0, Value.int 1 0, Value.int 15 0, Value.int 2 0, Value.int 0 0,
        Value.int 1 0] } := by kernel_rfl
  exact ⟨_, _, _, _, _, _, _, _, g.X _ _ a, g.X _ _ b, rfl, by decide +kernel⟩

section
variable {prog : Program} {w : World} {mg mb : Str → Option Value} {A : Around} {E : Value → Shared → Prop} {gs : Array GenState} {dr : Drawn} {tk : Nat} {os : OsState} {h : Heap}
theorem f_fix {x : List Nat} {t : Tok} {Q : Value → Shared → Prop} (g : G w mg mb h) (r : Room 2 A) (hx : x.length ≤ 5000)
    (hQ : ∀ t' h' tk', Ext h h' → Q (.str (S (fixL x)) t') ⟨h', gs, dr, tk', os⟩) : wpAny (model prog w) A (call (.ref 69) [.str (S x) t]) Q E ⟨h, gs, dr, tk, os⟩ := by
  refine enter (P := fun v _ => ∃ t', v = .str (S (fixL x)) t') (binds := [(Str.ofString "data", .str (S x) t)]) g r
    (by show (Mine.hd.heap_39 w.params).lookup 69 = _; k_is) (by kernel_rfl) rfl rfl rfl rfl (by rfl) (by rfl) (by rfl) rfl rfl rfl ?_ ?_
  · intro A' env L h₁ tk₁ r' e F g₁ x₁
    dsimp only at e
    generalize hm : (fun x_1 => List.lookup x_1 ([(Str.ofString "data", Value.str (S x) t)].reverse)) = m at F
    have m1 : m (Str.ofString "data") = some (.str (S x) t) := by rw [← hm]; rfl
    clear hm
    repeat (first | ((with_reducible refine' r_lit ?k1 ?_); (case k1 => with_reducible exact lit_dots); intro _ _) | walk_at "m")
    refine Call_method2 (by rfl) (by rfl) (by rfl) ?_
    repeat (first | ((with_reducible refine' r_lit ?k1 ?_); (case k1 => with_reducible exact lit_dots); intro _ _) | walk_at "m")
    refine sub_method (pat2 g₁) ?_
    repeat (first | ((with_reducible refine' r_lit ?k1 ?_); (case k1 => with_reducible exact lit_dots); intro _ _) | walk_at "m")
    refine sub_call (t := t) (x := S x) (out := fixL x) (by show x.toArray.size ≤ _; rw [List.size_toArray]; omega) (by decide) (by decide +kernel) (pat2 g₁) (subs2 _) fun y h' t' k hy kk => ?_
    rw [S_eq hy]
    exact ⟨_, _, rfl, Ext.trans x₁ kk, _, rfl⟩
  · rintro v h' tk' k ⟨t', rfl⟩
    exact hQ t' h' tk' k
theorem f_quote {x : List Nat} {t : Tok} {Q : Value → Shared → Prop} (g : G w mg mb h) (r : Room 2 A) (hx : x.length ≤ 5000) (hx2 : (fixL x).length ≤ 10000)
    (hQ : ∀ t' h' tk', Ext h h' → Q (.str (S (quoL true (fixL x))) t') ⟨h', gs, dr, tk', os⟩) : wpAny (model prog w) A (call (.ref 62) [.str (S x) t]) Q E ⟨h, gs, dr, tk, os⟩ := by
  refine enter (P := fun v _ => ∃ t', v = .str (S (quoL true (fixL x))) t') (binds := [(Str.ofString "data", .str (S x) t)]) g r
    (by show (Mine.hd.heap_39 w.params).lookup 62 = _; k_is) (by kernel_rfl) rfl rfl rfl rfl (by rfl) (by rfl) (by rfl) rfl rfl rfl ?_ ?_
  · intro A' env L h₁ tk₁ r' e F g₁ x₁
    dsimp only at e
    generalize hm : (fun x_1 => List.lookup x_1 ([(Str.ofString "data", Value.str (S x) t)].reverse)) = m at F
    have m1 : m (Str.ofString "data") = some (.str (S x) t) := by rw [← hm]; rfl
    clear hm
    repeat (first | ((with_reducible refine' r_lit ?k1 ?_); (case k1 => with_reducible exact lit_dots); intro _ _) | walk_at "m")
    refine Call_method2 (by rfl) (by rfl) (by rfl) ?_
    repeat (first | ((with_reducible refine' r_lit ?k1 ?_); (case k1 => with_reducible exact lit_dots); intro _ _) | walk_at "m")
    refine sub_method (pat1 g₁) ?_
    repeat (first | ((with_reducible refine' r_lit ?k1 ?_); (case k1 => with_reducible exact lit_dots); intro _ _) | walk_at "m")
    refine Call_method2 (by rfl) (by rfl) (by rfl) ?_
    repeat (first | ((with_reducible refine' r_lit ?k1 ?_); (case k1 => with_reducible exact lit_dots); intro _ _) | walk_at "m")
    refine sub_method (pat2 g₁) ?_
    repeat (first | ((with_reducible refine' r_lit ?k1 ?_); (case k1 => with_reducible exact lit_dots); intro _ _) | walk_at "m")
    refine sub_call (t := t) (x := S x) (out := fixL x) (by show x.toArray.size ≤ _; rw [List.size_toArray]; omega) (by decide) (by decide +kernel) (pat2 g₁) (subs2 _) fun y h' t' k hy kk => ?_
    rw [S_eq hy]
    refine sub_call (x := S (fixL x)) (out := quoL true (fixL x)) (by show (fixL x).toArray.size ≤ _; rw [List.size_toArray]; omega) (by decide) (by decide +kernel) (pat1 (g₁.keeps kk)) (subs1 _ (by show (fixL x).toArray.size < _; rw [List.size_toArray]; omega)) fun y h' t' k hy kk' => ?_
    rw [S_eq hy]
    exact ⟨_, _, rfl, Ext.trans x₁ (Ext.trans kk kk'), _, rfl⟩
  · rintro v h' tk' k ⟨t', rfl⟩
    exact hQ t' h' tk' k
end
end

theorem kd_o {h h' : Heap} {D L : Addr} {o : Obj} (x : Off [L] h h') (hne : D ≠ L) (q : h.get? D = some o) : h'.get? D = some o := x D o (fun hm => hne (List.mem_singleton.mp hm)) q
local macro_rules | `(tactic| walk_at "kd") => `(tactic| first | assumption | ((with_reducible refine' kd_s ?k1 ?k2 ?_); (case k1 => assumption); (case k2 => assumption); walk_at "kd") | ((with_reducible refine' kd_x ?k1 ?_); (case k1 => assumption); walk_at "kd") | ((with_reducible refine' kd_o ?k1 ?k2 ?_); (case k1 => assumption); (case k2 => assumption); walk_at "kd") | fail "kd")
section
def normD (T B : Nat) : PyData := .tuple [.tuple (if 0 < T then [.int T] else []), .int B]
structure WsF (h : Heap) (f : Str → Option Value) (T B : Nat) : Prop where
  fn : ∃ t, f (Str.ofString "n") = some (.int ((T : Int) + B) t)
  fnt : ∃ t, f (Str.ofString "nt") = some (.int T t)
  fnorm : ∃ v, f (Str.ofString "norm") = some v ∧ Is h v (normD T B)
  fsim : f (Str.ofString "is_simple") = some (.bool true)
  m1 : f (Str.ofString "longest_run_of_spaces") = none
  m2 : f (Str.ofString "indent_level") = none
  m3 : f (Str.ofString "equal") = none
  m4 : f (Str.ofString "less") = none
  m5 : f (Str.ofString "not_less_witness") = none
  m6 : f (Str.ofString "not_equal_witness") = none

structure IniI (h₀ : Heap) (L I x dx : Addr) (f : Str → Option Value) (T : Nat) (K : Nat) (i : Nat) (h : Heap) (m : Str → Option Value) : Prop where
  le : i ≤ K
  s : ∃ t, m (Str.ofString "S") = some (.str (S [32]) t)
  t : ∃ t, m (Str.ofString "T") = some (.str (S [9]) t)
  self : m (Str.ofString "self") = some (.ref x)
  ob : Ob 1 h x dx f
  n : ∃ t, m (Str.ofString "n") = some (.int i t)
  nt : ∃ t, m (Str.ofString "nt") = some (.int (min i T : Nat) t)
  b : ∃ t, m (Str.ofString "b") = some (.int (i - min i T : Nat) t)
  cnt : ∃ D vs t, m (Str.ofString "count") = some (.ref D) ∧ h.IsList D (vs : List Value).toArray ∧ (vs = if 0 < min i T then [.int (min i T : Nat) t] else []) ∧ D ≠ L ∧ D ≠ I ∧ D ≠ x ∧ D ≠ dx ∧ h₀.get? D = none

theorem lead_get {T B i v : Nat} {wd : List Nat} (h : (List.replicate T 9 ++ List.replicate B 32 ++ wd)[i]? = some v) (hi : i ≤ T + B) : (i < T ∧ v = 9) ∨ (T ≤ i ∧ i < T + B ∧ v = 32) ∨ (i = T + B ∧ wd.head? = some v) := by
  rcases Nat.lt_or_ge i T with h1 | h1
  · rw [List.append_assoc, List.getElem?_append_left (by simpa using h1), List.getElem?_replicate, if_pos h1] at h
    exact .inl ⟨h1, (Option.some.inj h).symm⟩
  · rcases Nat.lt_or_ge i (T + B) with h2 | h2
    · rw [List.append_assoc, List.getElem?_append_right (by simpa using h1), List.getElem?_append_left (by simp; omega), List.getElem?_replicate, if_pos (by simp; omega)] at h
      exact .inr (.inl ⟨h1, h2, (Option.some.inj h).symm⟩)
    · refine .inr (.inr ⟨by omega, ?_⟩)
      rw [List.getElem?_append_right (by simp; omega)] at h
      simp only [List.length_append, List.length_replicate] at h
      rw [show i - (T + B) = 0 by omega] at h
      rw [List.head?_eq_getElem?]; exact h
theorem new_apart {h hX : Heap} {L a x dx : Addr} {m f : Str → Option Value} {k : Nat} (hn : hX.get? a = none) (F : Fr h L hX m) (ob : Ob k hX x dx f) : a ≠ dx ∧ a ≠ L ∧ h.get? a = none := by
  refine ⟨?_, ?_, ?_⟩
  · rintro rfl
    obtain ⟨es, n, q, _⟩ := ob.di
    rw [hn] at q; cases q
  · rintro rfl
    obtain ⟨o, es, ep, q, _⟩ := F.ns
    rw [hn] at q; cases q
  · cases q : h.get? a with
    | none => rfl
    | some o => rw [F.keep _ _ q] at hn; cases hn
theorem IniI.off {h₀ : Heap} {L I x dx : Addr} {f : Str → Option Value} {T K i : Nat} {h h' : Heap} {m : Str → Option Value} (J : IniI h₀ L I x dx f T K i h m) (hx : x ≠ L ∧ x ≠ I ∧ dx ≠ L ∧ dx ≠ I) (O : Off [L, I] h h') : IniI h₀ L I x dx f T K i h' m := by
  have k : ∀ {a : Addr}, a ≠ L → a ≠ I → ∀ o, h.get? a = some o → h'.get? a = some o := fun {a} h1 h2 o q => O a o (fun hm => by
    rcases List.mem_cons.mp hm with z | z
    · exact h1 z
    · exact h2 (List.mem_singleton.mp z)) q
  obtain ⟨D, vs, t, a1, a2, a3, a4, a5, a6⟩ := J.cnt
  exact ⟨J.le, J.s, J.t, J.self, J.ob.at (k hx.1 hx.2.1) (k hx.2.2.1 hx.2.2.2), J.n, J.nt, J.b, D, vs, t, a1, list_at a2 (k a4 a5), a3, a4, a5, a6⟩

section
variable {prog : Program} {w : World} {mg mb : Str → Option Value} {A : Around} {E : Value → Shared → Prop} {gs : Array GenState} {dr : Drawn} {tk : Nat} {os : OsState} {h : Heap}
theorem f_make {T B : Nat} {wd : List Nat} {t : Tok} {Q : Value → Shared → Prop} (g : G w mg mb h) (r : Room 4 A) (hT : T ≤ 4) (hB : B ≤ 4) (hw : ∃ c, wd.head? = some c ∧ c ≠ 9 ∧ c ≠ 32) (hwl : wd.length ≤ 10)
    (hQ : ∀ x dx f h' tk', Ext h h' → h.objs.size ≤ x → h.objs.size ≤ dx → Ob 5 h' x dx f → WsF h' f T B → Q (.ref x) ⟨h', gs, dr, tk', os⟩) :
    wpAny (model prog w) A (call (.ref 131) [.str (S (List.replicate T 9 ++ List.replicate B 32 ++ wd)) t]) Q E ⟨h, gs, dr, tk, os⟩ := by
  refine r_make (n := 3) g r fun A' h₁ x dx r1 eh edx ex => ?_
  have X01 : Ext h h₁ := fun b o q => by rw [eh]; exact Heap.get?_push_of_some _ (Heap.get?_push_of_some _ q)
  have hdx : h₁.get? dx = some emptyDict := by rw [eh, edx]; exact Heap.get?_push_of_some _ (Heap.get?_push_size _ rfl)
  have hx : h₁.get? x = some (instObj 131 dx) := by
    rw [eh, ex, edx]
    have : ((h.push emptyDict).push (instObj 131 h.objs.size)).get? (h.push emptyDict).objs.size = some (instObj 131 h.objs.size) := Heap.get?_push_size _ rfl
    rwa [Heap.size_push] at this
  have ne : x ≠ dx := by rw [ex, edx]; exact Nat.succ_ne_self _
  have hx0 : h.get? x = none := fresh_none (by rw [ex]; exact Nat.le_succ _)
  have hdx0 : h.get? dx = none := fresh_none (by rw [edx]; exact Nat.le_refl _)
  have ob0 : Ob 0 h₁ x dx (fun _ => none) := ⟨hx, [], 0, hdx, ⟨rfl, fun _ => rfl⟩, Nat.le_refl _⟩
  clear eh
  refine enter_code (n := 2) (binds := [(Str.ofString "self", .ref x), (Str.ofString "ws", .str (S (List.replicate T 9 ++ List.replicate B 32 ++ wd)) t)]) (g.keeps X01) r1
    (by show (Mine.hd.heap_39 w.params).lookup 86 = _; k_is) (by kernel_rfl) rfl rfl rfl rfl (by rfl) (by rfl) (by rfl) rfl rfl rfl ?_
  intro A2 env L h₂ tk₂ r2 e F1 g₂ x₁₂
  dsimp only at e
  generalize hm : (fun y => List.lookup y ([(Str.ofString "self", Value.ref x), (Str.ofString "ws", .str (S (List.replicate T 9 ++ List.replicate B 32 ++ wd)) t)].reverse)) = m at F1
  have m1 : m (Str.ofString "self") = some (.ref x) := by rw [← hm]; rfl
  have m2 : m (Str.ofString "ws") = some (.str (S (List.replicate T 9 ++ List.replicate B 32 ++ wd)) t) := by rw [← hm]; rfl
  clear hm
  have hxL : x ≠ L := Nat.ne_of_lt (Nat.lt_of_lt_of_le (Heap.lt_size hx) F1.above)
  have hdL : dx ≠ L := Nat.ne_of_lt (Nat.lt_of_lt_of_le (Heap.lt_size hdx) F1.above)
  have F : Fr h L h₂ m := ⟨F1.ns, Ext.trans X01 x₁₂, Nat.le_trans (by rw [← edx]; exact Nat.le_of_lt (Heap.lt_size hdx)) F1.above⟩
  have ob2 := ob0.at (x₁₂ _) (x₁₂ _)
  have apart : x ≠ dx ∧ x ≠ L ∧ dx ≠ L ∧ h.get? x = none ∧ h.get? dx = none := ⟨ne, hxL, hdL, hx0, hdx0⟩
  clear F1
  have r0 := r2.less (Nat.zero_le _)
  repeat (first | ((with_reducible refine' x_assign3 ?k1 ?_); (case k1 => rfl)) | ((with_reducible refine' x_setattr ?k1 ?_); (case k1 => rfl)) | ((with_reducible refine' r_wsS ?k1 ?k2 ?_); (case k2 => assumption); (case k1 => assumption); intro _ _) | ((with_reducible refine' r_wsT ?k1 ?k2 ?_); (case k2 => assumption); (case k1 => assumption); intro _ _) | ((with_reducible refine' x_setitem ?k1 ?_); (case k1 => rfl)) | ((with_reducible refine' r_bui ?k1 ?k2 ?k3 ?k4 ?k5 ?k6 ?k7 ?k8 ?_); (case k1 => assumption); (case k2 => assumption); (case k3 => assumption); (case k4 => kernel_rfl!); (case k5 => k_is); (case k6 => with_reducible exact bb_tuple); (case k7 => decide +kernel); (case k8 => kernel_rfl!)) | walk_at "m")
  refine r_setattr [] g F ob2 (by kernel_rfl) (by decide) apart (fun p hp => by cases hp) fun h3 tk3 F3 ob3 _ => ?_
  refine x_swap (h₀ := h) e r0 (by kernel_rfl!) (by kernel_rfl!) (by kernel_rfl!) (by rfl) (by rfl) (by rfl) (by rfl) (by rfl) ?_
  repeat (first | ((with_reducible refine' x_assign3 ?k1 ?_); (case k1 => rfl)) | ((with_reducible refine' x_setattr ?k1 ?_); (case k1 => rfl)) | ((with_reducible refine' r_wsS ?k1 ?k2 ?_); (case k2 => assumption); (case k1 => assumption); intro _ _) | ((with_reducible refine' r_wsT ?k1 ?k2 ?_); (case k2 => assumption); (case k1 => assumption); intro _ _) | ((with_reducible refine' x_setitem ?k1 ?_); (case k1 => rfl)) | ((with_reducible refine' r_bui ?k1 ?k2 ?k3 ?k4 ?k5 ?k6 ?k7 ?k8 ?_); (case k1 => assumption); (case k2 => assumption); (case k3 => assumption); (case k4 => kernel_rfl!); (case k5 => k_is); (case k6 => with_reducible exact bb_tuple); (case k7 => decide +kernel); (case k8 => kernel_rfl!)) | walk_at "m")
  rename_i ht _ FF
  refine ⟨_, _, _, _, _, _, rfl, rfl, ht, FF, fun h4 tk4 F4 O4 => ?_⟩
  (first | ((with_reducible refine' x_assign3 ?k1 ?_); (case k1 => rfl)) | ((with_reducible refine' x_setattr ?k1 ?_); (case k1 => rfl)) | ((with_reducible refine' r_wsS ?k1 ?k2 ?_); (case k2 => assumption); (case k1 => assumption); intro _ _) | ((with_reducible refine' r_wsT ?k1 ?k2 ?_); (case k2 => assumption); (case k1 => assumption); intro _ _) | ((with_reducible refine' x_setitem ?k1 ?_); (case k1 => rfl)) | ((with_reducible refine' r_bui ?k1 ?k2 ?k3 ?k4 ?k5 ?k6 ?k7 ?k8 ?_); (case k1 => assumption); (case k2 => assumption); (case k3 => assumption); (case k4 => kernel_rfl!); (case k5 => k_is); (case k6 => with_reducible exact bb_tuple); (case k7 => decide +kernel); (case k8 => kernel_rfl!)) | walk_at "m")
  repeat (first | ((with_reducible refine' x_assign3 ?k1 ?_); (case k1 => rfl)) | ((with_reducible refine' x_setattr ?k1 ?_); (case k1 => rfl)) | ((with_reducible refine' r_wsS ?k1 ?k2 ?_); (case k2 => assumption); (case k1 => assumption); intro _ _) | ((with_reducible refine' r_wsT ?k1 ?k2 ?_); (case k2 => assumption); (case k1 => assumption); intro _ _) | ((with_reducible refine' x_setitem ?k1 ?_); (case k1 => rfl)) | ((with_reducible refine' r_bui ?k1 ?k2 ?k3 ?k4 ?k5 ?k6 ?k7 ?k8 ?_); (case k1 => assumption); (case k2 => assumption); (case k3 => assumption); (case k4 => kernel_rfl!); (case k5 => k_is); (case k6 => with_reducible exact bb_tuple); (case k7 => decide +kernel); (case k8 => kernel_rfl!)) | walk_at "m")
  rename_i D hD XD plD nD sD FD lD h5 tk5 F5 S5 tz kz h6 tk6 F6 S6 h7 tk7 F7 S7 h8 tk8 F8 S8
  have hDL : D ≠ L := fun z => by
    have := F4.ns.lt
    rw [z] at sD
    exact absurd this (Nat.not_lt.mpr sD)
  have ob8 : Ob 1 h8 x dx _ := ob3.at (fun o q => by walk_at "kd") (fun o q => by walk_at "kd")
  have pl8 : h8.PlainList D #[] := plD.at fun o q => by walk_at "kd"
  have D0 : h.get? D = none := fresh_none (Nat.le_trans F4.above (Nat.le_trans (Nat.le_of_lt F4.ns.lt) sD))
  have hDx : D ≠ x := fun z => by
    have := F4.keep
    rw [z, show h4.get? x = some _ from kd_o O4 hxL (kd_x (by assumption) ob3.ob)] at nD
    cases nD
  have hDdx : D ≠ dx := fun z => by
    obtain ⟨es, n, q, _⟩ := ob3.di
    rw [z, show h4.get? dx = some _ from kd_o O4 hdL (kd_x (by assumption) q)] at nD
    cases nD
  refine x_for (fun _ => rfl) ?_
  repeat (first | ((with_reducible refine' x_assign3 ?k1 ?_); (case k1 => rfl)) | ((with_reducible refine' x_setattr ?k1 ?_); (case k1 => rfl)) | ((with_reducible refine' r_wsS ?k1 ?k2 ?_); (case k2 => assumption); (case k1 => assumption); intro _ _) | ((with_reducible refine' r_wsT ?k1 ?k2 ?_); (case k2 => assumption); (case k1 => assumption); intro _ _) | ((with_reducible refine' x_setitem ?k1 ?_); (case k1 => rfl)) | ((with_reducible refine' r_bui ?k1 ?k2 ?k3 ?k4 ?k5 ?k6 ?k7 ?k8 ?_); (case k1 => assumption); (case k2 => assumption); (case k3 => assumption); (case k4 => kernel_rfl!); (case k5 => k_is); (case k6 => with_reducible exact bb_tuple); (case k7 => decide +kernel); (case k8 => kernel_rfl!)) | walk_at "m")
  refine r_getattr (g.keeps F8.keep) ob8 (by kernel_rfl) upd_eq rfl fun tk9 => ?_
  generalize hf : upd (fun _ => none) (Str.ofString "raw") (Value.str (S (List.replicate T 9 ++ List.replicate B 32 ++ wd)) t) = f1 at ob8
  have iL : ∀ {a : Addr} {o : Obj}, h8.get? a = some o → a ≠ h8.objs.size := fun q => Nat.ne_of_lt (Heap.lt_size q)
  have xI : x ≠ h8.objs.size := iL ob8.ob
  have dI : dx ≠ h8.objs.size := by obtain ⟨es, n, q, _⟩ := ob8.di; exact iL q
  have DI : D ≠ h8.objs.size := by obtain ⟨k, q⟩ := pl8; exact iL q
  have hIL : h8.objs.size ≠ L := Ne.symm (Nat.ne_of_lt F8.ns.lt)
  refine for_str (IniI h L h8.objs.size x dx f1 T (T + B)) r0 e (by kernel_rfl!) F8 ?_ ?_ ?_ ?_
  · intro h' X'
    exact ⟨Nat.zero_le _, ⟨_, by walk_at "lk"⟩, ⟨_, by walk_at "lk"⟩, by walk_at "lk", ob8.at (X' _) (X' _), ⟨tz, by rw [show ((0 : Nat) : Int) = 0 from rfl]; walk_at "lk"⟩, ⟨tz, by rw [Nat.zero_min, show ((0 : Nat) : Int) = 0 from rfl]; walk_at "lk"⟩, ⟨tz, by rw [Nat.zero_min, Nat.sub_zero, show ((0 : Nat) : Int) = 0 from rfl]; walk_at "lk"⟩, D, [], 0, by walk_at "lk", list_at pl8.isList (X' _), by rw [Nat.zero_min, if_neg (Nat.lt_irrefl 0)], hDL, DI, hDx, hDdx, D0⟩
  · intro i h₁ h₂ m₁ J O
    exact J.off ⟨hxL, xI, hdL, dI⟩ O
  · intro i v u h9 m9 tk9 hv hIo J F9
    have hle := J.le
    obtain ⟨t1, j1⟩ := J.s
    obtain ⟨t2, j2⟩ := J.t
    have j3 := J.self
    obtain ⟨t4, j4⟩ := J.n
    obtain ⟨t5, j5⟩ := J.nt
    obtain ⟨t6, j6⟩ := J.b
    obtain ⟨D', vs, tv, j7, plD', hvs, a1, a2, a3, a4, a5⟩ := J.cnt
    have ob9 := J.ob
    clear J hDL hDx hDdx DI D0 pl8 ob8 F8 S8 F7 S7 F6 S6 F5 S5 FD lD XD plD nD sD
    refine x_if ?_
    rcases lead_get hv hle with ⟨c1, rfl⟩ | ⟨c1, c2, rfl⟩ | ⟨c1, c2⟩
    · repeat (first | ((with_reducible refine' x_assign3 ?k1 ?_); (case k1 => rfl)) | ((with_reducible refine' x_setattr ?k1 ?_); (case k1 => rfl)) | ((with_reducible refine' r_wsS ?k1 ?k2 ?_); (case k2 => assumption); (case k1 => assumption); intro _ _) | ((with_reducible refine' r_wsT ?k1 ?k2 ?_); (case k2 => assumption); (case k1 => assumption); intro _ _) | ((with_reducible refine' x_setitem ?k1 ?_); (case k1 => rfl)) | ((with_reducible refine' r_bui ?k1 ?k2 ?k3 ?k4 ?k5 ?k6 ?k7 ?k8 ?_); (case k1 => assumption); (case k2 => assumption); (case k3 => assumption); (case k4 => kernel_rfl!); (case k5 => k_is); (case k6 => with_reducible exact bb_tuple); (case k7 => decide +kernel); (case k8 => kernel_rfl!)) | walk_at "m")
      refine r_ite (fun z => absurd z (by decide)) fun _ => ?_
      refine x_if ?_
      repeat (first | ((with_reducible refine' x_assign3 ?k1 ?_); (case k1 => rfl)) | ((with_reducible refine' x_setattr ?k1 ?_); (case k1 => rfl)) | ((with_reducible refine' r_wsS ?k1 ?k2 ?_); (case k2 => assumption); (case k1 => assumption); intro _ _) | ((with_reducible refine' r_wsT ?k1 ?k2 ?_); (case k2 => assumption); (case k1 => assumption); intro _ _) | ((with_reducible refine' x_setitem ?k1 ?_); (case k1 => rfl)) | ((with_reducible refine' r_bui ?k1 ?k2 ?k3 ?k4 ?k5 ?k6 ?k7 ?k8 ?_); (case k1 => assumption); (case k2 => assumption); (case k3 => assumption); (case k4 => kernel_rfl!); (case k5 => k_is); (case k6 => with_reducible exact bb_tuple); (case k7 => decide +kernel); (case k8 => kernel_rfl!)) | walk_at "m")
      refine r_ite (fun _ => ?_) fun z => absurd rfl z
      have e1 : min i T = i := Nat.min_eq_left (by omega)
      rw [e1] at j5 j6 hvs
      rw [Nat.sub_self] at j6
      rcases Nat.eq_zero_or_pos i with rfl | hi
      · rw [if_neg (Nat.lt_irrefl 0)] at hvs
        subst hvs
        repeat (first | ((with_reducible refine' x_assign3 ?k1 ?_); (case k1 => rfl)) | ((with_reducible refine' x_setattr ?k1 ?_); (case k1 => rfl)) | ((with_reducible refine' r_wsS ?k1 ?k2 ?_); (case k2 => assumption); (case k1 => assumption); intro _ _) | ((with_reducible refine' r_wsT ?k1 ?k2 ?_); (case k2 => assumption); (case k1 => assumption); intro _ _) | ((with_reducible refine' x_setitem ?k1 ?_); (case k1 => rfl)) | ((with_reducible refine' r_bui ?k1 ?k2 ?k3 ?k4 ?k5 ?k6 ?k7 ?k8 ?_); (case k1 => assumption); (case k2 => assumption); (case k3 => assumption); (case k4 => kernel_rfl!); (case k5 => k_is); (case k6 => with_reducible exact bb_tuple); (case k7 => decide +kernel); (case k8 => kernel_rfl!)) | walk_at "m")
        refine r_llen (vs := []) (list_at plD' fun o q => by walk_at "kd") (by decide) fun _ _ => ?_
        repeat (first | ((with_reducible refine' x_assign3 ?k1 ?_); (case k1 => rfl)) | ((with_reducible refine' x_setattr ?k1 ?_); (case k1 => rfl)) | ((with_reducible refine' r_wsS ?k1 ?k2 ?_); (case k2 => assumption); (case k1 => assumption); intro _ _) | ((with_reducible refine' r_wsT ?k1 ?k2 ?_); (case k2 => assumption); (case k1 => assumption); intro _ _) | ((with_reducible refine' x_setitem ?k1 ?_); (case k1 => rfl)) | ((with_reducible refine' r_bui ?k1 ?k2 ?k3 ?k4 ?k5 ?k6 ?k7 ?k8 ?_); (case k1 => assumption); (case k2 => assumption); (case k3 => assumption); (case k4 => kernel_rfl!); (case k5 => k_is); (case k6 => with_reducible exact bb_tuple); (case k7 => decide +kernel); (case k8 => kernel_rfl!)) | walk_at "m")
        refine r_ite (fun _ => ?_) fun z => absurd (by decide) z
        repeat (first | ((with_reducible refine' x_assign3 ?k1 ?_); (case k1 => rfl)) | ((with_reducible refine' x_setattr ?k1 ?_); (case k1 => rfl)) | ((with_reducible refine' r_wsS ?k1 ?k2 ?_); (case k2 => assumption); (case k1 => assumption); intro _ _) | ((with_reducible refine' r_wsT ?k1 ?k2 ?_); (case k2 => assumption); (case k1 => assumption); intro _ _) | ((with_reducible refine' x_setitem ?k1 ?_); (case k1 => rfl)) | ((with_reducible refine' r_bui ?k1 ?k2 ?k3 ?k4 ?k5 ?k6 ?k7 ?k8 ?_); (case k1 => assumption); (case k2 => assumption); (case k3 => assumption); (case k4 => kernel_rfl!); (case k5 => k_is); (case k6 => with_reducible exact bb_tuple); (case k7 => decide +kernel); (case k8 => kernel_rfl!)) | walk_at "m")
        refine r_llen (vs := []) (list_at plD' fun o q => by walk_at "kd") (by decide) fun _ _ => ?_
        repeat (first | ((with_reducible refine' x_assign3 ?k1 ?_); (case k1 => rfl)) | ((with_reducible refine' x_setattr ?k1 ?_); (case k1 => rfl)) | ((with_reducible refine' r_wsS ?k1 ?k2 ?_); (case k2 => assumption); (case k1 => assumption); intro _ _) | ((with_reducible refine' r_wsT ?k1 ?k2 ?_); (case k2 => assumption); (case k1 => assumption); intro _ _) | ((with_reducible refine' x_setitem ?k1 ?_); (case k1 => rfl)) | ((with_reducible refine' r_bui ?k1 ?k2 ?k3 ?k4 ?k5 ?k6 ?k7 ?k8 ?_); (case k1 => assumption); (case k2 => assumption); (case k3 => assumption); (case k4 => kernel_rfl!); (case k5 => k_is); (case k6 => with_reducible exact bb_tuple); (case k7 => decide +kernel); (case k8 => kernel_rfl!)) | walk_at "m")
        refine r_lmul (by assumption) (by decide) (by show (1 : Nat) ≤ 100; decide) fun D2 h11 X11 s2 pl2 => ?_
        have F11 := Fr.keeps (by assumption) X11
        refine r_ladd (vs := []) (list_at plD' fun o q => by walk_at "kd") pl2.isList (by show (1 : Nat) ≤ 10000; decide) fun D3 h12 X12 s3 pl3 => ?_
        have F12 := Fr.keeps F11 X12
        have n3 : D3 ≠ L := Ne.symm (Nat.ne_of_lt (Nat.lt_of_lt_of_le F11.ns.lt s3))
        have pl3' : h12.IsList D3 [Value.int 0 _].toArray := pl3.isList
        have D30 : h.get? D3 = none := fresh_none (Nat.le_trans F11.above (Nat.le_trans (Nat.le_of_lt F11.ns.lt) s3))
        have n3x : D3 ≠ x := Ne.symm (Nat.ne_of_lt (Nat.lt_of_lt_of_le (Heap.lt_size (show h11.get? x = some (instObj 131 dx) from by have q := ob9.ob; walk_at "kd")) s3))
        have n3d : D3 ≠ dx := by
          obtain ⟨es, n, q, _⟩ := ob9.di
          exact Ne.symm (Nat.ne_of_lt (Nat.lt_of_lt_of_le (Heap.lt_size (show h11.get? dx = some (dictOf es n) from by walk_at "kd")) s3))
        have n3I : D3 ≠ h8.objs.size := by
          obtain ⟨o, q⟩ := hIo
          exact Ne.symm (Nat.ne_of_lt (Nat.lt_of_lt_of_le (Heap.lt_size (show h11.get? h8.objs.size = some o from by walk_at "kd")) s3))
        repeat (first | ((with_reducible refine' x_assign3 ?k1 ?_); (case k1 => rfl)) | ((with_reducible refine' x_setattr ?k1 ?_); (case k1 => rfl)) | ((with_reducible refine' r_wsS ?k1 ?k2 ?_); (case k2 => assumption); (case k1 => assumption); intro _ _) | ((with_reducible refine' r_wsT ?k1 ?k2 ?_); (case k2 => assumption); (case k1 => assumption); intro _ _) | ((with_reducible refine' x_setitem ?k1 ?_); (case k1 => rfl)) | ((with_reducible refine' r_bui ?k1 ?k2 ?k3 ?k4 ?k5 ?k6 ?k7 ?k8 ?_); (case k1 => assumption); (case k2 => assumption); (case k3 => assumption); (case k4 => kernel_rfl!); (case k5 => k_is); (case k6 => with_reducible exact bb_tuple); (case k7 => decide +kernel); (case k8 => kernel_rfl!)) | walk_at "m")
        refine ⟨rfl, ?_⟩
        repeat (first | ((with_reducible refine' x_assign3 ?k1 ?_); (case k1 => rfl)) | ((with_reducible refine' x_setattr ?k1 ?_); (case k1 => rfl)) | ((with_reducible refine' r_wsS ?k1 ?k2 ?_); (case k2 => assumption); (case k1 => assumption); intro _ _) | ((with_reducible refine' r_wsT ?k1 ?k2 ?_); (case k2 => assumption); (case k1 => assumption); intro _ _) | ((with_reducible refine' x_setitem ?k1 ?_); (case k1 => rfl)) | ((with_reducible refine' r_bui ?k1 ?k2 ?k3 ?k4 ?k5 ?k6 ?k7 ?k8 ?_); (case k1 => assumption); (case k2 => assumption); (case k3 => assumption); (case k4 => kernel_rfl!); (case k5 => k_is); (case k6 => with_reducible exact bb_tuple); (case k7 => decide +kernel); (case k8 => kernel_rfl!)) | walk_at "m")
        refine r_litem (list_at pl3' fun o q => by walk_at "kd") (by decide) (x := .int 0 _) rfl rfl ?_
        repeat (first | ((with_reducible refine' x_assign3 ?k1 ?_); (case k1 => rfl)) | ((with_reducible refine' x_setattr ?k1 ?_); (case k1 => rfl)) | ((with_reducible refine' r_wsS ?k1 ?k2 ?_); (case k2 => assumption); (case k1 => assumption); intro _ _) | ((with_reducible refine' r_wsT ?k1 ?k2 ?_); (case k2 => assumption); (case k1 => assumption); intro _ _) | ((with_reducible refine' x_setitem ?k1 ?_); (case k1 => rfl)) | ((with_reducible refine' r_bui ?k1 ?k2 ?k3 ?k4 ?k5 ?k6 ?k7 ?k8 ?_); (case k1 => assumption); (case k2 => assumption); (case k3 => assumption); (case k4 => kernel_rfl!); (case k5 => k_is); (case k6 => with_reducible exact bb_tuple); (case k7 => decide +kernel); (case k8 => kernel_rfl!)) | walk_at "m")
        refine r_setitem (list_at pl3' fun o q => by walk_at "kd") (by decide) (by show (0 : Nat) < 1; decide) (by assumption) n3 D30 ?_
        intro h13 l13 S13 F13
        repeat (first | ((with_reducible refine' x_assign3 ?k1 ?_); (case k1 => rfl)) | ((with_reducible refine' x_setattr ?k1 ?_); (case k1 => rfl)) | ((with_reducible refine' r_wsS ?k1 ?k2 ?_); (case k2 => assumption); (case k1 => assumption); intro _ _) | ((with_reducible refine' r_wsT ?k1 ?k2 ?_); (case k2 => assumption); (case k1 => assumption); intro _ _) | ((with_reducible refine' x_setitem ?k1 ?_); (case k1 => rfl)) | ((with_reducible refine' r_bui ?k1 ?k2 ?k3 ?k4 ?k5 ?k6 ?k7 ?k8 ?_); (case k1 => assumption); (case k2 => assumption); (case k3 => assumption); (case k4 => kernel_rfl!); (case k5 => k_is); (case k6 => with_reducible exact bb_tuple); (case k7 => decide +kernel); (case k8 => kernel_rfl!)) | walk_at "m")
        have e1' : min (0 + 1) T = 0 + 1 := by omega
        have xD : x ≠ D3 := Ne.symm n3x
        have dD : dx ≠ D3 := Ne.symm n3d
        have ID : h8.objs.size ≠ D3 := Ne.symm n3I
        refine ⟨_, _, _, rfl, by assumption, ⟨by omega, ⟨_, by walk_at "lk"⟩, ⟨_, by walk_at "lk"⟩, by walk_at "lk", ob9.at (fun o q => by walk_at "kd") (fun o q => by walk_at "kd"), ⟨_, by rw [show ((0 + 1 : Nat) : Int) = ((0 : Nat) : Int) + 1 from rfl]; walk_at "lk"⟩,
          ⟨_, by rw [e1', show ((0 + 1 : Nat) : Int) = ((0 : Nat) : Int) + 1 from rfl]; walk_at "lk"⟩, ⟨_, by rw [e1', Nat.sub_self, show ((0 : Nat) : Int) = 0 from rfl]; walk_at "lk"⟩, D3, _, ?_, by walk_at "lk", list_at l13 (fun o q => by walk_at "kd"), ?_, n3, n3I, n3x, n3d, D30⟩, fun o q => by walk_at "kd"⟩
        rotate_left
        · rw [e1', if_pos (Nat.succ_pos 0)]; rfl
      · rw [if_pos hi] at hvs
        subst hvs
        repeat (first | ((with_reducible refine' x_assign3 ?k1 ?_); (case k1 => rfl)) | ((with_reducible refine' x_setattr ?k1 ?_); (case k1 => rfl)) | ((with_reducible refine' r_wsS ?k1 ?k2 ?_); (case k2 => assumption); (case k1 => assumption); intro _ _) | ((with_reducible refine' r_wsT ?k1 ?k2 ?_); (case k2 => assumption); (case k1 => assumption); intro _ _) | ((with_reducible refine' x_setitem ?k1 ?_); (case k1 => rfl)) | ((with_reducible refine' r_bui ?k1 ?k2 ?k3 ?k4 ?k5 ?k6 ?k7 ?k8 ?_); (case k1 => assumption); (case k2 => assumption); (case k3 => assumption); (case k4 => kernel_rfl!); (case k5 => k_is); (case k6 => with_reducible exact bb_tuple); (case k7 => decide +kernel); (case k8 => kernel_rfl!)) | walk_at "m")
        refine r_llen (list_at plD' fun o q => by walk_at "kd") (by simp) fun _ _ => ?_
        repeat (first | ((with_reducible refine' x_assign3 ?k1 ?_); (case k1 => rfl)) | ((with_reducible refine' x_setattr ?k1 ?_); (case k1 => rfl)) | ((with_reducible refine' r_wsS ?k1 ?k2 ?_); (case k2 => assumption); (case k1 => assumption); intro _ _) | ((with_reducible refine' r_wsT ?k1 ?k2 ?_); (case k2 => assumption); (case k1 => assumption); intro _ _) | ((with_reducible refine' x_setitem ?k1 ?_); (case k1 => rfl)) | ((with_reducible refine' r_bui ?k1 ?k2 ?k3 ?k4 ?k5 ?k6 ?k7 ?k8 ?_); (case k1 => assumption); (case k2 => assumption); (case k3 => assumption); (case k4 => kernel_rfl!); (case k5 => k_is); (case k6 => with_reducible exact bb_tuple); (case k7 => decide +kernel); (case k8 => kernel_rfl!)) | walk_at "m")
        refine r_ite (fun z => absurd z (by simp)) fun _ => ?_
        repeat (first | ((with_reducible refine' x_assign3 ?k1 ?_); (case k1 => rfl)) | ((with_reducible refine' x_setattr ?k1 ?_); (case k1 => rfl)) | ((with_reducible refine' r_wsS ?k1 ?k2 ?_); (case k2 => assumption); (case k1 => assumption); intro _ _) | ((with_reducible refine' r_wsT ?k1 ?k2 ?_); (case k2 => assumption); (case k1 => assumption); intro _ _) | ((with_reducible refine' x_setitem ?k1 ?_); (case k1 => rfl)) | ((with_reducible refine' r_bui ?k1 ?k2 ?k3 ?k4 ?k5 ?k6 ?k7 ?k8 ?_); (case k1 => assumption); (case k2 => assumption); (case k3 => assumption); (case k4 => kernel_rfl!); (case k5 => k_is); (case k6 => with_reducible exact bb_tuple); (case k7 => decide +kernel); (case k8 => kernel_rfl!)) | walk_at "m")
        refine r_litem (list_at plD' fun o q => by walk_at "kd") (by decide) (x := .int _ _) rfl rfl ?_
        repeat (first | ((with_reducible refine' x_assign3 ?k1 ?_); (case k1 => rfl)) | ((with_reducible refine' x_setattr ?k1 ?_); (case k1 => rfl)) | ((with_reducible refine' r_wsS ?k1 ?k2 ?_); (case k2 => assumption); (case k1 => assumption); intro _ _) | ((with_reducible refine' r_wsT ?k1 ?k2 ?_); (case k2 => assumption); (case k1 => assumption); intro _ _) | ((with_reducible refine' x_setitem ?k1 ?_); (case k1 => rfl)) | ((with_reducible refine' r_bui ?k1 ?k2 ?k3 ?k4 ?k5 ?k6 ?k7 ?k8 ?_); (case k1 => assumption); (case k2 => assumption); (case k3 => assumption); (case k4 => kernel_rfl!); (case k5 => k_is); (case k6 => with_reducible exact bb_tuple); (case k7 => decide +kernel); (case k8 => kernel_rfl!)) | walk_at "m")
        refine r_setitem (list_at plD' fun o q => by walk_at "kd") (by decide) (by show (0 : Nat) < 1; decide) (by assumption) a1 a5 ?_
        intro h13 l13 S13 F13
        repeat (first | ((with_reducible refine' x_assign3 ?k1 ?_); (case k1 => rfl)) | ((with_reducible refine' x_setattr ?k1 ?_); (case k1 => rfl)) | ((with_reducible refine' r_wsS ?k1 ?k2 ?_); (case k2 => assumption); (case k1 => assumption); intro _ _) | ((with_reducible refine' r_wsT ?k1 ?k2 ?_); (case k2 => assumption); (case k1 => assumption); intro _ _) | ((with_reducible refine' x_setitem ?k1 ?_); (case k1 => rfl)) | ((with_reducible refine' r_bui ?k1 ?k2 ?k3 ?k4 ?k5 ?k6 ?k7 ?k8 ?_); (case k1 => assumption); (case k2 => assumption); (case k3 => assumption); (case k4 => kernel_rfl!); (case k5 => k_is); (case k6 => with_reducible exact bb_tuple); (case k7 => decide +kernel); (case k8 => kernel_rfl!)) | walk_at "m")
        have e1' : min (i + 1) T = i + 1 := Nat.min_eq_left (by omega)
        have xD : x ≠ D' := Ne.symm a3
        have dD : dx ≠ D' := Ne.symm a4
        have ID : h8.objs.size ≠ D' := Ne.symm a2
        refine ⟨_, _, _, rfl, by assumption, ⟨by omega, ⟨_, by walk_at "lk"⟩, ⟨_, by walk_at "lk"⟩, by walk_at "lk", ob9.at (fun o q => by walk_at "kd") (fun o q => by walk_at "kd"), ⟨_, by rw [show ((i + 1 : Nat) : Int) = (i : Int) + 1 from rfl]; walk_at "lk"⟩,
          ⟨_, by rw [e1', show ((i + 1 : Nat) : Int) = (i : Int) + 1 from rfl]; walk_at "lk"⟩, ⟨_, by rw [e1', Nat.sub_self, show ((0 : Nat) : Int) = 0 from rfl]; walk_at "lk"⟩, D', _, ?_, by walk_at "lk", list_at l13 (fun o q => by walk_at "kd"), ?_, a1, a2, a3, a4, a5⟩, fun o q => by walk_at "kd"⟩
        rotate_left
        · rw [e1', if_pos (Nat.succ_pos i)]; rfl
    · repeat (first | ((with_reducible refine' x_assign3 ?k1 ?_); (case k1 => rfl)) | ((with_reducible refine' x_setattr ?k1 ?_); (case k1 => rfl)) | ((with_reducible refine' r_wsS ?k1 ?k2 ?_); (case k2 => assumption); (case k1 => assumption); intro _ _) | ((with_reducible refine' r_wsT ?k1 ?k2 ?_); (case k2 => assumption); (case k1 => assumption); intro _ _) | ((with_reducible refine' x_setitem ?k1 ?_); (case k1 => rfl)) | ((with_reducible refine' r_bui ?k1 ?k2 ?k3 ?k4 ?k5 ?k6 ?k7 ?k8 ?_); (case k1 => assumption); (case k2 => assumption); (case k3 => assumption); (case k4 => kernel_rfl!); (case k5 => k_is); (case k6 => with_reducible exact bb_tuple); (case k7 => decide +kernel); (case k8 => kernel_rfl!)) | walk_at "m")
      refine r_ite (fun _ => ?_) fun z => absurd rfl z
      repeat (first | ((with_reducible refine' x_assign3 ?k1 ?_); (case k1 => rfl)) | ((with_reducible refine' x_setattr ?k1 ?_); (case k1 => rfl)) | ((with_reducible refine' r_wsS ?k1 ?k2 ?_); (case k2 => assumption); (case k1 => assumption); intro _ _) | ((with_reducible refine' r_wsT ?k1 ?k2 ?_); (case k2 => assumption); (case k1 => assumption); intro _ _) | ((with_reducible refine' x_setitem ?k1 ?_); (case k1 => rfl)) | ((with_reducible refine' r_bui ?k1 ?k2 ?k3 ?k4 ?k5 ?k6 ?k7 ?k8 ?_); (case k1 => assumption); (case k2 => assumption); (case k3 => assumption); (case k4 => kernel_rfl!); (case k5 => k_is); (case k6 => with_reducible exact bb_tuple); (case k7 => decide +kernel); (case k8 => kernel_rfl!)) | walk_at "m")
      have e1 : min (i + 1) T = min i T := by rw [Nat.min_eq_right (by omega), Nat.min_eq_right (by omega)]
      have e2 : ((i + 1 - min (i + 1) T : Nat) : Int) = ((i - min i T : Nat) : Int) + 1 := by rw [e1, Nat.sub_add_comm (Nat.min_le_left i T)]; rfl
      exact ⟨_, _, _, rfl, by assumption, ⟨c2, ⟨_, by walk_at "lk"⟩, ⟨_, by walk_at "lk"⟩, by walk_at "lk", ob9.at (fun o q => by walk_at "kd") (fun o q => by walk_at "kd"), ⟨_, by rw [show ((i + 1 : Nat) : Int) = (i : Int) + 1 from rfl]; walk_at "lk"⟩,
        ⟨t5, by rw [e1]; walk_at "lk"⟩, ⟨_, by rw [e2]; walk_at "lk"⟩, D', vs, tv, by walk_at "lk", list_at plD' (fun o q => by walk_at "kd"), by rw [e1]; exact hvs, a1, a2, a3, a4, a5⟩, fun o q => by walk_at "kd"⟩
    · obtain ⟨c, hc, n9, n32⟩ := hw
      rw [hc] at c2
      cases c2
      repeat (first | ((with_reducible refine' x_assign3 ?k1 ?_); (case k1 => rfl)) | ((with_reducible refine' x_setattr ?k1 ?_); (case k1 => rfl)) | ((with_reducible refine' r_wsS ?k1 ?k2 ?_); (case k2 => assumption); (case k1 => assumption); intro _ _) | ((with_reducible refine' r_wsT ?k1 ?k2 ?_); (case k2 => assumption); (case k1 => assumption); intro _ _) | ((with_reducible refine' x_setitem ?k1 ?_); (case k1 => rfl)) | ((with_reducible refine' r_bui ?k1 ?k2 ?k3 ?k4 ?k5 ?k6 ?k7 ?k8 ?_); (case k1 => assumption); (case k2 => assumption); (case k3 => assumption); (case k4 => kernel_rfl!); (case k5 => k_is); (case k6 => with_reducible exact bb_tuple); (case k7 => decide +kernel); (case k8 => kernel_rfl!)) | walk_at "m")
      refine r_ite (fun z => absurd (by simpa using z) n32) fun _ => ?_
      refine x_if ?_
      repeat (first | ((with_reducible refine' x_assign3 ?k1 ?_); (case k1 => rfl)) | ((with_reducible refine' x_setattr ?k1 ?_); (case k1 => rfl)) | ((with_reducible refine' r_wsS ?k1 ?k2 ?_); (case k2 => assumption); (case k1 => assumption); intro _ _) | ((with_reducible refine' r_wsT ?k1 ?k2 ?_); (case k2 => assumption); (case k1 => assumption); intro _ _) | ((with_reducible refine' x_setitem ?k1 ?_); (case k1 => rfl)) | ((with_reducible refine' r_bui ?k1 ?k2 ?k3 ?k4 ?k5 ?k6 ?k7 ?k8 ?_); (case k1 => assumption); (case k2 => assumption); (case k3 => assumption); (case k4 => kernel_rfl!); (case k5 => k_is); (case k6 => with_reducible exact bb_tuple); (case k7 => decide +kernel); (case k8 => kernel_rfl!)) | walk_at "m")
      refine r_ite (fun z => absurd (by simpa using z) n9) fun _ => ?_
      refine wpAny_execs_cons (wpAny_Break ?_)
      show wpAny _ _ (execs _ env) _ _ _
      subst c1
      have e1 : min (T + B) T = T := by omega
      rw [e1] at j5 j6 hvs
      rw [show T + B - T = B by omega] at j6
      obtain ⟨oD, e1D, e2D, nD, e3D⟩ := plD'
      have apD : ∀ p ∈ [(D', oD)], h9.get? p.1 = some p.2 ∧ p.1 ≠ dx ∧ p.1 ≠ L ∧ h.get? p.1 = none := fun p hp => by
        rw [List.mem_singleton.mp hp]; exact ⟨e1D, a4, a1, a5⟩
      have hvl : vs.length ≤ 1 := by rw [hvs]; split <;> simp
      have lstD : ∀ {hX : Heap}, hX.get? D' = some oD → hX.IsList D' vs.toArray := fun q => ⟨oD, q, e2D, nD, e3D⟩
      repeat (first | ((with_reducible refine' x_assign3 ?k1 ?_); (case k1 => rfl)) | ((with_reducible refine' x_setattr ?k1 ?_); (case k1 => rfl)) | ((with_reducible refine' r_wsS ?k1 ?k2 ?_); (case k2 => assumption); (case k1 => assumption); intro _ _) | ((with_reducible refine' r_wsT ?k1 ?k2 ?_); (case k2 => assumption); (case k1 => assumption); intro _ _) | ((with_reducible refine' x_setitem ?k1 ?_); (case k1 => rfl)) | ((with_reducible refine' r_bui ?k1 ?k2 ?k3 ?k4 ?k5 ?k6 ?k7 ?k8 ?_); (case k1 => assumption); (case k2 => assumption); (case k3 => assumption); (case k4 => kernel_rfl!); (case k5 => k_is); (case k6 => with_reducible exact bb_tuple); (case k7 => decide +kernel); (case k8 => kernel_rfl!)) | walk_at "m")
      refine r_setattr [(D', oD)] g F9 ob9 (by kernel_rfl) (by decide) apart apD fun hA tkA FA obA kA => ?_
      have dA := kA _ (.head _)
      repeat (first | ((with_reducible refine' x_assign3 ?k1 ?_); (case k1 => rfl)) | ((with_reducible refine' x_setattr ?k1 ?_); (case k1 => rfl)) | ((with_reducible refine' r_wsS ?k1 ?k2 ?_); (case k2 => assumption); (case k1 => assumption); intro _ _) | ((with_reducible refine' r_wsT ?k1 ?k2 ?_); (case k2 => assumption); (case k1 => assumption); intro _ _) | ((with_reducible refine' x_setitem ?k1 ?_); (case k1 => rfl)) | ((with_reducible refine' r_bui ?k1 ?k2 ?k3 ?k4 ?k5 ?k6 ?k7 ?k8 ?_); (case k1 => assumption); (case k2 => assumption); (case k3 => assumption); (case k4 => kernel_rfl!); (case k5 => k_is); (case k6 => with_reducible exact bb_tuple); (case k7 => decide +kernel); (case k8 => kernel_rfl!)) | walk_at "m")
      refine r_setattr [(D', oD)] g FA obA (by kernel_rfl) (by decide) apart (fun p hp => by rw [List.mem_singleton.mp hp]; exact ⟨dA, a4, a1, a5⟩) fun hB' tkB FB obB kB => ?_
      have dB := kB _ (.head _)
      repeat (first | ((with_reducible refine' x_assign3 ?k1 ?_); (case k1 => rfl)) | ((with_reducible refine' x_setattr ?k1 ?_); (case k1 => rfl)) | ((with_reducible refine' r_wsS ?k1 ?k2 ?_); (case k2 => assumption); (case k1 => assumption); intro _ _) | ((with_reducible refine' r_wsT ?k1 ?k2 ?_); (case k2 => assumption); (case k1 => assumption); intro _ _) | ((with_reducible refine' x_setitem ?k1 ?_); (case k1 => rfl)) | ((with_reducible refine' r_bui ?k1 ?k2 ?k3 ?k4 ?k5 ?k6 ?k7 ?k8 ?_); (case k1 => assumption); (case k2 => assumption); (case k3 => assumption); (case k4 => kernel_rfl!); (case k5 => k_is); (case k6 => with_reducible exact bb_tuple); (case k7 => decide +kernel); (case k8 => kernel_rfl!)) | walk_at "m")
      refine r_ltuple (lstD dB) (by omega) fun u1 hC XC tu1 nu1 => ?_
      have FC := FB.keeps XC
      have obC := obB.at (XC _) (XC _)
      repeat (first | ((with_reducible refine' x_assign3 ?k1 ?_); (case k1 => rfl)) | ((with_reducible refine' x_setattr ?k1 ?_); (case k1 => rfl)) | ((with_reducible refine' r_wsS ?k1 ?k2 ?_); (case k2 => assumption); (case k1 => assumption); intro _ _) | ((with_reducible refine' r_wsT ?k1 ?k2 ?_); (case k2 => assumption); (case k1 => assumption); intro _ _) | ((with_reducible refine' x_setitem ?k1 ?_); (case k1 => rfl)) | ((with_reducible refine' r_bui ?k1 ?k2 ?k3 ?k4 ?k5 ?k6 ?k7 ?k8 ?_); (case k1 => assumption); (case k2 => assumption); (case k3 => assumption); (case k4 => kernel_rfl!); (case k5 => k_is); (case k6 => with_reducible exact bb_tuple); (case k7 => decide +kernel); (case k8 => kernel_rfl!)) | walk_at "m")
      rename_i u2 hE XE tu2 su2 FE
      have obE := obC.at (XE _) (XE _)
      have ap1 := new_apart nu1 FB obB
      have ap2 := new_apart (fresh_none su2) FC obC
      obtain ⟨o1, b11, b12, n1, b13⟩ := tu1
      obtain ⟨o2, b21, b22, n2, b23⟩ := tu2
      refine r_setattr [(D', oD), (u1, o1), (u2, o2)] g FE obE (by kernel_rfl) (by decide) apart (fun p hp => ?_) fun hG tkG FG obG kG => ?_
      · rcases List.mem_cons.mp hp with rfl | hp
        · exact ⟨XE _ _ (XC _ _ dB), a4, a1, a5⟩
        · rcases List.mem_cons.mp hp with rfl | hp
          · exact ⟨XE _ _ b11, ap1⟩
          · rw [List.mem_singleton.mp hp]; exact ⟨b21, ap2⟩
      have dG := kG _ (.head _)
      have g1 := kG _ (.tail _ (.head _))
      have g2 := kG _ (.tail _ (.tail _ (.head _)))
      repeat (first | ((with_reducible refine' x_assign3 ?k1 ?_); (case k1 => rfl)) | ((with_reducible refine' x_setattr ?k1 ?_); (case k1 => rfl)) | ((with_reducible refine' r_wsS ?k1 ?k2 ?_); (case k2 => assumption); (case k1 => assumption); intro _ _) | ((with_reducible refine' r_wsT ?k1 ?k2 ?_); (case k2 => assumption); (case k1 => assumption); intro _ _) | ((with_reducible refine' x_setitem ?k1 ?_); (case k1 => rfl)) | ((with_reducible refine' r_bui ?k1 ?k2 ?k3 ?k4 ?k5 ?k6 ?k7 ?k8 ?_); (case k1 => assumption); (case k2 => assumption); (case k3 => assumption); (case k4 => kernel_rfl!); (case k5 => k_is); (case k6 => with_reducible exact bb_tuple); (case k7 => decide +kernel); (case k8 => kernel_rfl!)) | walk_at "m")
      refine r_llen (lstD dG) (by omega) fun _ _ => ?_
      repeat (first | ((with_reducible refine' x_assign3 ?k1 ?_); (case k1 => rfl)) | ((with_reducible refine' x_setattr ?k1 ?_); (case k1 => rfl)) | ((with_reducible refine' r_wsS ?k1 ?k2 ?_); (case k2 => assumption); (case k1 => assumption); intro _ _) | ((with_reducible refine' r_wsT ?k1 ?k2 ?_); (case k2 => assumption); (case k1 => assumption); intro _ _) | ((with_reducible refine' x_setitem ?k1 ?_); (case k1 => rfl)) | ((with_reducible refine' r_bui ?k1 ?k2 ?k3 ?k4 ?k5 ?k6 ?k7 ?k8 ?_); (case k1 => assumption); (case k2 => assumption); (case k3 => assumption); (case k4 => kernel_rfl!); (case k5 => k_is); (case k6 => with_reducible exact bb_tuple); (case k7 => decide +kernel); (case k8 => kernel_rfl!)) | walk_at "m")
      refine r_setattr [(u1, o1), (u2, o2)] g FG obG (by kernel_rfl) (by decide) apart (fun p hp => ?_) fun hH tkH FH obH kH => ?_
      · rcases List.mem_cons.mp hp with rfl | hp
        · exact ⟨g1, ap1⟩
        · rw [List.mem_singleton.mp hp]; exact ⟨g2, ap2⟩
      have q1 := kH _ (.head _)
      have q2 := kH _ (.tail _ (.head _))
      repeat (first | ((with_reducible refine' x_assign3 ?k1 ?_); (case k1 => rfl)) | ((with_reducible refine' x_setattr ?k1 ?_); (case k1 => rfl)) | ((with_reducible refine' r_wsS ?k1 ?k2 ?_); (case k2 => assumption); (case k1 => assumption); intro _ _) | ((with_reducible refine' r_wsT ?k1 ?k2 ?_); (case k2 => assumption); (case k1 => assumption); intro _ _) | ((with_reducible refine' x_setitem ?k1 ?_); (case k1 => rfl)) | ((with_reducible refine' r_bui ?k1 ?k2 ?k3 ?k4 ?k5 ?k6 ?k7 ?k8 ?_); (case k1 => assumption); (case k2 => assumption); (case k3 => assumption); (case k4 => kernel_rfl!); (case k5 => k_is); (case k6 => with_reducible exact bb_tuple); (case k7 => decide +kernel); (case k8 => kernel_rfl!)) | walk_at "m")
      have fno : ∀ nm : Str, decide (nm = Str.ofString "raw") = false → f1 nm = none := fun nm hnm => by rw [← hf]; exact upd_ne hnm rfl
      have y1 := fno (Str.ofString "longest_run_of_spaces") (by decide +kernel)
      have y2 := fno (Str.ofString "indent_level") (by decide +kernel)
      have y3 := fno (Str.ofString "equal") (by decide +kernel)
      have y4 := fno (Str.ofString "less") (by decide +kernel)
      have y5 := fno (Str.ofString "not_less_witness") (by decide +kernel)
      have y6 := fno (Str.ofString "not_equal_witness") (by decide +kernel)
      refine ⟨rfl, hQ x dx _ hH _ FH.keep (by rw [ex]; exact Nat.le_succ _) (by rw [edx]; exact Nat.le_refl _) obH ⟨⟨t4, by rw [show (T : Int) + B = ((T + B : Nat) : Int) from rfl]; walk_at "lk"⟩, ⟨t5, by walk_at "lk"⟩, ⟨.ref u2, by walk_at "lk", ?_⟩, ?_, by walk_at "lk", by walk_at "lk", by walk_at "lk", by walk_at "lk", by walk_at "lk", by walk_at "lk"⟩⟩
      · refine .tup (vs := [.ref u1, .int B t6]) q2 b22 b23 (.cons (.tup q1 b12 b13 ?_) (.cons (.int _ _) .nil))
        rw [hvs]
        split
        · exact .cons (.int _ _) .nil
        · exact .nil
      · have hs : decide ((vs.length : Int) ≤ 1) = true := decide_eq_true (by omega)
        rw [hs]
        exact upd_eq
  · intro h9 m9 tk9 F9 J
    exfalso
    have := J.le
    obtain ⟨c, hc, _⟩ := hw
    have hwl : 0 < wd.length := by cases wd with | nil => simp at hc | cons _ _ => simp
    simp only [List.length_append, List.length_replicate] at this
    omega
end
end

section
/-- a Whitespace made of T tabs and B blanks -/
def Ws (T B : Nat) (lo : Nat) (h : Heap) (v : Value) : Prop := ∃ x dx f, v = .ref x ∧ lo ≤ x ∧ lo ≤ dx ∧ Ob 5 h x dx f ∧ WsF h f T B
theorem normD_noL (T B : Nat) : noL (normD T B) = true := by unfold normD; split <;> rfl
theorem Ws.mild {T B lo : Nat} {h h' : Heap} {v : Value} (x : Ws T B lo h v) (mi : Mild lo h h') : Ws T B lo h' v := by
  obtain ⟨x, dx, f, rfl, h1, h2, o, f1⟩ := x
  obtain ⟨vn, y1, y2⟩ := f1.fnorm
  refine ⟨x, dx, f, rfl, h1, h2, o.at (fun o q => mi _ o q (.inl h1)) (fun o q => mi _ o q (.inl h2)), ⟨f1.fn, f1.fnt, ⟨vn, y1, y2.tq mi.tq (normD_noL T B)⟩, f1.fsim, f1.m1, f1.m2, f1.m3, f1.m4, f1.m5, f1.m6⟩⟩
theorem Ws.ext {T B lo : Nat} {h h' : Heap} {v : Value} (x : Ws T B lo h v) (k : Ext h h') : Ws T B lo h' v := x.mild k.mild
theorem norm_inv {h : Heap} {T B : Nat} {v : Value} (x : Is h v (normD T B)) : ∃ a a1 vs t, v = .ref a ∧ IsTup h a [Value.ref a1, .int B t].toArray ∧ IsTup h a1 (vs : List Value).toArray ∧ vs.length = if 0 < T then 1 else 0 := by
  obtain ⟨a, us, rfl, ht, hi⟩ := x.tup_inv
  cases hi with
  | cons x0 hi => cases hi with
    | cons x1 hi =>
      cases hi
      cases x1
      obtain ⟨a1, vs, rfl, ht1, hi1⟩ := x0.tup_inv
      refine ⟨a, a1, vs, _, rfl, ht, ht1, ?_⟩
      rw [hi1.length]
      split <;> rfl
section
variable {prog : Program} {w : World} {mg mb : Str → Option Value} {A : Around} {E : Value → Shared → Prop} {gs : Array GenState} {dr : Drawn} {tk : Nat} {os : OsState} {h₀ h : Heap} {L : Addr} {m : Str → Option Value} {env : Env} {ks : List (Str × NameKind)} {cl : List (Str × Addr)}

/-- a field of an object that stood at the frame's start -/
theorem r_ga {k : Nat} {x dx : Addr} {f : Str → Option Value} {name : Str} {v : Value} {expr : Bool} {Q : Value → Shared → Prop} (F : Fr h₀ L h m) (g : G w mg mb h₀) (o : Ob k h₀ x dx f) (hv : f name = some v) (hn : findIn (Mine.hd.heap_39 w.params) (.ref 131) name = some none) (hh : handedIn v = true)
    (hQ : ∀ tk', Q v ⟨h, gs, dr, tk', os⟩) : wpAny (model prog w) A (getAttr (.ref x) name expr) Q E ⟨h, gs, dr, tk, os⟩ := r_getattr (g.keeps F.keep) (o.at (F.keep _) (F.keep _)) hn hv hh hQ
theorem r_gm {k : Nat} {x dx : Addr} {f : Str → Option Value} {name : Str} {fn : Addr} {pl : Sem Bool} {Q : Value × List Value → Shared → Prop} (F : Fr h₀ L h m) (g : G w mg mb h₀) (o : Ob k h₀ x dx f) (hv : f name = none) (hn : findIn (Mine.hd.heap_39 w.params) (.ref 131) name = some (some (.ref fn))) (ht : typeIn (Mine.hd.heap_39 w.params) (.ref fn) = some (.type "function"))
    (hQ : Q (.ref fn, [.ref x]) ⟨h, gs, dr, tk, os⟩) : wpAny (model prog w) A (getMethod (.ref x) name pl) Q E ⟨h, gs, dr, tk, os⟩ := r_getmeth (g.keeps F.keep) (o.at (F.keep _) (F.keep _)) hn ht hv hQ
theorem c_m0 {pos : Pos} {f : Addr} {oc : Value} {od : Option Addr} {osl : Array (Option Value)} {fd : FuncData} {v : Value} {Q : Value → Shared → Prop} (F : Fr h₀ L h m) (g : G w mg mb h₀) (hl : (Mine.hd.heap_39 w.params).lookup f = some ⟨oc, od, .func fd, osl⟩)
    (hQ : wpAny (model prog w) A (call (.ref f) [v]) Q E ⟨h, gs, dr, tk, os⟩) : wpAny (model prog w) A (callWith pos (.ref f) [v] (backTo pos (starEach [] env)) []) Q E ⟨h, gs, dr, tk, os⟩ :=
  Calls.callWith_function (o := ⟨oc, od, .func fd, osl⟩) (fd := fd) (PyProof.Rows.evalArgs_none ⟨⟨F.keep _ _ (g.X _ _ hl), rfl⟩, hQ⟩)
theorem c_m1 {pos : Pos} {f : Addr} {oc : Value} {od : Option Addr} {osl : Array (Option Value)} {fd : FuncData} {v : Value} {e₁ : Expr} {Q : Value → Shared → Prop} (_F : Fr h₀ L h m) (g : G w mg mb h₀) (hl : (Mine.hd.heap_39 w.params).lookup f = some ⟨oc, od, .func fd, osl⟩) (hs : starEach [e₁] env = [(false, eval e₁ env)])
    (hQ : wpAny (model prog w) A (eval e₁ env) (fun v₁ s₁ => FnGo h₀ L s₁ (wpAny (model prog w) A (call (.ref f) [v, v₁]) Q E s₁)) E ⟨h, gs, dr, tk, os⟩) : wpAny (model prog w) A (callWith pos (.ref f) [v] (backTo pos (starEach [e₁] env)) []) Q E ⟨h, gs, dr, tk, os⟩ := by
  rw [hs]
  refine Calls.callWith_function (o := ⟨oc, od, .func fd, osl⟩) (fd := fd) (Calls.evalArgs_plain (Calls.spliced_cons (wpAny_mono hQ (fun _ _ h₁ => Calls.spliced_nil ?_) fun _ _ e => e)))
  obtain ⟨⟨m, F⟩, hX⟩ := h₁
  exact ⟨⟨F.keep _ _ (g.X _ _ hl), rfl⟩, hX⟩
theorem x_unpack2 {x y : Str} {p p1 p2 p3 : Pos} {k : Nat} {val : Expr} {rest : List Stmt} {Q : Flow → Shared → Prop} (e : EnvIs env L ks cl) (r : Room 0 A) (hx : ks.lookup x = some .local) (hy : ks.lookup y = some .local)
    (hs : swapsWithSole [.Tuple [.Name x p1, .Name y p2] k p3] val p.line env = pure false) (hw : swappedStores [.Tuple [.Name x p1, .Name y p2] k p3] val env = pure none)
    (hQ : wpAny (model prog w) A (eval val env) (fun v s₁ => ∃ a b t h₁ tk₁ m, v = .ref t ∧ s₁ = ⟨h₁, gs, dr, tk₁, os⟩ ∧ IsTup h₁ t [a, b].toArray ∧ Fr h₀ L h₁ m ∧
      ∀ h₂ tk₂, Fr h₀ L h₂ (upd (upd m x a) y b) → Off [L] h₁ h₂ → wpAny (model prog w) A (execs rest env) Q E ⟨h₂, gs, dr, tk₂, os⟩) E ⟨h, gs, dr, tk, os⟩) :
    wpAny (model prog w) A (execs (.Assign [.Tuple [.Name x p1, .Name y p2] k p3] val p :: rest) env) Q E ⟨h, gs, dr, tk, os⟩ := by
  have hxx : env.kindOf x = some .local := by show env.scope.names.lookup x = _; rw [e.names]; exact hx
  have hyy : env.kindOf y = some .local := by show env.scope.names.lookup y = _; rw [e.names]; exact hy
  refine wpAny_execs_cons (Assign_Tuple ?_ hs hw)
  refine wpAny_mono hQ (fun v s₁ h₁ => ?_) fun _ _ e => e
  obtain ⟨a, b, t, h₁, tk₁, m, rfl, rfl, ht, F, hk⟩ := h₁
  refine assign_Tuple_tuple r.hd ht rfl rfl fun h' he => ?_
  have F' : Fr h₀ L h' m := F.extBut he (Nat.le_refl _)
  have O' : Off [L] h₁ h' := fun b o _ q => he b o (Nat.ne_of_lt (Heap.lt_size q)) q
  refine assignInOrder_cons (wpAny_assign_Name (wpAny_storeName_local hxx (m := m) (by rw [e.loc]; exact F'.ns) (fun h₂ hn hs => ?_) (by rw [e.kind]; rfl)))
  rw [e.loc] at hn hs
  refine assignInOrder_cons (wpAny_assign_Name (wpAny_storeName_local hyy (by rw [e.loc]; exact hn) (fun h₃ hn₃ hs₃ => ?_) (by rw [e.kind]; rfl)))
  rw [e.loc] at hn₃ hs₃
  exact assignInOrder_nil (hk h₃ _ ((F'.set hn hs).set hn₃ hs₃) ((O'.same hs (.head _)).same hs₃ (.head _)))
theorem r_tlen {l : Addr} {vs : List Value} {Q : Value → Shared → Prop} (F : Fr h₀ L h m) (hl : IsTup h₀ l vs.toArray) (hsz : vs.length ≤ 10000) (hQ : ∀ t tk', Q (.int vs.length t) ⟨h, gs, dr, tk', os⟩) : wpAny (model prog w) A (call (.builtin "len") [.ref l]) Q E ⟨h, gs, dr, tk, os⟩ :=
  PyProof.Rows.len_tuple (hl.keeps F.keep) (by rw [List.size_toArray]; omega) (by rw [List.size_toArray]; exact hQ _ _)
theorem Room.data {n : Nat} (r : Room n A) : A.units + 64 < cLine := by have := r.un; omega
theorem r_eqd {a b : Value} {da db : PyData} {Q : Value → Shared → Prop} (r : Room 0 A) (ha : Is h a da) (hb : Is h b db) (sa : SeqAt.shaped da = true) (sb : SeqAt.shaped db = true) (hQ : Q (.bool (PyData.eqv da db)) ⟨h, gs, dr, tk, os⟩) :
    wpAny (model prog w) A (compareOp .Eq a b) Q E ⟨h, gs, dr, tk, os⟩ := by
  obtain ⟨as, ra⟩ := ha.reads
  obtain ⟨bs, rb⟩ := hb.reads
  exact eq_dataH ra rb sa sb r.data hQ
theorem r_ned {a b : Value} {da db : PyData} {Q : Value → Shared → Prop} (r : Room 0 A) (ha : Is h a da) (hb : Is h b db) (sa : SeqAt.shaped da = true) (sb : SeqAt.shaped db = true) (hQ : Q (.bool (!PyData.eqv da db)) ⟨h, gs, dr, tk, os⟩) :
    wpAny (model prog w) A (compareOp .NotEq a b) Q E ⟨h, gs, dr, tk, os⟩ := by
  obtain ⟨as, ra⟩ := ha.reads
  obtain ⟨bs, rb⟩ := hb.reads
  exact ne_dataH ra rb sa sb r.data hQ
end
end

local macro_rules | `(tactic| walk_at "m") => `(tactic| first
  | ((with_reducible refine' r_ga ?k1 ?k2 ?k3 ?k4 ?k5 ?k6 ?_); (case k1 => assumption); (case k2 => assumption); (case k3 => assumption); (case k4 => assumption); (case k5 => kernel_rfl!); (case k6 => rfl); intro _)
  | ((with_reducible show wpAny _ _ (eval (Expr.Call (Expr.Attribute _ _ _) _ [] _) _) _ _ _); refine MethodCall_ ?_)
  | ((with_reducible refine' r_gm ?k1 ?k2 ?k3 ?k4 ?k5 ?k6 ?_); (case k1 => assumption); (case k2 => assumption); (case k3 => assumption); (case k4 => assumption); (case k5 => k_is); (case k6 => kernel_rfl!))
  | ((with_reducible refine' c_m0 ?k0 ?k1 ?k2 ?_); (case k0 => assumption); (case k1 => assumption); (case k2 => k_is))
  | ((with_reducible refine' c_m1 ?k0 ?k1 ?k2 ?k3 ?_); (case k0 => assumption); (case k1 => assumption); (case k2 => k_is); (case k3 => rfl))
  | ((with_reducible refine' r_tlen ?k1 ?k2 ?k3 ?_); (case k1 => assumption); (case k2 => assumption); (case k3 => omega); intro _ _)
  | fail "m")
section
section
variable {prog : Program} {w : World} {mg mb : Str → Option Value} {A : Around} {E : Value → Shared → Prop} {gs : Array GenState} {dr : Drawn} {tk : Nat} {os : OsState} {h : Heap}
theorem f_run {T B lo : Nat} {v : Value} {Q : Value → Shared → Prop} (g : G w mg mb h) (r : Room 2 A) (hv : Ws T B lo h v) (hT : T ≤ 4) (hB : B ≤ 4)
    (hQ : ∀ t' h' tk', Ext h h' → Q (.int B t') ⟨h', gs, dr, tk', os⟩) : wpAny (model prog w) A (call (.ref 93) [v]) Q E ⟨h, gs, dr, tk, os⟩ := by
  obtain ⟨x, dx, f, rfl, _, _, ob, wf⟩ := hv
  obtain ⟨vn, f1, f2⟩ := wf.fnorm
  obtain ⟨a, a1, vs, t, rfl, ht, ht1, hvs⟩ := norm_inv f2
  refine enter (P := fun v _ => ∃ t', v = .int B t') (binds := [(Str.ofString "self", .ref x)]) g r
    (by show (Mine.hd.heap_39 w.params).lookup 93 = _; k_is) (by kernel_rfl) rfl rfl rfl rfl (by rfl) (by rfl) (by rfl) rfl rfl rfl ?_ ?_
  · intro A' env L h₁ tk₁ r' e F g₁ x₁
    dsimp only at e
    generalize hm : (fun y => List.lookup y ([(Str.ofString "self", Value.ref x)].reverse)) = m at F
    have m1 : m (Str.ofString "self") = some (.ref x) := by rw [← hm]; rfl
    clear hm
    have r0 := r'.less (Nat.zero_le _)
    have hvl : vs.length ≤ 1 := by rw [hvs]; split <;> decide
    refine x_unpack2 (h₀ := h) e r0 (by kernel_rfl!) (by kernel_rfl!) (by rfl) (by rfl) ?_
    repeat (first | (with_reducible refine isTrue_and_nil ?_) | (with_reducible refine isTrue_and ?_) | (with_reducible refine r_bool ?_) | walk_at "m")
    refine ⟨_, _, _, _, _, _, rfl, rfl, ht.keeps F.keep, F, fun h₂ tk₂ F₂ _ => ?_⟩
    repeat (first | (with_reducible refine isTrue_and_nil ?_) | (with_reducible refine isTrue_and ?_) | (with_reducible refine r_bool ?_) | walk_at "m")
    exact ⟨_, _, rfl, Fr.keep (by assumption), _, by show Value.int _ _ = _; rw [show max ((vs.length : Int) - 1) B = B by omega]⟩
  · rintro v h' tk' k ⟨t', rfl⟩
    exact hQ t' h' tk' k

theorem f_level {T B lo : Nat} {v : Value} {s : Int} {ts : Tok} {Q : Value → Shared → Prop} (g : G w mg mb h) (r : Room 2 A) (hv : Ws T B lo h v) (hT : T ≤ 4) (hB : B ≤ 4) (hs : 1 ≤ s ∧ s ≤ 100)
    (hQ : ∀ t' h' tk', Ext h h' → Q (.int (s * T + B) t') ⟨h', gs, dr, tk', os⟩) : wpAny (model prog w) A (call (.ref 100) [v, .int s ts]) Q E ⟨h, gs, dr, tk, os⟩ := by
  obtain ⟨x, dx, f, rfl, _, _, ob, wf⟩ := hv
  obtain ⟨vn, f1, f2⟩ := wf.fnorm
  obtain ⟨tn, f3⟩ := wf.fnt
  obtain ⟨a, a1, vs, t, rfl, ht, ht1, hvs⟩ := norm_inv f2
  refine enter (P := fun v _ => ∃ t', v = .int (s * T + B) t') (binds := [(Str.ofString "self", .ref x), (Str.ofString "tabsize", .int s ts)]) g r
    (by show (Mine.hd.heap_39 w.params).lookup 100 = _; k_is) (by kernel_rfl) rfl rfl rfl rfl (by rfl) (by rfl) (by rfl) rfl rfl rfl ?_ ?_
  · intro A' env L h₁ tk₁ r' e F g₁ x₁
    dsimp only at e
    generalize hm : (fun y => List.lookup y ([(Str.ofString "self", Value.ref x), (Str.ofString "tabsize", .int s ts)].reverse)) = m at F
    have m1 : m (Str.ofString "self") = some (.ref x) := by rw [← hm]; rfl
    have m2 : m (Str.ofString "tabsize") = some (.int s ts) := by rw [← hm]; rfl
    clear hm
    have r0 := r'.less (Nat.zero_le _)
    have hvl : vs.length ≤ 1 := by rw [hvs]; split <;> decide
    refine x_unpack2 (h₀ := h) e r0 (by kernel_rfl!) (by kernel_rfl!) (by rfl) (by rfl) ?_
    repeat (first | (with_reducible refine isTrue_and_nil ?_) | (with_reducible refine isTrue_and ?_) | (with_reducible refine r_bool ?_) | walk_at "m")
    refine ⟨_, _, _, _, _, _, rfl, rfl, ht.keeps F.keep, F, fun h₂ tk₂ F₂ _ => ?_⟩
    repeat (first | (with_reducible refine isTrue_and_nil ?_) | (with_reducible refine isTrue_and ?_) | (with_reducible refine r_bool ?_) | walk_at "m")
    refine x_for (fun _ => rfl) ?_
    repeat (first | (with_reducible refine isTrue_and_nil ?_) | (with_reducible refine isTrue_and ?_) | (with_reducible refine r_bool ?_) | walk_at "m")
    rename_i rg h3 _ _ _ _ X3 hrg F3
    refine for_range (X := [L]) (fun i _ m => m (Str.ofString "self") = some (.ref x) ∧ m (Str.ofString "tabsize") = some (.int s ts) ∧ m (Str.ofString "trailing") = some (.int B t) ∧ ∃ tz, m (Str.ofString "il") = some (.int 0 tz)) 0 (by omega) hrg (by omega) r0 e (by kernel_rfl!) (.head _) ?_ F3 ?_ ?_ ?_ ?_
    · intro z hz
      rw [List.mem_singleton.mp hz]; exact F3.ns.lt
    · intro h' _
      exact ⟨by walk_at "lk", by walk_at "lk", by walk_at "lk", _, by walk_at "lk"⟩
    · intro I i h₁ h₂ m₁ _ J _
      exact J
    · intro i t h₁ m₁ tk₁ hi
      exact absurd hi (Nat.not_lt_zero _)
    · rintro h4 m4 tk4 F4 ⟨j1, j2, j3, tz, j4⟩ _
      show wpAny _ _ _ _ _ _
      repeat (first | (with_reducible refine isTrue_and_nil ?_) | (with_reducible refine isTrue_and ?_) | (with_reducible refine r_bool ?_) | walk_at "m")
      exact ⟨_, _, rfl, Fr.keep (by assumption), _, by show Value.int _ _ = _; rw [show (B : Int) + s * (0 + (T : Int)) = s * T + B by rw [Int.zero_add]; omega]⟩
  · rintro v h' tk' k ⟨t', rfl⟩
    exact hQ t' h' tk' k

def lessOf (T B T' B' : Nat) : Bool := if T + B ≥ T' + B' then false else decide (T ≤ T')
theorem f_less {T B T' B' lo lo' : Nat} {v v' : Value} {Q : Value → Shared → Prop} (g : G w mg mb h) (r : Room 2 A) (hv : Ws T B lo h v) (hv' : Ws T' B' lo' h v')
    (hQ : ∀ h' tk', Ext h h' → Q (.bool (lessOf T B T' B')) ⟨h', gs, dr, tk', os⟩) : wpAny (model prog w) A (call (.ref 121) [v, v']) Q E ⟨h, gs, dr, tk, os⟩ := by
  obtain ⟨x, dx, f, rfl, _, _, ob, wf⟩ := hv
  obtain ⟨y, dy, f', rfl, _, _, ob', wf'⟩ := hv'
  obtain ⟨t1, f1⟩ := wf.fn
  obtain ⟨t2, f2⟩ := wf.fnt
  have f3 := wf.fsim
  obtain ⟨t4, f4⟩ := wf'.fn
  obtain ⟨t5, f5⟩ := wf'.fnt
  have f6 := wf'.fsim
  refine enter (P := fun v _ => v = .bool (lessOf T B T' B')) (binds := [(Str.ofString "self", .ref x), (Str.ofString "other", .ref y)]) g r
    (by show (Mine.hd.heap_39 w.params).lookup 121 = _; k_is) (by kernel_rfl) rfl rfl rfl rfl (by rfl) (by rfl) (by rfl) rfl rfl rfl ?_ ?_
  · intro A' env L h₁ tk₁ r' e F g₁ x₁
    dsimp only at e
    generalize hm : (fun z => List.lookup z ([(Str.ofString "self", Value.ref x), (Str.ofString "other", .ref y)].reverse)) = m at F
    have m1 : m (Str.ofString "self") = some (.ref x) := by rw [← hm]; rfl
    have m2 : m (Str.ofString "other") = some (.ref y) := by rw [← hm]; rfl
    clear hm
    have r0 := r'.less (Nat.zero_le _)
    repeat (first | (with_reducible refine isTrue_and_nil ?_) | (with_reducible refine isTrue_and ?_) | (with_reducible refine r_bool ?_) | walk_at "m")
    refine r_ite (fun z => ?_) fun z => ?_
    · repeat (first | (with_reducible refine isTrue_and_nil ?_) | (with_reducible refine isTrue_and ?_) | (with_reducible refine r_bool ?_) | walk_at "m")
      exact ⟨_, _, rfl, Fr.keep (by assumption), by rw [lessOf, if_pos (by omega)]⟩
    repeat (first | (with_reducible refine isTrue_and_nil ?_) | (with_reducible refine isTrue_and ?_) | (with_reducible refine r_bool ?_) | walk_at "m")
    refine r_iteb (fun _ => ?_) fun z => absurd z (by decide)
    repeat (first | (with_reducible refine isTrue_and_nil ?_) | (with_reducible refine isTrue_and ?_) | (with_reducible refine r_bool ?_) | walk_at "m")
    refine r_iteb (fun _ => ?_) fun z => absurd z (by decide)
    repeat (first | (with_reducible refine isTrue_and_nil ?_) | (with_reducible refine isTrue_and ?_) | (with_reducible refine r_bool ?_) | walk_at "m")
    refine r_iteb (fun _ => ?_) fun z => absurd z (by decide)
    repeat (first | (with_reducible refine isTrue_and_nil ?_) | (with_reducible refine isTrue_and ?_) | (with_reducible refine r_bool ?_) | walk_at "m")
    refine ⟨_, _, rfl, Fr.keep (by assumption), ?_⟩
    rw [lessOf, if_neg (by omega)]
    show Value.bool _ = _
    rw [Bool.eq_iff_iff.mpr (show decide ((T : Int) ≤ T') = true ↔ decide (T ≤ T') = true by simp)]
  · rintro v h' tk' k rfl
    exact hQ h' tk' k

theorem shaped_norm (T B : Nat) : SeqAt.shaped (normD T B) = true := by unfold normD; split <;> rfl
theorem eqv_norm (T B T' B' : Nat) : PyData.eqv (normD T B) (normD T' B') = decide (T = T' ∧ B = B') := by
  unfold normD
  rw [Bool.eq_iff_iff]
  split <;> split <;> simp [PyData.eqv, PyData.eqvAll] <;> omega
theorem f_equal {T B T' B' lo lo' : Nat} {v v' : Value} {Q : Value → Shared → Prop} (g : G w mg mb h) (r : Room 2 A) (hv : Ws T B lo h v) (hv' : Ws T' B' lo' h v')
    (hQ : ∀ h' tk', Ext h h' → Q (.bool (decide (T = T' ∧ B = B'))) ⟨h', gs, dr, tk', os⟩) : wpAny (model prog w) A (call (.ref 107) [v, v']) Q E ⟨h, gs, dr, tk, os⟩ := by
  obtain ⟨x, dx, f, rfl, _, _, ob, wf⟩ := hv
  obtain ⟨y, dy, f', rfl, _, _, ob', wf'⟩ := hv'
  obtain ⟨vn, f1, f2⟩ := wf.fnorm
  obtain ⟨vn', f1', f2'⟩ := wf'.fnorm
  obtain ⟨a, _, _, _, rfl, _⟩ := norm_inv f2
  obtain ⟨a', _, _, _, rfl, _⟩ := norm_inv f2'
  refine enter (P := fun v _ => v = .bool (decide (T = T' ∧ B = B'))) (binds := [(Str.ofString "self", .ref x), (Str.ofString "other", .ref y)]) g r
    (by show (Mine.hd.heap_39 w.params).lookup 107 = _; k_is) (by kernel_rfl) rfl rfl rfl rfl (by rfl) (by rfl) (by rfl) rfl rfl rfl ?_ ?_
  · intro A' env L h₁ tk₁ r' e F g₁ x₁
    dsimp only at e
    generalize hm : (fun z => List.lookup z ([(Str.ofString "self", Value.ref x), (Str.ofString "other", .ref y)].reverse)) = m at F
    have m1 : m (Str.ofString "self") = some (.ref x) := by rw [← hm]; rfl
    have m2 : m (Str.ofString "other") = some (.ref y) := by rw [← hm]; rfl
    clear hm
    have r0 := r'.less (Nat.zero_le _)
    repeat (first | (with_reducible refine isTrue_and_nil ?_) | (with_reducible refine isTrue_and ?_) | (with_reducible refine r_bool ?_) | walk_at "m")
    refine r_eqd r0 (f2.sq (Ext.sq F.keep)) (f2'.sq (Ext.sq F.keep)) (shaped_norm _ _) (shaped_norm _ _) ?_
    exact ⟨_, _, rfl, F.keep, by rw [eqv_norm]⟩
  · rintro v h' tk' k rfl
    exact hQ h' tk' k
end
end

section
section
variable {prog : Program} {w : World} {mg mb : Str → Option Value} {A : Around} {E : Value → Shared → Prop} {gs : Array GenState} {dr : Drawn} {tk : Nat} {os : OsState} {h₀ h : Heap} {L : Addr} {m : Str → Option Value} {env : Env} {ks : List (Str × NameKind)} {cl : List (Str × Addr)}
theorem x_append {x : Str} {elt : Expr} {np apos pos p : Pos} {rest : List Stmt} {D : Addr} {Q : Flow → Shared → Prop} (e : EnvIs env L ks cl) (F : Fr h₀ L h m) (hk : ks.lookup x = some .local) (hv : m x = some (.ref D)) (hd : (x == ("__debug__" : Str)) = false)
    (hp : ∃ us : List Value, h.PlainList D us.toArray) (hD : D ≠ L ∧ h₀.get? D = none) (hi : interactive env = false) (hs : swapsWith (.Call (.Attribute (.Name x np) (Str.ofString "append") apos) [elt] [] pos) none p.line env = pure false)
    (hfew : ((backTo pos (starEach [elt] env)).all (fun x => !x.1) && (backToKw pos (keywordEach [] env)).all (fun x => x.1.isSome) && decide (([elt] : List Expr).length + ([] : List Keyword).length + (if ([] : List Keyword).isEmpty then 0 else 1) < 30)) = true)
    (hline : (apos.endLine == pos.line) = true) (htrees : backTo pos (starEach [elt] env) = [(false, eval elt env)])
    (hQ : wpAny (model prog w) A (eval elt env) (fun v s₂ => ∃ h₂ tk₂ m₂ us, s₂ = ⟨h₂, gs, dr, tk₂, os⟩ ∧ Fr h₀ L h₂ m₂ ∧ h₂.PlainList D (us : List Value).toArray ∧ us.length ≤ 10000 ∧
      ∀ h₃, Fr h₀ L h₃ m₂ → h₃.PlainList D (us ++ [v]).toArray → Heap.SameBut D h₂ h₃ → wpAny (model prog w) A (execs rest env) Q E ⟨h₃, gs, dr, tk₂, os⟩) E ⟨h, gs, dr, tk, os⟩) :
    wpAny (model prog w) A (execs (.Expr (.Call (.Attribute (.Name x np) (Str.ofString "append") apos) [elt] [] pos) p :: rest) env) Q E ⟨h, gs, dr, tk, os⟩ := by
  refine wpAny_execs_cons (wpAny_Expr_any ?_ hi hs)
  obtain ⟨us, n, hus⟩ := hp
  refine wpAny_Call_append rfl hfew hline htrees (r_loc e F hk hv hd ⟨D, us.toArray, rfl, ⟨_, n, hus, rfl, rfl, rfl⟩, ?_⟩)
  refine wpAny_mono hQ (fun v s₂ h₂ => ?_) fun _ _ e => e
  obtain ⟨h₂, tk₂, m₂, us, rfl, F₂, pl, hl, hq⟩ := h₂
  refine wpAny_list_append_plain (hsz := by rw [List.size_toArray]; show _ ≤ 2 ^ 24; omega) pl fun h₃ pl₃ S₃ => ?_
  refine hq h₃ ⟨F₂.ns.extBut S₃.extBut (Ne.symm hD.1), fun b o q => S₃.extBut b o (fun z => ?_) (F₂.keep b o q), F₂.above⟩ (by simpa using pl₃) S₃
  subst z; rw [hD.2] at q; cases q
theorem not_inter (e : EnvIs env L ks cl) : interactive env = false := by unfold interactive; rw [e.kind]; rfl
end
end

section
section
variable {prog : Program} {w : World} {mg mb : Str → Option Value} {A : Around} {E : Value → Shared → Prop} {gs : Array GenState} {dr : Drawn} {tk : Nat} {os : OsState} {h₀ h : Heap} {L : Addr} {m : Str → Option Value} {env : Env} {ks : List (Str × NameKind)} {cl : List (Str × Addr)}

theorem for_walk2 {I : Addr} {fp wr X : List Addr} {n : Nat} {P : Nat → Value → Prop} {St : Nat → Heap → Prop} {x : Str} {px : Pos} {body : List Stmt} {Q : Flow → Shared → Prop}
    (Inv : Nat → Heap → (Str → Option Value) → Prop) (W : Walks prog w A I fp wr n P St) (e : EnvIs env L ks cl) (hx : ks.lookup x = some .local) (hX : L ∈ X) (hfp : ∀ b ∈ fp, b ∉ X) (hwr : ∀ b ∈ wr, h₀.get? b = none)
    (hst : St 0 h) (F : Fr h₀ L h m) (hI : Inv 0 h m) (hwt : ∀ i h, St i h → ∀ b ∈ wr, ∀ o, h.get? b = some o → ¬ TupO o) (stable : ∀ i h₁ h₂ m₁, Tq h₁ h₂ → Inv i h₁ m₁ → Off (L :: wr) h₁ h₂ → Inv i h₂ m₁)
    (turn : ∀ i v h₁ m₁ tk₁, i < n → P i v → Inv i h₁ m₁ → Off (wr ++ X) h h₁ → Fr h₀ L h₁ (upd m₁ x v) → wpAny (model prog w) A (execs body env) (Turn gs dr os h₀ L X h₁ (Inv (i + 1)) Q) NoE ⟨h₁, gs, dr, tk₁, os⟩)
    (done : ∀ h₁ m₁ tk₁, Fr h₀ L h₁ m₁ → Inv n h₁ m₁ → Off (wr ++ X) h h₁ → Q .next ⟨h₁, gs, dr, tk₁, os⟩) :
    codeAny (model prog w) A (.forLoop (.Name x px) (.ref I) body [] env) (fun r s' => match r with | .ok f => Q f s' | .error e => cameBackBy (model prog w) A env E e s') ⟨h, gs, dr, tk, os⟩ := by
  have never : ∀ {α : Type} {t : Sem α} {Q' : α → Shared → Prop} {s : Shared} {N : Value → Shared → Prop}, wpAny (model prog w) A t Q' NoE s → wpAny (model prog w) A t Q' N s := fun hh => wpAny_noRaise hh
  have hLw : ∀ b ∈ wr, b ≠ L := fun b hb q => hfp b (W.sub b hb) (q ▸ hX)
  refine codeAny_forLoop (fun k s' => ∃ i h₁ m₁ tk₁, s' = ⟨h₁, gs, dr, tk₁, os⟩ ∧ i ≤ n ∧ k = n - i ∧ St i h₁ ∧ Fr h₀ L h₁ m₁ ∧ Inv i h₁ m₁ ∧ Off (wr ++ X) h h₁) ?_ n ⟨0, h, m, tk, rfl, Nat.zero_le _, rfl, hst, F, hI, Off.refl _ _⟩
  rintro k s' ⟨i, h₁, m₁, tk₁, rfl, hi, rfl, hst₁, F₁, I₁, O₁⟩
  have step : ∀ h₂ : Heap, (∀ b o, b ∉ wr → h₁.get? b = some o → h₂.get? b = some o) → Fr h₀ L h₂ m₁ ∧ Inv i h₂ m₁ ∧ Off (wr ++ X) h h₂ := fun h₂ hk =>
    ⟨⟨F₁.ns.at' fun o q => hk L o (fun hm => hLw L hm rfl) q, fun b o q => hk b o (fun hm => by have := hwr b hm; rw [this] at q; cases q) (F₁.keep b o q), F₁.above⟩,
      stable i h₁ h₂ m₁ (fun b o xs n q q2 q3 => hk b o (fun hm => hwt i h₁ hst₁ b hm o q ⟨q3, xs, n, q2⟩) q) I₁ fun b o hb q => hk b o (fun hm => hb (.tail _ hm)) q, fun b o hb q => hk b o (fun hm => hb (List.mem_append_left _ hm)) (O₁ b o hb q)⟩
  rcases Nat.lt_or_ge i n with hlt | hge
  · refine W.item i _ _ _ hlt hst₁ fun v h₂ tk₂ hP hst₂ hk₂ => ?_
    obtain ⟨F₂, I₂, O₂⟩ := step h₂ hk₂
    refine wpAny_assign_Name (wpAny_storeName_local (m := m₁) (by show env.scope.names.lookup x = _; rw [e.names]; exact hx) (by rw [e.loc]; exact F₂.ns) (fun h₃ hn hs => ?_) (by rw [e.kind]; rfl))
    rw [e.loc] at hn hs
    refine wpAny_mono (never (turn i v h₃ m₁ _ hlt hP (stable i h₂ h₃ m₁ (sq_same F₂.ns hs).tq I₂ (same_off hs (.head _))) (O₂.same hs (List.mem_append_right _ hX)) (F₂.set hn hs))) (fun fl s₄ h₄ => ?_) fun _ _ q => q
    have fin : (∃ h' m' tk', s₄ = ⟨h', gs, dr, tk', os⟩ ∧ Fr h₀ L h' m' ∧ Inv (i + 1) h' m' ∧ Off X h₃ h') → ∃ k', k' < n - i ∧ ∃ i h₁ m₁ tk₁, s₄ = ⟨h₁, gs, dr, tk₁, os⟩ ∧ i ≤ n ∧ k' = n - i ∧ St i h₁ ∧ Fr h₀ L h₁ m₁ ∧ Inv i h₁ m₁ ∧ Off (wr ++ X) h h₁ := by
      rintro ⟨h', m', tk', rfl, F', I', O'⟩
      refine ⟨n - (i + 1), by omega, i + 1, h', m', tk', rfl, hlt, rfl, ?_, F', I', ?_⟩
      · exact W.frame _ _ _ hst₂ fun b hb o q => O' b o (hfp b hb) (hs.extBut b o (fun z => hfp b hb (z ▸ hX)) q)
      · exact (O₂.same hs (List.mem_append_right _ hX)).trans (O'.more fun p hp => List.mem_append_right _ hp)
    cases fl with
    | next => exact fin h₄
    | cont => exact fin h₄
    | brk => exact h₄
    | ret v => exact h₄
  · have : i = n := by omega
    subst this
    refine W.done _ _ _ hst₁ fun h₂ tk₂ hk₂ => ?_
    obtain ⟨F₂, I₂, O₂⟩ := step h₂ hk₂
    exact wpAny_execs_nil (done h₂ m₁ tk₂ F₂ I₂ O₂)

theorem for_range2 {r : Addr} {a b : Int} {t u v : Tok} {X : List Addr} {x : Str} {px : Pos} {body : List Stmt} {Q : Flow → Shared → Prop} (Inv : Nat → Heap → (Str → Option Value) → Prop) (n : Nat) (hn : (b - a).toNat = n)
    (hr : IsRange h r a b 1 t u v) (hab : (-1000000 ≤ a ∧ a ≤ 1000000) ∧ -1000000 ≤ b ∧ b ≤ 1000000) (rm : Room 0 A) (e : EnvIs env L ks cl) (hx : ks.lookup x = some .local) (hX : L ∈ X) (hXh : ∀ b ∈ X, b < h.objs.size) (F : Fr h₀ L h m)
    (hI : ∀ h', Ext h h' → Inv 0 h' m) (stable : ∀ I i h₁ h₂ m₁, h.objs.size ≤ I → Tq h₁ h₂ → Inv i h₁ m₁ → Off [L, I] h₁ h₂ → Inv i h₂ m₁)
    (turn : ∀ i t h₁ m₁ tk₁, i < n → Inv i h₁ m₁ → Off X h h₁ → Fr h₀ L h₁ (upd m₁ x (.int (a + i) t)) → wpAny (model prog w) A (execs body env) (Turn gs dr os h₀ L X h₁ (Inv (i + 1)) Q) NoE ⟨h₁, gs, dr, tk₁, os⟩)
    (done : ∀ h₁ m₁ tk₁, Fr h₀ L h₁ m₁ → Inv n h₁ m₁ → Off X h h₁ → Q .next ⟨h₁, gs, dr, tk₁, os⟩) :
    wpAny (model prog w) A (pyIter (.ref r)) (fun it s₂ => codeAny (model prog w) A (.forLoop (.Name x px) it body [] env) (fun r s' => match r with | .ok f => Q f s' | .error e => cameBackBy (model prog w) A env E e s') s₂) E ⟨h, gs, dr, tk, os⟩ := by
  obtain ⟨sm, sz⟩ := small_ok hab.1 hab.2
  refine wpAny_pyIter_range hr sm ?_
  have offI : ∀ {h₁ : Heap}, Off ([h.objs.size] ++ X) (h.push { cls := .type "range_iterator", data := .fields #[rawInt a, rawInt (Builtin.Range.rangeSize a b 1), rawInt 1] }) h₁ → Off X h h₁ := fun O p o hp q => O p o (by
      intro hm
      rcases List.mem_append.mp hm with hm | hm
      · exact absurd (Heap.lt_size q) ((List.mem_singleton.mp hm) ▸ Nat.lt_irrefl _)
      · exact hp hm) (Heap.get?_push_of_some _ q)
  refine for_walk2 (fun i h₁ m₁ => Inv i h₁ m₁) (Walks.range rm.hd h.objs.size a 1 n) e hx hX ?_ ?_ ?_ (F.push _) (hI _ fun p o q => Heap.get?_push_of_some _ q) (fun i h₂ st b hb o' e' hc' => by
      have st' : h₂.get? h.objs.size = some _ := st
      rw [List.mem_singleton.mp hb, st'] at e'; cases e'; exact absurd (show Value.type "range_iterator" = .type "tuple" from hc'.1) (by decide)) (fun i h₁ h₂ m₁ tq hi ho => stable h.objs.size i h₁ h₂ m₁ (Nat.le_refl _) tq hi ho) ?_ ?_
  · intro p hp hm
    have := hXh p hm
    rw [List.mem_singleton.mp hp] at this
    exact Nat.lt_irrefl _ this
  · intro p hp
    rw [List.mem_singleton.mp hp]
    exact next_is_new F
  · show (h.push _).get? h.objs.size = _
    rw [sz, hn]
    simpa using Heap.get?_push_size _ rfl
  · rintro i v h₁ m₁ tk₁ hi ⟨t', rfl⟩ hI₁ O₁ F₁
    rw [Int.mul_one] at F₁
    exact turn i t' h₁ m₁ tk₁ hi hI₁ (offI O₁) F₁
  · intro h₁ m₁ tk₁ F₁ I₁ O₁
    exact done h₁ m₁ tk₁ F₁ I₁ (offI O₁)

end
end

section
def colW (T B T' B' : Nat) (s : Int) : PyData := .tuple [.int s, .int (s * T + B), .int (s * T' + B')]
def neP (T B T' B' : Nat) (s : Int) : Bool := decide (s * T + B ≠ s * T' + B')
def geP (T B T' B' : Nat) (s : Int) : Bool := decide (s * T + B ≥ s * T' + B')
theorem new_none {h hX : Heap} {L a : Addr} {m : Str → Option Value} (F : Fr h L hX m) (hn : hX.get? a = none) : h.get? a = none := by
  cases q : h.get? a with
  | none => rfl
  | some o => rw [F.keep _ _ q] at hn; cases hn
theorem noLs_map {α : Type} {d : α → PyData} (l : List α) (hd : ∀ a, noL (d a) = true) : noLs (l.map d) = true := by
  induction l with
  | nil => rfl
  | cons a l ih => simp [noLs, hd a, ih]
section
variable {prog : Program} {w : World} {mg mb : Str → Option Value} {A : Around} {E : Value → Shared → Prop} {gs : Array GenState} {dr : Drawn} {tk : Nat} {os : OsState} {h : Heap}

theorem f_wit114 {T B T' B' lo lo' : Nat} {v v' : Value} {Q : Value → Shared → Prop} (g : G w mg mb h) (r : Room 4 A) (hv : Ws T B lo h v) (hv' : Ws T' B' lo' h v') (hT : T ≤ 4) (hB : B ≤ 4) (hT' : T' ≤ 4) (hB' : B' ≤ 4)
    (hQ : ∀ D h' tk' (ys : List Value), Ext h h' → h.objs.size ≤ D → h'.PlainList D ys.toArray → Iss h' ys (((iRange 1 (max B B' + 1)).filter (neP T B T' B')).map (colW T B T' B')) → Q (.ref D) ⟨h', gs, dr, tk', os⟩) :
    wpAny (model prog w) A (call (.ref 114) [v, v']) Q E ⟨h, gs, dr, tk, os⟩ := by
  have W1 := hv
  have W2 := hv'
  obtain ⟨x, dx, f, rfl, _, _, ob, wf⟩ := hv
  obtain ⟨y, dy, f', rfl, _, _, ob', wf'⟩ := hv'
  have f1 := wf.m1
  have f2 := wf.m2
  have f3 := wf'.m1
  have f4 := wf'.m2
  refine enter (P := fun v h' => ∃ D ys, v = .ref D ∧ h.objs.size ≤ D ∧ h'.PlainList D (ys : List Value).toArray ∧ Iss h' ys (((iRange 1 (max B B' + 1)).filter (neP T B T' B')).map (colW T B T' B'))) (binds := [(Str.ofString "self", .ref x), (Str.ofString "other", .ref y)]) g r
    (by show (Mine.hd.heap_39 w.params).lookup 114 = _; k_is) (by kernel_rfl) rfl rfl rfl rfl (by rfl) (by rfl) (by rfl) rfl rfl rfl ?_ ?_
  · intro A' env L h₁ tk₁ r' e F g₁ x₁
    dsimp only at e
    generalize hm : (fun z => List.lookup z ([(Str.ofString "self", Value.ref x), (Str.ofString "other", .ref y)].reverse)) = m at F
    have m1 : m (Str.ofString "self") = some (.ref x) := by rw [← hm]; rfl
    have m2 : m (Str.ofString "other") = some (.ref y) := by rw [← hm]; rfl
    clear hm
    have r0 := r'.less (Nat.zero_le _)
    repeat (first | (with_reducible refine r_nei ?_) | walk_at "m")
    refine f_run (g.keeps F.keep) (r'.less (by omega)) (W1.ext F.keep) hT hB fun _ h2 _ X2 => ?_
    have F2 := F.keeps X2
    repeat (first | (with_reducible refine r_nei ?_) | walk_at "m")
    refine f_run (g.keeps F2.keep) (r'.less (by omega)) (W2.ext F2.keep) hT' hB' fun _ h3 _ X3 => ?_
    have F3 := F2.keeps X3
    repeat (first | (with_reducible refine r_nei ?_) | walk_at "m")
    rename_i D hD XD plD nD sD FD lD h5 tk5 F5 S5
    have hDL : D ≠ L := Ne.symm (Nat.ne_of_lt (Nat.lt_of_lt_of_le (Fr.ns (by assumption)).lt sD))
    have D0 : h.get? D = none := new_none (by assumption) nD
    have sD0 : h.objs.size ≤ D := fr_size (by assumption) sD
    have pl5 : h5.PlainList D [].toArray := plD.at fun o q => by walk_at "kd"
    refine x_for (fun _ => rfl) ?_
    repeat (first | (with_reducible refine r_nei ?_) | walk_at "m")
    rename_i rg h6 _ _ _ _ X6 hrg F6
    have pl6 : h6.PlainList D [].toArray := pl5.at (X6 _)
    refine for_range2 (X := [L, D]) (fun i h' m => m (Str.ofString "self") = some (.ref x) ∧ m (Str.ofString "other") = some (.ref y) ∧ m (Str.ofString "a") = some (.ref D) ∧ ∃ us : List Value, h'.PlainList D us.toArray ∧ us.length ≤ i ∧ Iss h' us (((iRange 1 i).filter (neP T B T' B')).map (colW T B T' B'))) (max B B' + 1) (by omega) hrg (by omega) r0 e (by kernel_rfl!) (.head _) ?_ F6 ?_ ?_ ?_ ?_
    · intro z hz
      rcases List.mem_cons.mp hz with rfl | hz
      · exact F6.ns.lt
      · rw [List.mem_singleton.mp hz]
        obtain ⟨k, q⟩ := pl6
        exact Heap.lt_size q
    · intro h' X'
      exact ⟨by walk_at "lk", by walk_at "lk", by walk_at "lk", [], pl6.at (X' _), Nat.zero_le _, .nil⟩
    · rintro I i ha hb m₁ hI tq ⟨j1, j2, j3, us, pu, lu, iu⟩ O
      refine ⟨j1, j2, j3, us, pu.at (fun o z => O D o (fun hm => ?_) z), lu, iu.tq tq (noLs_map _ (fun _ => rfl))⟩
      rcases List.mem_cons.mp hm with z | z
      · exact hDL z
      · obtain ⟨k, q⟩ := pl6
        have hlt := Heap.lt_size q
        rw [List.mem_singleton.mp z] at hlt
        exact absurd hlt (Nat.not_lt.mpr hI)
    · rintro i t7 h7 m7 tk7 hi ⟨j1, j2, j3, us, pu, lu, iu⟩ O7 F7
      repeat (first | (with_reducible refine r_nei ?_) | walk_at "m")
      refine f_level (g.keeps F7.keep) (r'.less (by omega)) (W1.ext F7.keep) hT hB (by omega) fun _ h8 _ X8 => ?_
      have F8 := F7.keeps X8
      repeat (first | (with_reducible refine r_nei ?_) | walk_at "m")
      refine f_level (g.keeps F8.keep) (r'.less (by omega)) (W2.ext F8.keep) hT' hB' (by omega) fun _ h9 _ X9 => ?_
      have F9 := F8.keeps X9
      repeat (first | (with_reducible refine r_nei ?_) | walk_at "m")
      have eR : iRange 1 (i + 1) = iRange 1 i ++ [1 + (i : Int)] := by unfold iRange; rw [List.range_succ, List.map_append]; rfl
      refine r_ite (fun z => ?_) fun z => ?_
      · have pz : ([1 + (i : Int)].filter (neP T B T' B')) = [1 + (i : Int)] := List.filter_cons_of_pos (decide_eq_true z)
        refine x_append (D := D) (h₀ := h) e F9 (by kernel_rfl!) (by walk_at "lk") (by kernel_rfl!) ⟨us, pu.at fun o q => by walk_at "kd"⟩ ⟨hDL, D0⟩ (not_inter e) (by rfl) (by rfl) (by rfl) (by rfl) ?_
        repeat (first | (with_reducible refine r_nei ?_) | walk_at "m")
        refine f_level (g.keeps F9.keep) (r'.less (by omega)) (W1.ext F9.keep) hT hB (by omega) fun _ h10 _ X10 => ?_
        have F10 := F9.keeps X10
        repeat (first | (with_reducible refine r_nei ?_) | walk_at "m")
        refine f_level (g.keeps F10.keep) (r'.less (by omega)) (W2.ext F10.keep) hT' hB' (by omega) fun _ h11 _ X11 => ?_
        have F11 := F10.keeps X11
        repeat (first | (with_reducible refine r_nei ?_) | walk_at "m")
        rename_i u h12 X12 tu su F12
        have XX : Ext h7 h12 := Ext.trans X8 (Ext.trans X9 (Ext.trans X10 (Ext.trans X11 X12)))
        have p12 := pu.at (h' := h12) (XX _)
        refine ⟨h12, _, _, us, rfl, F12, p12, by omega, fun h13 F13 p13 S13 => ?_⟩
        refine x_nil ⟨rfl, x_nil ?_⟩
        obtain ⟨kk, q12⟩ := p12
        have tq13 : Tq h12 h13 := tq_list q12 rfl S13
        refine ⟨_, _, _, rfl, F13, ⟨by walk_at "lk", by walk_at "lk", by walk_at "lk", us ++ [.ref u], p13, by rw [List.length_append, List.length_singleton]; omega, ?_⟩, fun b' o hb q => ?_⟩
        · rw [eR, List.filter_append, List.map_append, pz]
          exact Iss.append ((iu.sq XX.sq).tq tq13 (noLs_map _ (fun _ => rfl))) (.cons ((is_tup tu (.cons (.int _ _) (.cons (.int _ _) (.cons (.int _ _) .nil)))).tq tq13 rfl) .nil)
        · have h1 : b' ≠ L := fun z => hb (z ▸ .head _)
          have h2 : b' ≠ D := fun z => hb (z ▸ .tail _ (.head _))
          exact S13.extBut b' o h2 (XX _ _ q)
      · have pz : ([1 + (i : Int)].filter (neP T B T' B')) = [] := List.filter_cons_of_neg (fun q => z (of_decide_eq_true q))
        refine x_nil ?_
        have XX : Ext h7 h9 := Ext.trans X8 X9
        refine ⟨_, _, _, rfl, F9, ⟨by walk_at "lk", by walk_at "lk", by walk_at "lk", us, pu.at (XX _), by omega, ?_⟩, fun b' o hb q => XX _ _ q⟩
        rw [eR, List.filter_append, List.map_append, pz, List.map_nil, List.append_nil]
        exact iu.sq XX.sq
    · rintro h7 m7 tk7 F7 ⟨j1, j2, j3, us, pu, lu, iu⟩ O7
      show wpAny _ _ _ _ _ _
      repeat (first | (with_reducible refine r_nei ?_) | walk_at "m")
      exact ⟨_, _, rfl, F7.keep, D, us, rfl, sD0, pu, iu⟩
  · rintro v h' tk' k ⟨D, ys, rfl, c1, c2, c3⟩
    exact hQ D h' tk' ys k c1 c2 c3

theorem f_wit128 {T B T' B' lo lo' : Nat} {v v' : Value} {Q : Value → Shared → Prop} (g : G w mg mb h) (r : Room 4 A) (hv : Ws T B lo h v) (hv' : Ws T' B' lo' h v') (hT : T ≤ 4) (hB : B ≤ 4) (hT' : T' ≤ 4) (hB' : B' ≤ 4)
    (hQ : ∀ D h' tk' (ys : List Value), Ext h h' → h.objs.size ≤ D → h'.PlainList D ys.toArray → Iss h' ys (((iRange 1 (max B B' + 1)).filter (geP T B T' B')).map (colW T B T' B')) → Q (.ref D) ⟨h', gs, dr, tk', os⟩) :
    wpAny (model prog w) A (call (.ref 128) [v, v']) Q E ⟨h, gs, dr, tk, os⟩ := by
  have W1 := hv
  have W2 := hv'
  obtain ⟨x, dx, f, rfl, _, _, ob, wf⟩ := hv
  obtain ⟨y, dy, f', rfl, _, _, ob', wf'⟩ := hv'
  have f1 := wf.m1
  have f2 := wf.m2
  have f3 := wf'.m1
  have f4 := wf'.m2
  refine enter (P := fun v h' => ∃ D ys, v = .ref D ∧ h.objs.size ≤ D ∧ h'.PlainList D (ys : List Value).toArray ∧ Iss h' ys (((iRange 1 (max B B' + 1)).filter (geP T B T' B')).map (colW T B T' B'))) (binds := [(Str.ofString "self", .ref x), (Str.ofString "other", .ref y)]) g r
    (by show (Mine.hd.heap_39 w.params).lookup 128 = _; k_is) (by kernel_rfl) rfl rfl rfl rfl (by rfl) (by rfl) (by rfl) rfl rfl rfl ?_ ?_
  · intro A' env L h₁ tk₁ r' e F g₁ x₁
    dsimp only at e
    generalize hm : (fun z => List.lookup z ([(Str.ofString "self", Value.ref x), (Str.ofString "other", .ref y)].reverse)) = m at F
    have m1 : m (Str.ofString "self") = some (.ref x) := by rw [← hm]; rfl
    have m2 : m (Str.ofString "other") = some (.ref y) := by rw [← hm]; rfl
    clear hm
    have r0 := r'.less (Nat.zero_le _)
    repeat (first | (with_reducible refine r_nei ?_) | walk_at "m")
    refine f_run (g.keeps F.keep) (r'.less (by omega)) (W1.ext F.keep) hT hB fun _ h2 _ X2 => ?_
    have F2 := F.keeps X2
    repeat (first | (with_reducible refine r_nei ?_) | walk_at "m")
    refine f_run (g.keeps F2.keep) (r'.less (by omega)) (W2.ext F2.keep) hT' hB' fun _ h3 _ X3 => ?_
    have F3 := F2.keeps X3
    repeat (first | (with_reducible refine r_nei ?_) | walk_at "m")
    rename_i D hD XD plD nD sD FD lD h5 tk5 F5 S5
    have hDL : D ≠ L := Ne.symm (Nat.ne_of_lt (Nat.lt_of_lt_of_le (Fr.ns (by assumption)).lt sD))
    have D0 : h.get? D = none := new_none (by assumption) nD
    have sD0 : h.objs.size ≤ D := fr_size (by assumption) sD
    have pl5 : h5.PlainList D [].toArray := plD.at fun o q => by walk_at "kd"
    refine x_for (fun _ => rfl) ?_
    repeat (first | (with_reducible refine r_nei ?_) | walk_at "m")
    rename_i rg h6 _ _ _ _ X6 hrg F6
    have pl6 : h6.PlainList D [].toArray := pl5.at (X6 _)
    refine for_range2 (X := [L, D]) (fun i h' m => m (Str.ofString "self") = some (.ref x) ∧ m (Str.ofString "other") = some (.ref y) ∧ m (Str.ofString "a") = some (.ref D) ∧ ∃ us : List Value, h'.PlainList D us.toArray ∧ us.length ≤ i ∧ Iss h' us (((iRange 1 i).filter (geP T B T' B')).map (colW T B T' B'))) (max B B' + 1) (by omega) hrg (by omega) r0 e (by kernel_rfl!) (.head _) ?_ F6 ?_ ?_ ?_ ?_
    · intro z hz
      rcases List.mem_cons.mp hz with rfl | hz
      · exact F6.ns.lt
      · rw [List.mem_singleton.mp hz]
        obtain ⟨k, q⟩ := pl6
        exact Heap.lt_size q
    · intro h' X'
      exact ⟨by walk_at "lk", by walk_at "lk", by walk_at "lk", [], pl6.at (X' _), Nat.zero_le _, .nil⟩
    · rintro I i ha hb m₁ hI tq ⟨j1, j2, j3, us, pu, lu, iu⟩ O
      refine ⟨j1, j2, j3, us, pu.at (fun o z => O D o (fun hm => ?_) z), lu, iu.tq tq (noLs_map _ (fun _ => rfl))⟩
      rcases List.mem_cons.mp hm with z | z
      · exact hDL z
      · obtain ⟨k, q⟩ := pl6
        have hlt := Heap.lt_size q
        rw [List.mem_singleton.mp z] at hlt
        exact absurd hlt (Nat.not_lt.mpr hI)
    · rintro i t7 h7 m7 tk7 hi ⟨j1, j2, j3, us, pu, lu, iu⟩ O7 F7
      repeat (first | (with_reducible refine r_nei ?_) | walk_at "m")
      refine f_level (g.keeps F7.keep) (r'.less (by omega)) (W1.ext F7.keep) hT hB (by omega) fun _ h8 _ X8 => ?_
      have F8 := F7.keeps X8
      repeat (first | (with_reducible refine r_nei ?_) | walk_at "m")
      refine f_level (g.keeps F8.keep) (r'.less (by omega)) (W2.ext F8.keep) hT' hB' (by omega) fun _ h9 _ X9 => ?_
      have F9 := F8.keeps X9
      repeat (first | (with_reducible refine r_nei ?_) | walk_at "m")
      have eR : iRange 1 (i + 1) = iRange 1 i ++ [1 + (i : Int)] := by unfold iRange; rw [List.range_succ, List.map_append]; rfl
      refine r_ite (fun z => ?_) fun z => ?_
      · have pz : ([1 + (i : Int)].filter (geP T B T' B')) = [1 + (i : Int)] := List.filter_cons_of_pos (decide_eq_true z)
        refine x_append (D := D) (h₀ := h) e F9 (by kernel_rfl!) (by walk_at "lk") (by kernel_rfl!) ⟨us, pu.at fun o q => by walk_at "kd"⟩ ⟨hDL, D0⟩ (not_inter e) (by rfl) (by rfl) (by rfl) (by rfl) ?_
        repeat (first | (with_reducible refine r_nei ?_) | walk_at "m")
        refine f_level (g.keeps F9.keep) (r'.less (by omega)) (W1.ext F9.keep) hT hB (by omega) fun _ h10 _ X10 => ?_
        have F10 := F9.keeps X10
        repeat (first | (with_reducible refine r_nei ?_) | walk_at "m")
        refine f_level (g.keeps F10.keep) (r'.less (by omega)) (W2.ext F10.keep) hT' hB' (by omega) fun _ h11 _ X11 => ?_
        have F11 := F10.keeps X11
        repeat (first | (with_reducible refine r_nei ?_) | walk_at "m")
        rename_i u h12 X12 tu su F12
        have XX : Ext h7 h12 := Ext.trans X8 (Ext.trans X9 (Ext.trans X10 (Ext.trans X11 X12)))
        have p12 := pu.at (h' := h12) (XX _)
        refine ⟨h12, _, _, us, rfl, F12, p12, by omega, fun h13 F13 p13 S13 => ?_⟩
        refine x_nil ⟨rfl, x_nil ?_⟩
        obtain ⟨kk, q12⟩ := p12
        have tq13 : Tq h12 h13 := tq_list q12 rfl S13
        refine ⟨_, _, _, rfl, F13, ⟨by walk_at "lk", by walk_at "lk", by walk_at "lk", us ++ [.ref u], p13, by rw [List.length_append, List.length_singleton]; omega, ?_⟩, fun b' o hb q => ?_⟩
        · rw [eR, List.filter_append, List.map_append, pz]
          exact Iss.append ((iu.sq XX.sq).tq tq13 (noLs_map _ (fun _ => rfl))) (.cons ((is_tup tu (.cons (.int _ _) (.cons (.int _ _) (.cons (.int _ _) .nil)))).tq tq13 rfl) .nil)
        · have h1 : b' ≠ L := fun z => hb (z ▸ .head _)
          have h2 : b' ≠ D := fun z => hb (z ▸ .tail _ (.head _))
          exact S13.extBut b' o h2 (XX _ _ q)
      · have pz : ([1 + (i : Int)].filter (geP T B T' B')) = [] := List.filter_cons_of_neg (fun q => z (of_decide_eq_true q))
        refine x_nil ?_
        have XX : Ext h7 h9 := Ext.trans X8 X9
        refine ⟨_, _, _, rfl, F9, ⟨by walk_at "lk", by walk_at "lk", by walk_at "lk", us, pu.at (XX _), by omega, ?_⟩, fun b' o hb q => XX _ _ q⟩
        rw [eR, List.filter_append, List.map_append, pz, List.map_nil, List.append_nil]
        exact iu.sq XX.sq
    · rintro h7 m7 tk7 F7 ⟨j1, j2, j3, us, pu, lu, iu⟩ O7
      show wpAny _ _ _ _ _ _
      repeat (first | (with_reducible refine r_nei ?_) | walk_at "m")
      exact ⟨_, _, rfl, F7.keep, D, us, rfl, sD0, pu, iu⟩
  · rintro v h' tk' k ⟨D, ys, rfl, c1, c2, c3⟩
    exact hQ D h' tk' ys k c1 c2 c3
end
end

section
theorem shaped_list {l : List PyData} (h : ∀ d ∈ l, d.canLay0 = true ∧ d.depth ≤ 10) : SeqAt.shaped (.list l) = true := by
  have key : ∀ l : List PyData, (∀ d ∈ l, d.canLay0 = true ∧ d.depth ≤ 10) → PyData.canLayAll0 l = true ∧ PyData.depthAll l ≤ 10 := by
    intro l
    induction l with
    | nil => intro _; exact ⟨rfl, Nat.zero_le _⟩
    | cons d l ih =>
      intro h
      obtain ⟨a, b⟩ := ih fun x hx => h x (.tail _ hx)
      obtain ⟨c, e⟩ := h d (.head _)
      refine ⟨by simp [PyData.canLayAll0, a, c], ?_⟩
      simp only [PyData.depthAll]; omega
  obtain ⟨a, b⟩ := key l h
  unfold SeqAt.shaped
  rw [Bool.and_eq_true]
  refine ⟨by rw [PyData.canLay0]; exact a, decide_eq_true ?_⟩
  rw [PyData.depth]; omega
theorem shaped_map {α : Type} {d : α → PyData} (l : List α) (h : ∀ a, (d a).canLay0 = true ∧ (d a).depth ≤ 10) : SeqAt.shaped (.list (l.map d)) = true :=
  shaped_list fun x hx => by obtain ⟨a, _, rfl⟩ := List.mem_map.mp hx; exact h a
theorem eqv_nil (l : List PyData) : PyData.eqv (.list l) (.list []) = l.isEmpty := by cases l <;> rfl
end

section
def row0 : Row := ⟨0, 0, [46], [10]⟩
def rowAt (rs : List Row) (i : Nat) : Row := rs.getD i row0
theorem rowAt_get {rs : List Row} {i : Nat} (h : i < rs.length) : rs[i]? = some (rowAt rs i) := by
  rw [rowAt, List.getD_eq_getElem?_getD, List.getElem?_eq_getElem h]; rfl
theorem rowAt_mem {rs : List Row} {i : Nat} (h : i < rs.length) : rowAt rs i ∈ rs := List.mem_of_getElem? (rowAt_get h)
def geC (p q : Row) (s : Int) : Bool := decide (s * p.t + p.b ≥ s * q.t + q.b)
def neC (p q : Row) (s : Int) : Bool := decide (s * p.t + p.b ≠ s * q.t + q.b)
def toldD (rs : List Row) (c : Int) (i j : Nat) : PyData := .tuple [.int (wayOf (rowAt rs i) (rowAt rs j) ((c + 5 * i + 3 * j).fmod 11 - 1)), .bool ((cols (rowAt rs i) (rowAt rs j)).filter (geC (rowAt rs i) (rowAt rs j))).isEmpty, .bool ((cols (rowAt rs i) (rowAt rs j)).filter (neC (rowAt rs i) (rowAt rs j))).isEmpty]
def grid (d : Nat → Nat → PyData) (n i : Nat) : List PyData := (List.range i).flatMap fun a => (List.range n).map (d a)
theorem grid_succ (d : Nat → Nat → PyData) (n i : Nat) : grid d n (i + 1) = grid d n i ++ (List.range n).map (d i) := by
  unfold grid; rw [List.range_succ, List.flatMap_append]; simp
theorem noLs_app : ∀ (a b : List PyData), noLs a = true → noLs b = true → noLs (a ++ b) = true
  | [], _, _, h => h
  | x :: a, b, h1, h2 => by
    simp only [noLs, Bool.and_eq_true, List.cons_append] at h1 ⊢
    exact ⟨h1.1, noLs_app a b h1.2 h2⟩
theorem noLs_grid {d : Nat → Nat → PyData} (hd : ∀ i j, noL (d i j) = true) (n : Nat) : ∀ i, noLs (grid d n i) = true
  | 0 => rfl
  | i + 1 => by rw [grid_succ]; exact noLs_app _ _ (noLs_grid hd n i) (noLs_map _ (hd i))
theorem col_inv {h : Heap} {v : Value} {p q : Row} {s : Int} (x : Is h v (colD p q s)) : ∃ a t0 t1 t2, v = .ref a ∧ IsTup h a [Value.int s t0, .int (s * p.t + p.b) t1, .int (s * q.t + q.b) t2].toArray := by
  obtain ⟨a, vs, rfl, ht, hi⟩ := x.tup_inv
  cases hi with
  | cons x0 hi => cases hi with
    | cons x1 hi => cases hi with
      | cons x2 hi =>
        cases hi; cases x0; cases x1; cases x2
        exact ⟨a, _, _, _, rfl, ht⟩
theorem colD_ok (p q : Row) (s : Int) : (colD p q s).canLay0 = true ∧ (colD p q s).depth ≤ 10 := ⟨by rfl, by simp [colD, PyData.depth, PyData.depthAll]⟩
section
variable {prog : Program} {w : World} {mg mb : Str → Option Value} {A : Around} {E : Value → Shared → Prop} {gs : Array GenState} {dr : Drawn} {tk : Nat} {os : OsState} {h : Heap}


theorem comp_ge {h₀ : Heap} {L D1 : Addr} {m : Str → Option Value} {env : Env} {ks : List (Str × NameKind)} {cl : List (Str × Addr)} {p q : Row} {ys : List Value} {p1 p2 p3 p4 p5 p6 p7 p8 p9 pa pb : Pos} {k1 k2 : Nat} {Q : Value → Shared → Prop} (e : EnvIs env L ks cl) (F : Fr h₀ L h m) (r0 : Room 0 A)
    (hk : ks.lookup (Str.ofString "columns") = some .local) (hv : m (Str.ofString "columns") = some (.ref D1)) (hl : h.IsList D1 ys.toArray) (iss : Iss h ys ((cols p q).map (colD p q))) (hlen : (cols p q).length ≤ 1000)
    (hQ : ∀ D h' tk' (zs : List Value), Ext h h' → h'.PlainList D zs.toArray → h.objs.size ≤ D → Iss h' zs (((cols p q).filter (geC p q)).map (colD p q)) → Q (.ref D) ⟨h', gs, dr, tk', os⟩) :
    wpAny (model prog w) A (eval (.ListComp (.Name (Str.ofString "c") p1) [⟨.Name (Str.ofString "c") p2, .Name (Str.ofString "columns") p3, [.Compare (.Subscript (.Name (Str.ofString "c") p4) (.Constant (.int 1) k1 p5) p6) [.GtE] [.Subscript (.Name (Str.ofString "c") p7) (.Constant (.int 2) k2 p8) p9] pa], 0⟩] { kind := .function, names := [(Str.ofString ".0", .local), (Str.ofString "c", .local)], isGenerator := false, isCoroutine := false } pb) env) Q E ⟨h, gs, dr, tk, os⟩ := by
  refine cv_list (gs := gs) (dr := dr) (os := os) (cols p q) (geC p q) (fun s _ h y => Is h y (colD p q s)) r0 e (fun _ => rfl) (clos_of e (by rfl)) (by rfl) rfl (by rfl) (by rfl) (moves_is fun _ => rfl) ?_
  refine r_loc e F hk hv (by kernel_rfl!) ?_
  have hyl : ys.length = (cols p q).length := by rw [iss.length, List.length_map]
  refine ⟨D1, ys, h, _, _, rfl, rfl, hl, by omega, iss_paired iss, ?_, ?_⟩
  · rintro C s h₃ m₃ tk₃ hs ⟨v, hv3, hm⟩ F₃ e₃
    obtain ⟨a, t0, t1, t2, rfl, ht⟩ := col_inv hv3
    refine ⟨tests_one ?_, fun _ => ?_⟩
    · repeat (first | (with_reducible refine r_nei ?_) | walk_at "m")
      exact ⟨rfl, _, _, rfl, Ext.refl _⟩
    · repeat (first | (with_reducible refine r_nei ?_) | walk_at "m")
      exact ⟨_, _, rfl, Ext.refl _, hv3.sq (Ext.sq F₃.keep)⟩
  · intro D h' tk' lo zs hD x pl hlo pr
    exact hQ D h' tk' zs x pl hD (paired_iss pr)

theorem comp_ne {h₀ : Heap} {L D1 : Addr} {m : Str → Option Value} {env : Env} {ks : List (Str × NameKind)} {cl : List (Str × Addr)} {p q : Row} {ys : List Value} {p1 p2 p3 p4 p5 p6 p7 p8 p9 pa pb : Pos} {k1 k2 : Nat} {Q : Value → Shared → Prop} (e : EnvIs env L ks cl) (F : Fr h₀ L h m) (r0 : Room 0 A)
    (hk : ks.lookup (Str.ofString "columns") = some .local) (hv : m (Str.ofString "columns") = some (.ref D1)) (hl : h.IsList D1 ys.toArray) (iss : Iss h ys ((cols p q).map (colD p q))) (hlen : (cols p q).length ≤ 1000)
    (hQ : ∀ D h' tk' (zs : List Value), Ext h h' → h'.PlainList D zs.toArray → h.objs.size ≤ D → Iss h' zs (((cols p q).filter (neC p q)).map (colD p q)) → Q (.ref D) ⟨h', gs, dr, tk', os⟩) :
    wpAny (model prog w) A (eval (.ListComp (.Name (Str.ofString "c") p1) [⟨.Name (Str.ofString "c") p2, .Name (Str.ofString "columns") p3, [.Compare (.Subscript (.Name (Str.ofString "c") p4) (.Constant (.int 1) k1 p5) p6) [.NotEq] [.Subscript (.Name (Str.ofString "c") p7) (.Constant (.int 2) k2 p8) p9] pa], 0⟩] { kind := .function, names := [(Str.ofString ".0", .local), (Str.ofString "c", .local)], isGenerator := false, isCoroutine := false } pb) env) Q E ⟨h, gs, dr, tk, os⟩ := by
  refine cv_list (gs := gs) (dr := dr) (os := os) (cols p q) (neC p q) (fun s _ h y => Is h y (colD p q s)) r0 e (fun _ => rfl) (clos_of e (by rfl)) (by rfl) rfl (by rfl) (by rfl) (moves_is fun _ => rfl) ?_
  refine r_loc e F hk hv (by kernel_rfl!) ?_
  have hyl : ys.length = (cols p q).length := by rw [iss.length, List.length_map]
  refine ⟨D1, ys, h, _, _, rfl, rfl, hl, by omega, iss_paired iss, ?_, ?_⟩
  · rintro C s h₃ m₃ tk₃ hs ⟨v, hv3, hm⟩ F₃ e₃
    obtain ⟨a, t0, t1, t2, rfl, ht⟩ := col_inv hv3
    refine ⟨tests_one ?_, fun _ => ?_⟩
    · repeat (first | (with_reducible refine r_nei ?_) | walk_at "m")
      exact ⟨rfl, _, _, rfl, Ext.refl _⟩
    · repeat (first | (with_reducible refine r_nei ?_) | walk_at "m")
      exact ⟨_, _, rfl, Ext.refl _, hv3.sq (Ext.sq F₃.keep)⟩
  · intro D h' tk' lo zs hD x pl hlo pr
    exact hQ D h' tk' zs x pl hD (paired_iss pr)

theorem f_told {rs : List Row} {c : Int} {vr : Value} {tc : Tok} {Q : Value → Shared → Prop} (g : G w mg mb h) (r : Room 6 A) (hr : Is h vr (.list (rs.map rowD))) (kr : ∀ p ∈ rs, RowOk p) (hn : rs.length ≤ 10)
    (hQ : ∀ v h' tk', Ext h h' → Is h' v (.list (grid (toldD rs c) rs.length rs.length)) → Q v ⟨h', gs, dr, tk', os⟩) : wpAny (model prog w) A (call (.ref 180) [vr, .int c tc]) Q E ⟨h, gs, dr, tk, os⟩ := by
  obtain ⟨R, rv, rfl, hl, hi⟩ := hr.lst_inv
  have hlen : rv.length = rs.length := by rw [hi.length, List.length_map]
  have row_at : ∀ i, i < rs.length → ∃ v, rv[i]? = some v ∧ Is h v (rowD (rowAt rs i)) := fun i hlt => hi.get i (by rw [List.getElem?_map, rowAt_get hlt]; rfl)
  refine enter (P := fun v h' => Is h' v (.list (grid (toldD rs c) rs.length rs.length))) (binds := [(Str.ofString "rows", .ref R), (Str.ofString "total", .int c tc)]) g r
    (by show (Mine.hd.heap_39 w.params).lookup 180 = _; k_is) (by kernel_rfl) rfl rfl rfl rfl (by rfl) (by rfl) (by rfl) rfl rfl rfl ?_ hQ
  intro A' env L h₁ tk₁ r' e F g₁ x₁
  dsimp only at e
  generalize hm : (fun z => List.lookup z ([(Str.ofString "rows", Value.ref R), (Str.ofString "total", .int c tc)].reverse)) = m at F
  have m1 : m (Str.ofString "rows") = some (.ref R) := by rw [← hm]; rfl
  have m2 : m (Str.ofString "total") = some (.int c tc) := by rw [← hm]; rfl
  clear hm
  have r0 := r'.less (Nat.zero_le _)
  repeat (first | (with_reducible refine r_nei ?_) | walk_at "m")
  rename_i D hD XD plD nD sD FD lD h5 tk5 F5 S5
  have hDL : D ≠ L := Ne.symm (Nat.ne_of_lt (Nat.lt_of_lt_of_le (Fr.ns (by assumption)).lt sD))
  have D0 : h.get? D = none := new_none (by assumption) nD
  have pl5 : h5.PlainList D [].toArray := plD.at fun o q => by walk_at "kd"
  refine x_for (fun _ => rfl) ?_
  repeat (first | (with_reducible refine r_nei ?_) | walk_at "m")
  refine r_llen (list_at hl (F5.keep _)) (by omega) fun _ _ => ?_
  rw [hlen]
  repeat (first | (with_reducible refine r_nei ?_) | walk_at "m")
  rename_i rg h6 _ _ _ _ X6 hrg F6
  have pl6 : h6.PlainList D [].toArray := pl5.at (X6 _)
  refine for_range2 (X := [L, D]) (fun i h' m => m (Str.ofString "rows") = some (.ref R) ∧ m (Str.ofString "total") = some (.int c tc) ∧ m (Str.ofString "told") = some (.ref D) ∧ ∃ us : List Value, h'.PlainList D us.toArray ∧ us.length ≤ 10 * i ∧ Iss h' us (grid (toldD rs c) rs.length i)) rs.length (by omega) hrg (by omega) r0 e (by kernel_rfl!) (.head _) ?_ F6 ?_ ?_ ?_ ?_
  · intro z hz
    rcases List.mem_cons.mp hz with rfl | hz
    · exact F6.ns.lt
    · rw [List.mem_singleton.mp hz]
      obtain ⟨k, q⟩ := pl6
      exact Heap.lt_size q
  · intro h' X'
    exact ⟨by walk_at "lk", by walk_at "lk", by walk_at "lk", [], pl6.at (X' _), Nat.zero_le _, .nil⟩
  · rintro I i ha hb m₁ hI tq ⟨j1, j2, j3, us, pu, lu, iu⟩ O
    refine ⟨j1, j2, j3, us, pu.at (fun o z => O D o (fun hm => ?_) z), lu, iu.tq tq (noLs_grid (fun _ _ => rfl) _ _)⟩
    rcases List.mem_cons.mp hm with z | z
    · exact hDL z
    · obtain ⟨k, q⟩ := pl6
      have hlt := Heap.lt_size q
      rw [List.mem_singleton.mp z] at hlt
      exact absurd hlt (Nat.not_lt.mpr hI)
  · rintro i t7 h7 m7 tk7 hi7 ⟨j1, j2, j3, us, pu, lu, iu⟩ O7 F7
    clear m1 m2
    refine x_for (fun _ => rfl) ?_
    repeat (first | (with_reducible refine r_nei ?_) | walk_at "m")
    refine r_llen (list_at hl (F7.keep _)) (by omega) fun _ _ => ?_
    rw [hlen]
    repeat (first | (with_reducible refine r_nei ?_) | walk_at "m")
    rename_i rg2 h8 _ _ _ _ X8 hrg2 F8
    have pl8 : h8.PlainList D us.toArray := pu.at (X8 _)
    refine for_range2 (X := [L, D]) (fun j h' m => m (Str.ofString "rows") = some (.ref R) ∧ m (Str.ofString "total") = some (.int c tc) ∧ m (Str.ofString "told") = some (.ref D) ∧ m (Str.ofString "i") = some (.int (0 + i) t7) ∧ ∃ us : List Value, h'.PlainList D us.toArray ∧ us.length ≤ 10 * i + j ∧ Iss h' us (grid (toldD rs c) rs.length i ++ (List.range j).map (toldD rs c i))) rs.length (by omega) hrg2 (by omega) r0 e (by kernel_rfl!) (.head _) ?_ F8 ?_ ?_ ?_ ?_
    · intro z hz
      rcases List.mem_cons.mp hz with rfl | hz
      · exact F8.ns.lt
      · rw [List.mem_singleton.mp hz]
        obtain ⟨k, q⟩ := pl8
        exact Heap.lt_size q
    · intro h' X'
      exact ⟨by walk_at "lk", by walk_at "lk", by walk_at "lk", by walk_at "lk", us, pl8.at (X' _), lu, by rw [List.range_zero, List.map_nil, List.append_nil]; exact (iu.sq X8.sq).sq X'.sq⟩
    · rintro I j ha hb m₁ hI tq ⟨j1, j2, j3, j4, us', pu', lu', iu'⟩ O
      refine ⟨j1, j2, j3, j4, us', pu'.at (fun o z => O D o (fun hm => ?_) z), lu', iu'.tq tq (noLs_app _ _ (noLs_grid (fun _ _ => rfl) _ _) (noLs_map _ (fun _ => rfl)))⟩
      rcases List.mem_cons.mp hm with z | z
      · exact hDL z
      · obtain ⟨k, q⟩ := pl8
        have hlt := Heap.lt_size q
        rw [List.mem_singleton.mp z] at hlt
        exact absurd hlt (Nat.not_lt.mpr hI)
    · rintro j t9 h9 m9 tk9 hj9 ⟨i1, i2, i3, i4, vs, pv, lv, iv⟩ O9 F9
      clear j1 j2 j3
      have kp := kr _ (rowAt_mem hi7)
      have kq := kr _ (rowAt_mem hj9)
      obtain ⟨vi, hvi, isi⟩ := row_at i hi7
      obtain ⟨vj, hvj, isj⟩ := row_at j hj9
      have ei : (0 + (i : Int)).toNat = i := by rw [Int.zero_add]; rfl
      have bi : 0 ≤ (0 : Int) + i ∧ 0 + (i : Int) < 100000 := by omega
      have ej : (0 + (j : Int)).toNat = j := by rw [Int.zero_add]; rfl
      have bj : 0 ≤ (0 : Int) + j ∧ 0 + (j : Int) < 100000 := by omega
      repeat (first | (with_reducible refine r_nei ?_) | walk_at "m")
      refine r_litem (list_at hl (F9.keep _)) bi (by rw [ei]; exact hvi) rfl ?_
      repeat (first | (with_reducible refine r_nei ?_) | walk_at "m")
      refine r_litem (list_at hl (F9.keep _)) bj (by rw [ej]; exact hvj) rfl ?_
      repeat (first | (with_reducible refine r_nei ?_) | walk_at "m")
      refine f_columns (g.keeps F9.keep) (r'.less (by omega)) (isi.sq (Ext.sq F9.keep)) (isj.sq (Ext.sq F9.keep)) kp kq fun D1 h10 _ ys X10 s10 pl10 is10 => ?_
      have F10 := F9.keeps X10
      repeat (first | (with_reducible refine r_nei ?_) | walk_at "m")
      rename_i h11 tk11 F11 S11
      have hcl : (cols (rowAt rs i) (rowAt rs j)).length ≤ 1000 := by
        unfold cols colN; rw [ints_len]
        have := kp.b4; have := kq.b4; omega
      have hD1L : D1 ≠ L := Ne.symm (Nat.ne_of_lt (Nat.lt_of_lt_of_le F9.ns.lt s10))
      refine comp_ge e F11 r0 (by kernel_rfl!) (by walk_at "lk") (list_at pl10.isList fun o q => by walk_at "kd") (is10.sq (sq_same F10.ns S11)) hcl fun D2 h12 _ zs X12 pl12 _ is12 => ?_
      have F12 := F11.keeps X12
      repeat (first | (with_reducible refine r_nei ?_) | walk_at "m")
      rename_i a13 h13 X13 pl13 _ _ F13 _
      refine r_eqd r0 (is_lst (list_at pl12.isList (X13 _)) (is12.sq X13.sq)) (is_lst pl13.isList .nil) (shaped_map _ (colD_ok _ _)) (shaped_list nofun) ?_
      rw [eqv_nil, List.isEmpty_map]
      repeat (first | (with_reducible refine r_nei ?_) | walk_at "m")
      rename_i h14 tk14 F14 S14
      refine comp_ne e F14 r0 (by kernel_rfl!) (by walk_at "lk") (list_at pl10.isList fun o q => by walk_at "kd") ((((is10.sq (sq_same F10.ns S11)).sq X12.sq).sq X13.sq).sq (sq_same F13.ns S14)) hcl fun D3 h15 _ zs3 X15 pl15 _ is15 => ?_
      have F15 := F14.keeps X15
      repeat (first | (with_reducible refine r_nei ?_) | walk_at "m")
      rename_i a16 h16 X16 pl16 _ _ F16 _
      refine r_eqd r0 (is_lst (list_at pl15.isList (X16 _)) (is15.sq X16.sq)) (is_lst pl16.isList .nil) (shaped_map _ (colD_ok _ _)) (shaped_list nofun) ?_
      rw [eqv_nil, List.isEmpty_map]
      repeat (first | (with_reducible refine r_nei ?_) | walk_at "m")
      rename_i h17 tk17 F17 S17
      refine r_litem (list_at hl (F17.keep _)) bi (by rw [ei]; exact hvi) rfl ?_
      repeat (first | (with_reducible refine r_nei ?_) | walk_at "m")
      refine r_litem (list_at hl (F17.keep _)) bj (by rw [ej]; exact hvj) rfl ?_
      repeat (first | (with_reducible refine r_nei ?_) | walk_at "m")
      refine f_way (g.keeps F17.keep) (r'.less (by omega)) (isi.sq (Ext.sq F17.keep)) (isj.sq (Ext.sq F17.keep)) kp kq fun _ h18 _ X18 => ?_
      have F18 := F17.keeps X18
      repeat (first | (with_reducible refine r_nei ?_) | walk_at "m")
      rename_i h19 tk19 F19 S19
      have q19 : ∀ o, h9.get? D = some o → h19.get? D = some o := fun o q => by walk_at "kd"
      refine x_append (D := D) (h₀ := h) e F19 (by kernel_rfl!) (by walk_at "lk") (by kernel_rfl!) ⟨vs, pv.at q19⟩ ⟨hDL, D0⟩ (not_inter e) (by rfl) (by rfl) (by rfl) (by rfl) ?_
      repeat (first | (with_reducible refine r_nei ?_) | walk_at "m")
      rename_i u h20 X20 tu su F20
      have sq19 : Sq h9 h19 := ((((((X10.sq.trans (sq_same F10.ns S11)).trans X12.sq).trans X13.sq).trans (sq_same F13.ns S14)).trans X15.sq).trans X16.sq).trans ((sq_same F16.ns S17).trans (X18.sq.trans (sq_same F18.ns S19)))
      have p20 : h20.PlainList D vs.toArray := (pv.at q19).at (X20 _)
      refine ⟨h20, _, _, vs, rfl, F20, p20, by omega, fun h21 F21 p21 S21 => ?_⟩
      refine x_nil ?_
      obtain ⟨kk, q20⟩ := p20
      have tq21 : Tq h20 h21 := tq_list q20 rfl S21
      refine ⟨_, _, _, rfl, F21, ⟨by walk_at "lk", by walk_at "lk", by walk_at "lk", by walk_at "lk", vs ++ [.ref u], p21, by rw [List.length_append, List.length_singleton]; omega, ?_⟩, fun b' o hb q => ?_⟩
      · rw [List.range_succ, List.map_append, ← List.append_assoc]
        refine Iss.append (((iv.sq sq19).sq X20.sq).tq tq21 (noLs_app _ _ (noLs_grid (fun _ _ => rfl) _ _) (noLs_map _ (fun _ => rfl)))) (.cons (Is.tq tq21 rfl (is_tup tu ?_)) .nil)
        rw [show (c + 5 * (i : Int) + 3 * j) = c + 5 * (0 + (i : Int)) + 3 * (0 + (j : Int)) by omega]
        exact .cons (.int _ _) (.cons (.bool _) (.cons (.bool _) .nil))
      · have h1 : b' ≠ L := fun z => hb (z ▸ .head _)
        have h2 : b' ≠ D := fun z => hb (z ▸ .tail _ (.head _))
        refine S21.extBut b' o h2 ?_
        walk_at "kd"
    · rintro h9 m9 tk9 F9 ⟨i1, i2, i3, i4, vs, pv, lv, iv⟩ O9
      show wpAny _ _ _ _ _ _
      repeat (first | (with_reducible refine r_nei ?_) | walk_at "m")
      refine ⟨_, _, _, rfl, F9, ⟨i1, i2, i3, vs, pv, by omega, by rw [grid_succ]; exact iv⟩, fun b' o hb q => O9 b' o hb (X8 _ _ q)⟩
  · rintro h7 m7 tk7 F7 ⟨j1, j2, j3, us, pu, lu, iu⟩ O7
    show wpAny _ _ _ _ _ _
    repeat (first | (with_reducible refine r_nei ?_) | walk_at "m")
    exact ⟨_, _, rfl, F7.keep, is_lst pu.isList iu⟩
end
end

section
theorem mem_cols {p q : Row} (kp : RowOk p) (kq : RowOk q) {s : Int} : s ∈ cols p q ↔ 1 ≤ s ∧ s ≤ max p.b q.b + 1 := by
  have p3 := kp.b0; have q3 := kq.b0
  unfold cols iRange
  rw [List.mem_map]
  constructor
  · rintro ⟨i, hi, rfl⟩
    have := List.mem_range.mp hi
    unfold colN at this
    omega
  · rintro ⟨h1, h2⟩
    exact ⟨(s - 1).toNat, List.mem_range.mpr (by unfold colN; omega), by omega⟩
theorem none_cols {p q : Row} (kp : RowOk p) (kq : RowOk q) {f : Int → Bool} : ((cols p q).filter f).isEmpty = true ↔ ∀ s, 1 ≤ s → s ≤ max p.b q.b + 1 → f s = false := by
  rw [List.isEmpty_iff, List.filter_eq_nil_iff]
  constructor
  · intro h s h1 h2
    simpa using h s ((mem_cols kp kq).mpr ⟨h1, h2⟩)
  · intro h s hs
    have := (mem_cols kp kq).mp hs
    simpa using h s this.1 this.2
theorem less_cols {p q : Row} (kp : RowOk p) (kq : RowOk q) : lessOf p.t.toNat p.b.toNat q.t.toNat q.b.toNat = ((cols p q).filter (geC p q)).isEmpty := by
  have p1 := kp.t0; have p3 := kp.b0
  have q1 := kq.t0; have q3 := kq.b0
  rw [Bool.eq_iff_iff, none_cols kp kq]
  have t1 := Int.toNat_of_nonneg p1
  have t2 := Int.toNat_of_nonneg p3
  have t3 := Int.toNat_of_nonneg q1
  have t4 := Int.toNat_of_nonneg q3
  unfold lessOf geC
  generalize p.t.toNat = T at t1 ⊢
  generalize p.b.toNat = B at t2 ⊢
  generalize q.t.toNat = T' at t3 ⊢
  generalize q.b.toNat = B' at t4 ⊢
  constructor
  · intro h s h1 h2
    split at h
    · cases h
    · have h := of_decide_eq_true h
      refine decide_eq_false ?_
      have := Int.mul_le_mul_of_nonneg_right (a := 1) (b := s) (c := q.t - p.t) h1 (by omega)
      rw [Int.mul_sub, Int.mul_sub] at this
      omega
  · intro h
    have e1 := of_decide_eq_false (h 1 (by omega) (by omega))
    have e2 := of_decide_eq_false (h (max p.b q.b + 1) (by omega) (by omega))
    rw [if_neg (by omega)]
    refine decide_eq_true ?_
    apply Classical.byContradiction
    intro hc
    have := Int.mul_le_mul_of_nonneg_left (a := 1) (b := p.t - q.t) (c := max p.b q.b + 1) (by omega) (by omega)
    rw [Int.mul_sub] at this
    omega
theorem eq_cols {p q : Row} (kp : RowOk p) (kq : RowOk q) : decide (p.t.toNat = q.t.toNat ∧ p.b.toNat = q.b.toNat) = ((cols p q).filter (neC p q)).isEmpty := by
  have p1 := kp.t0; have p3 := kp.b0
  have q1 := kq.t0; have q3 := kq.b0
  rw [Bool.eq_iff_iff, none_cols kp kq, decide_eq_true_eq]
  unfold neC
  constructor
  · intro h s h1 h2
    refine decide_eq_false ?_
    have e1 : p.t = q.t := by rw [← Int.toNat_of_nonneg p1, h.1, Int.toNat_of_nonneg q1]
    have e2 : p.b = q.b := by rw [← Int.toNat_of_nonneg p3, h.2, Int.toNat_of_nonneg q3]
    rw [e1, e2]; exact fun z => z rfl
  · intro h
    have hp := Int.le_max_left p.b q.b
    have hq := Int.le_max_right p.b q.b
    generalize max p.b q.b = M at h hp hq
    have e1 := Decidable.not_not.mp (of_decide_eq_false (h 1 (by omega) (by omega)))
    have key : p.t = q.t ∧ p.b = q.b := by
      by_cases hm : M = 0
      · omega
      · have e2 := Decidable.not_not.mp (of_decide_eq_false (h 2 (by omega) (by omega)))
        omega
    rw [key.1, key.2]; exact ⟨rfl, rfl⟩
theorem col_n {p q : Row} (kp : RowOk p) (kq : RowOk q) : max p.b.toNat q.b.toNat + 1 = colN p q := by
  obtain ⟨B, hB⟩ := Int.eq_ofNat_of_zero_le kp.b0
  obtain ⟨B', hB'⟩ := Int.eq_ofNat_of_zero_le kq.b0
  unfold colN
  rw [hB, hB', Int.toNat_natCast, Int.toNat_natCast]
  omega
theorem wit_ne {p q : Row} (kp : RowOk p) (kq : RowOk q) : ((iRange 1 (max p.b.toNat q.b.toNat + 1)).filter (neP p.t.toNat p.b.toNat q.t.toNat q.b.toNat)).map (colW p.t.toNat p.b.toNat q.t.toNat q.b.toNat) = ((cols p q).filter (neC p q)).map (colD p q) := by
  have p1 := kp.t0; have p3 := kp.b0
  have q1 := kq.t0; have q3 := kq.b0
  have e0 := col_n kp kq
  have e1 : ((p.t.toNat : Nat) : Int) = p.t := Int.toNat_of_nonneg p1
  have e2 : ((p.b.toNat : Nat) : Int) = p.b := Int.toNat_of_nonneg p3
  have e3 : ((q.t.toNat : Nat) : Int) = q.t := Int.toNat_of_nonneg q1
  have e4 : ((q.b.toNat : Nat) : Int) = q.b := Int.toNat_of_nonneg q3
  have f1 : neP p.t.toNat p.b.toNat q.t.toNat q.b.toNat = neC p q := by funext s; unfold neP neC; rw [e1, e2, e3, e4]
  have f2 : colW p.t.toNat p.b.toNat q.t.toNat q.b.toNat = colD p q := by funext s; unfold colW colD; rw [e1, e2, e3, e4]
  rw [f1, f2, e0]; rfl
theorem wit_ge {p q : Row} (kp : RowOk p) (kq : RowOk q) : ((iRange 1 (max p.b.toNat q.b.toNat + 1)).filter (geP p.t.toNat p.b.toNat q.t.toNat q.b.toNat)).map (colW p.t.toNat p.b.toNat q.t.toNat q.b.toNat) = ((cols p q).filter (geC p q)).map (colD p q) := by
  have p1 := kp.t0; have p3 := kp.b0
  have q1 := kq.t0; have q3 := kq.b0
  have e0 := col_n kp kq
  have e1 : ((p.t.toNat : Nat) : Int) = p.t := Int.toNat_of_nonneg p1
  have e2 : ((p.b.toNat : Nat) : Int) = p.b := Int.toNat_of_nonneg p3
  have e3 : ((q.t.toNat : Nat) : Int) = q.t := Int.toNat_of_nonneg q1
  have e4 : ((q.b.toNat : Nat) : Int) = q.b := Int.toNat_of_nonneg q3
  have f1 : geP p.t.toNat p.b.toNat q.t.toNat q.b.toNat = geC p q := by funext s; unfold geP geC; rw [e1, e2, e3, e4]
  have f2 : colW p.t.toNat p.b.toNat q.t.toNat q.b.toNat = colD p q := by funext s; unfold colW colD; rw [e1, e2, e3, e4]
  rw [f1, f2, e0]; rfl
def leadOf (r : Row) : List Nat := leadL r.t.toNat r.b.toNat
def wsNat (r : Row) : Nat × Nat := (r.t.toNat, r.b.toNat)
theorem told_is {rs : List Row} (kr : ∀ p ∈ rs, RowOk p) (c : Int) {i j : Nat} (hi : i < rs.length) (hj : j < rs.length) :
    toldD rs c i j = .tuple [.int (levOf (leadOf (rowAt rs i)) (leadOf (rowAt rs j)) ((c + 5 * i + 3 * j).fmod 11 - 1)), .bool (lessOf (rowAt rs i).t.toNat (rowAt rs i).b.toNat (rowAt rs j).t.toNat (rowAt rs j).b.toNat), .bool (decide ((rowAt rs i).t.toNat = (rowAt rs j).t.toNat ∧ (rowAt rs i).b.toNat = (rowAt rs j).b.toNat))] := by
  have kp := kr _ (rowAt_mem hi)
  have kq := kr _ (rowAt_mem hj)
  unfold toldD leadOf
  rw [lev_way kp kq, less_cols kp kq, eq_cols kp kq]
end

section
/-- the Whitespaces of the rows, in order -/
def Spaces (rs : List Row) (h : Heap) (sv : List Value) : Prop := sv.length = rs.length ∧ ∀ i, i < rs.length → ∃ v lo, sv[i]? = some v ∧ Ws (rowAt rs i).t.toNat (rowAt rs i).b.toNat lo h v
theorem Spaces.ext {rs : List Row} {h h' : Heap} {sv : List Value} (x : Spaces rs h sv) (k : Ext h h') : Spaces rs h' sv :=
  ⟨x.1, fun i hi => by obtain ⟨v, lo, a, b⟩ := x.2 i hi; exact ⟨v, lo, a, b.ext k⟩⟩
theorem ws_inv {T B lo : Nat} {h : Heap} {v : Value} (x : Ws T B lo h v) : ∃ a dx f, v = .ref a ∧ Ob 5 h a dx f ∧ WsF h f T B := by
  obtain ⟨a, dx, f, rfl, _, _, o, f1⟩ := x
  exact ⟨a, dx, f, rfl, o, f1⟩
theorem lead_len {r : Row} (k : RowOk r) : (leadOf r).length ≤ 8 := by
  have := k.t4; have := k.b4
  unfold leadOf leadL; simp; omega
section
variable {prog : Program} {w : World} {mg mb : Str → Option Value} {A : Around} {E : Value → Shared → Prop} {gs : Array GenState} {dr : Drawn} {tk : Nat} {os : OsState} {h : Heap}
theorem f_asked {rs : List Row} {c : Int} {vl : Value} {sp : Addr} {sv : List Value} {tc : Tok} {Q : Value → Shared → Prop} (g : G w mg mb h) (r : Room 8 A) (hr : Is h vl (.list (rs.map fun p => .str (S (leadOf p))))) (hsl : h.IsList sp sv.toArray) (hsp : Spaces rs h sv) (kr : ∀ p ∈ rs, RowOk p) (hn : rs.length ≤ 10)
    (hQ : ∀ v h' tk', Ext h h' → Is h' v (.list (grid (toldD rs c) rs.length rs.length)) → Q v ⟨h', gs, dr, tk', os⟩) : wpAny (model prog w) A (call (.ref 187) [vl, .ref sp, .int c tc]) Q E ⟨h, gs, dr, tk, os⟩ := by
  obtain ⟨R, rv, rfl, hl, hi⟩ := hr.lst_inv
  have hlen : rv.length = rs.length := by rw [hi.length, List.length_map]
  have row_at : ∀ i, i < rs.length → ∃ t, rv[i]? = some (.str (S (leadOf (rowAt rs i))) t) := fun i hlt => by
    obtain ⟨v, h1, h2⟩ := hi.get i (d := .str (S (leadOf (rowAt rs i)))) (by rw [List.getElem?_map, rowAt_get hlt]; rfl)
    cases h2; exact ⟨_, h1⟩
  refine enter (P := fun v h' => Is h' v (.list (grid (toldD rs c) rs.length rs.length))) (binds := [(Str.ofString "leads", .ref R), (Str.ofString "spaces", .ref sp), (Str.ofString "total", .int c tc)]) g r
    (by show (Mine.hd.heap_39 w.params).lookup 187 = _; k_is) (by kernel_rfl) rfl rfl rfl rfl (by rfl) (by rfl) (by rfl) rfl rfl rfl ?_ hQ
  intro A' env L h₁ tk₁ r' e F g₁ x₁
  dsimp only at e
  generalize hm : (fun z => List.lookup z ([(Str.ofString "leads", Value.ref R), (Str.ofString "spaces", .ref sp), (Str.ofString "total", .int c tc)].reverse)) = m at F
  have m1 : m (Str.ofString "leads") = some (.ref R) := by rw [← hm]; rfl
  have m2 : m (Str.ofString "total") = some (.int c tc) := by rw [← hm]; rfl
  have m3 : m (Str.ofString "spaces") = some (.ref sp) := by rw [← hm]; rfl
  clear hm
  have r0 := r'.less (Nat.zero_le _)
  repeat walk_at "m"
  rename_i D hD XD plD nD sD FD lD h5 tk5 F5 S5
  have hDL : D ≠ L := Ne.symm (Nat.ne_of_lt (Nat.lt_of_lt_of_le (Fr.ns (by assumption)).lt sD))
  have D0 : h.get? D = none := new_none (by assumption) nD
  have pl5 : h5.PlainList D [].toArray := plD.at fun o q => by walk_at "kd"
  refine x_for (fun _ => rfl) ?_
  repeat walk_at "m"
  refine r_llen (list_at hl (F5.keep _)) (by omega) fun _ _ => ?_
  rw [hlen]
  repeat walk_at "m"
  rename_i rg h6 _ _ _ _ X6 hrg F6
  have pl6 : h6.PlainList D [].toArray := pl5.at (X6 _)
  refine for_range2 (X := [L, D]) (fun i h' m => m (Str.ofString "leads") = some (.ref R) ∧ m (Str.ofString "spaces") = some (.ref sp) ∧ m (Str.ofString "total") = some (.int c tc) ∧ m (Str.ofString "asked") = some (.ref D) ∧ ∃ us : List Value, h'.PlainList D us.toArray ∧ us.length ≤ 10 * i ∧ Iss h' us (grid (toldD rs c) rs.length i)) rs.length (by omega) hrg (by omega) r0 e (by kernel_rfl!) (.head _) ?_ F6 ?_ ?_ ?_ ?_
  · intro z hz
    rcases List.mem_cons.mp hz with rfl | hz
    · exact F6.ns.lt
    · rw [List.mem_singleton.mp hz]
      obtain ⟨k, q⟩ := pl6
      exact Heap.lt_size q
  · intro h' X'
    exact ⟨by walk_at "lk", by walk_at "lk", by walk_at "lk", by walk_at "lk", [], pl6.at (X' _), Nat.zero_le _, .nil⟩
  · rintro I i ha hb m₁ hI tq ⟨j1, j2, j3, j4, us, pu, lu, iu⟩ O
    refine ⟨j1, j2, j3, j4, us, pu.at (fun o z => O D o (fun hm => ?_) z), lu, iu.tq tq (noLs_grid (fun _ _ => rfl) _ _)⟩
    rcases List.mem_cons.mp hm with z | z
    · exact hDL z
    · obtain ⟨k, q⟩ := pl6
      have hlt := Heap.lt_size q
      rw [List.mem_singleton.mp z] at hlt
      exact absurd hlt (Nat.not_lt.mpr hI)
  · rintro i t7 h7 m7 tk7 hi7 ⟨j1, j2, j3, j4, us, pu, lu, iu⟩ O7 F7
    clear m1 m2 m3
    refine x_for (fun _ => rfl) ?_
    repeat walk_at "m"
    refine r_llen (list_at hl (F7.keep _)) (by omega) fun _ _ => ?_
    rw [hlen]
    repeat walk_at "m"
    rename_i rg2 h8 _ _ _ _ X8 hrg2 F8
    have pl8 : h8.PlainList D us.toArray := pu.at (X8 _)
    refine for_range2 (X := [L, D]) (fun j h' m => m (Str.ofString "leads") = some (.ref R) ∧ m (Str.ofString "spaces") = some (.ref sp) ∧ m (Str.ofString "total") = some (.int c tc) ∧ m (Str.ofString "asked") = some (.ref D) ∧ m (Str.ofString "i") = some (.int (0 + i) t7) ∧ ∃ us : List Value, h'.PlainList D us.toArray ∧ us.length ≤ 10 * i + j ∧ Iss h' us (grid (toldD rs c) rs.length i ++ (List.range j).map (toldD rs c i))) rs.length (by omega) hrg2 (by omega) r0 e (by kernel_rfl!) (.head _) ?_ F8 ?_ ?_ ?_ ?_
    · intro z hz
      rcases List.mem_cons.mp hz with rfl | hz
      · exact F8.ns.lt
      · rw [List.mem_singleton.mp hz]
        obtain ⟨k, q⟩ := pl8
        exact Heap.lt_size q
    · intro h' X'
      exact ⟨by walk_at "lk", by walk_at "lk", by walk_at "lk", by walk_at "lk", by walk_at "lk", us, pl8.at (X' _), lu, by rw [List.range_zero, List.map_nil, List.append_nil]; exact (iu.sq X8.sq).sq X'.sq⟩
    · rintro I j ha hb m₁ hI tq ⟨j1, j2, j3, j4, j5, us', pu', lu', iu'⟩ O
      refine ⟨j1, j2, j3, j4, j5, us', pu'.at (fun o z => O D o (fun hm => ?_) z), lu', iu'.tq tq (noLs_app _ _ (noLs_grid (fun _ _ => rfl) _ _) (noLs_map _ (fun _ => rfl)))⟩
      rcases List.mem_cons.mp hm with z | z
      · exact hDL z
      · obtain ⟨k, q⟩ := pl8
        have hlt := Heap.lt_size q
        rw [List.mem_singleton.mp z] at hlt
        exact absurd hlt (Nat.not_lt.mpr hI)
    · rintro j t9 h9 m9 tk9 hj9 ⟨i1, i2, i3, i4, i5, vs, pv, lv, iv⟩ O9 F9
      clear j1 j2 j3 j4
      have kp := kr _ (rowAt_mem hi7)
      have kq := kr _ (rowAt_mem hj9)
      obtain ⟨ti, hvi⟩ := row_at i hi7
      obtain ⟨tj, hvj⟩ := row_at j hj9
      have ei : (0 + (i : Int)).toNat = i := by rw [Int.zero_add]; rfl
      have bi : 0 ≤ (0 : Int) + i ∧ 0 + (i : Int) < 100000 := by omega
      have ej : (0 + (j : Int)).toNat = j := by rw [Int.zero_add]; rfl
      have bj : 0 ≤ (0 : Int) + j ∧ 0 + (j : Int) < 100000 := by omega
      obtain ⟨vi, loi, si, wi⟩ := hsp.2 i hi7
      obtain ⟨vj, loj, sj, wj⟩ := hsp.2 j hj9
      have p2 := kp.t4; have p4 := kp.b4; have q2 := kq.t4; have q4 := kq.b4
      repeat walk_at "m"
      refine r_litem (list_at hl (F9.keep _)) bi (by rw [ei]; exact hvi) rfl ?_
      repeat walk_at "m"
      refine r_litem (list_at hl (F9.keep _)) bj (by rw [ej]; exact hvj) rfl ?_
      repeat walk_at "m"
      refine f_lev (g.keeps F9.keep) (r'.less (by omega)) (by have := lead_len kp; omega) (by have := lead_len kq; omega) (lev_case (by omega) (by omega) (by omega) (by omega)) fun _ h10 _ X10 => ?_
      have F10 := F9.keeps X10
      repeat walk_at "m"
      rename_i h11 tk11 F11 S11
      have q11 : ∀ o, h9.get? D = some o → h11.get? D = some o := fun o q => by walk_at "kd"
      have sq11 : Sq h9 h11 := X10.sq.trans (sq_same F10.ns S11)
      obtain ⟨ai, di, fi, rfl, obi, wfi⟩ := ws_inv wi
      obtain ⟨aj, dj, fj, rfl, obj, wfj⟩ := ws_inv wj
      have n1 := wfi.m3
      have n2 := wfi.m4
      refine x_append (D := D) (h₀ := h) e F11 (by kernel_rfl!) (by walk_at "lk") (by kernel_rfl!) ⟨vs, pv.at q11⟩ ⟨hDL, D0⟩ (not_inter e) (by rfl) (by rfl) (by rfl) (by rfl) ?_
      repeat walk_at "m"
      refine r_litem (list_at hsl (F11.keep _)) bi (by rw [ei]; exact si) rfl ?_
      repeat walk_at "m"
      refine r_litem (list_at hsl (F11.keep _)) bj (by rw [ej]; exact sj) rfl ?_
      repeat walk_at "m"
      refine f_less (g.keeps F11.keep) (r'.less (by omega)) (wi.ext F11.keep) (wj.ext F11.keep) fun h12 _ X12 => ?_
      have F12 := F11.keeps X12
      repeat walk_at "m"
      refine r_litem (list_at hsl (F12.keep _)) bi (by rw [ei]; exact si) rfl ?_
      repeat walk_at "m"
      refine r_litem (list_at hsl (F12.keep _)) bj (by rw [ej]; exact sj) rfl ?_
      repeat walk_at "m"
      refine f_equal (g.keeps F12.keep) (r'.less (by omega)) (wi.ext F12.keep) (wj.ext F12.keep) fun h13 _ X13 => ?_
      have F13 := F12.keeps X13
      repeat walk_at "m"
      rename_i u h20 X20 tu su F20
      have p20 : h20.PlainList D vs.toArray := (((pv.at q11).at (X12 _)).at (X13 _)).at (X20 _)
      refine ⟨h20, _, _, vs, rfl, F20, p20, by omega, fun h21 F21 p21 S21 => ?_⟩
      refine x_nil ?_
      obtain ⟨kk, q20⟩ := p20
      have tq21 : Tq h20 h21 := tq_list q20 rfl S21
      refine ⟨_, _, _, rfl, F21, ⟨by walk_at "lk", by walk_at "lk", by walk_at "lk", by walk_at "lk", by walk_at "lk", vs ++ [.ref u], p21, by rw [List.length_append, List.length_singleton]; omega, ?_⟩, fun b' o hb q => ?_⟩
      · rw [List.range_succ, List.map_append, ← List.append_assoc]
        refine Iss.append (((((iv.sq sq11).sq X12.sq).sq X13.sq).sq X20.sq).tq tq21 (noLs_app _ _ (noLs_grid (fun _ _ => rfl) _ _) (noLs_map _ (fun _ => rfl)))) (.cons (Is.tq tq21 rfl ?_) .nil)
        rw [told_is kr c hi7 hj9]
        refine is_tup tu ?_
        rw [show (c + 5 * (i : Int) + 3 * j) = c + 5 * (0 + (i : Int)) + 3 * (0 + (j : Int)) by omega]
        exact .cons (.int _ _) (.cons (.bool _) (.cons (.bool _) .nil))
      · have h1 : b' ≠ L := fun z => hb (z ▸ .head _)
        have h2 : b' ≠ D := fun z => hb (z ▸ .tail _ (.head _))
        refine S21.extBut b' o h2 ?_
        walk_at "kd"
    · rintro h9 m9 tk9 F9 ⟨i1, i2, i3, i4, i5, vs, pv, lv, iv⟩ O9
      show wpAny _ _ _ _ _ _
      repeat walk_at "m"
      refine ⟨_, _, _, rfl, F9, ⟨i1, i2, i3, i4, vs, pv, by omega, by rw [grid_succ]; exact iv⟩, fun b' o hb q => O9 b' o hb (X8 _ _ q)⟩
  · rintro h7 m7 tk7 F7 ⟨j1, j2, j3, j4, us, pu, lu, iu⟩ O7
    show wpAny _ _ _ _ _ _
    repeat walk_at "m"
    exact ⟨_, _, rfl, F7.keep, is_lst pu.isList iu⟩
end
end

section
theorem eqv_same {d : PyData} (h : SeqAt.shaped d = true) : PyData.eqv d d = true := by
  unfold SeqAt.shaped at h
  rw [Bool.and_eq_true] at h
  exact SeqAt.eqv_refl d h.1
section
variable {prog : Program} {w : World} {mg mb : Str → Option Value} {A : Around} {E : Value → Shared → Prop} {gs : Array GenState} {dr : Drawn} {tk : Nat} {os : OsState} {h : Heap}
theorem r_nes {a b : Value} {d : PyData} {Q : Value → Shared → Prop} (r : Room 0 A) (ha : Is h a d) (hb : Is h b d) (sd : SeqAt.shaped d = true) (hQ : Q (.bool false) ⟨h, gs, dr, tk, os⟩) :
    wpAny (model prog w) A (compareOp .NotEq a b) Q E ⟨h, gs, dr, tk, os⟩ := r_ned r ha hb sd sd (by rw [eqv_same sd]; exact hQ)
theorem f_right {rs : List Row} {vr : Value} {sp : Addr} {sv : List Value} {Q : Value → Shared → Prop} (g : G w mg mb h) (r : Room 8 A) (hr : Is h vr (.list (rs.map rowD))) (hsl : h.IsList sp sv.toArray) (hsp : Spaces rs h sv) (kr : ∀ p ∈ rs, RowOk p) (hn : rs.length ≤ 10)
    (hQ : ∀ h' tk', Ext h h' → Q (.bool true) ⟨h', gs, dr, tk', os⟩) : wpAny (model prog w) A (call (.ref 192) [vr, .ref sp]) Q E ⟨h, gs, dr, tk, os⟩ := by
  obtain ⟨R, rv, rfl, hl, hi⟩ := hr.lst_inv
  have hlen : rv.length = rs.length := by rw [hi.length, List.length_map]
  have row_at : ∀ i, i < rs.length → ∃ v, rv[i]? = some v ∧ Is h v (rowD (rowAt rs i)) := fun i hlt => hi.get i (by rw [List.getElem?_map, rowAt_get hlt]; rfl)
  refine enter (P := fun v h' => v = .bool true) (binds := [(Str.ofString "rows", .ref R), (Str.ofString "spaces", .ref sp)]) g r
    (by show (Mine.hd.heap_39 w.params).lookup 192 = _; k_is) (by kernel_rfl) rfl rfl rfl rfl (by rfl) (by rfl) (by rfl) rfl rfl rfl ?_ ?_
  · intro A' env L h₁ tk₁ r' e F g₁ x₁
    dsimp only at e
    generalize hm : (fun z => List.lookup z ([(Str.ofString "rows", Value.ref R), (Str.ofString "spaces", .ref sp)].reverse)) = m at F
    have m1 : m (Str.ofString "rows") = some (.ref R) := by rw [← hm]; rfl
    have m3 : m (Str.ofString "spaces") = some (.ref sp) := by rw [← hm]; rfl
    clear hm
    have r0 := r'.less (Nat.zero_le _)
    refine x_for (fun _ => rfl) ?_
    repeat (first | (with_reducible refine r_bool ?_) | walk_at "m")
    refine r_llen (list_at hl (F.keep _)) (by omega) fun _ _ => ?_
    rw [hlen]
    repeat (first | (with_reducible refine r_bool ?_) | walk_at "m")
    rename_i rg h6 _ _ _ _ X6 hrg F6
    refine for_range2 (X := [L]) (fun i h' m => m (Str.ofString "rows") = some (.ref R) ∧ m (Str.ofString "spaces") = some (.ref sp)) rs.length (by omega) hrg (by omega) r0 e (by kernel_rfl!) (.head _) ?_ F6 ?_ ?_ ?_ ?_
    · intro z hz
      rw [List.mem_singleton.mp hz]; exact F6.ns.lt
    · intro h' X'
      exact ⟨m1, m3⟩
    · rintro I i ha hb m₁ hI tq J O
      exact J
    · rintro i t7 h7 m7 tk7 hi7 ⟨j1, j2⟩ O7 F7
      clear m1 m3
      repeat (first | (with_reducible refine r_bool ?_) | walk_at "m")
      refine r_llen (list_at hl (F7.keep _)) (by omega) fun _ _ => ?_
      rw [hlen]
      repeat (first | (with_reducible refine r_bool ?_) | walk_at "m")
      rename_i h8 tk8 F8 S8
      have n0 : (0 : Int) < (rs.length : Int) := by omega
      have fj := fm (0 + (i : Int) + 1) n0
      obtain ⟨j, hj⟩ : ∃ j : Nat, (0 + (i : Int) + 1).fmod (rs.length : Int) = (j : Int) := ⟨((0 + (i : Int) + 1).fmod (rs.length : Int)).toNat, by omega⟩
      rw [hj] at F8 fj
      have hj9 : j < rs.length := by omega
      have kp := kr _ (rowAt_mem hi7)
      have kq := kr _ (rowAt_mem hj9)
      obtain ⟨vi, hvi, isi⟩ := row_at i hi7
      obtain ⟨vj, hvj, isj⟩ := row_at j hj9
      have ei : (0 + (i : Int)).toNat = i := by rw [Int.zero_add]; rfl
      have bi : 0 ≤ (0 : Int) + i ∧ 0 + (i : Int) < 100000 := by omega
      have ej : ((j : Int)).toNat = j := rfl
      have bj : 0 ≤ (j : Int) ∧ (j : Int) < 100000 := by omega
      obtain ⟨wvi, loi, si, wi⟩ := hsp.2 i hi7
      obtain ⟨wvj, loj, sj, wj⟩ := hsp.2 j hj9
      obtain ⟨ai, di, fi, rfl, obi, wfi⟩ := ws_inv wi
      obtain ⟨aj, dj, fj', rfl, obj, wfj⟩ := ws_inv wj
      have n1 := wfi.m5
      have n2 := wfi.m6
      have p2 := kp.t4; have p4 := kp.b4; have q2 := kq.t4; have q4 := kq.b4
      refine r_litem (list_at hl (F8.keep _)) bi (by rw [ei]; exact hvi) rfl ?_
      repeat (first | (with_reducible refine r_bool ?_) | walk_at "m")
      refine r_litem (list_at hl (F8.keep _)) bj (by rw [ej]; exact hvj) rfl ?_
      repeat (first | (with_reducible refine r_bool ?_) | walk_at "m")
      refine f_columns (g.keeps F8.keep) (r'.less (by omega)) (isi.sq (Ext.sq F8.keep)) (isj.sq (Ext.sq F8.keep)) kp kq fun D1 h10 _ ys X10 s10 pl10 is10 => ?_
      have F10 := F8.keeps X10
      have hD1L : D1 ≠ L := Ne.symm (Nat.ne_of_lt (Nat.lt_of_lt_of_le F8.ns.lt s10))
      have hcl : (cols (rowAt rs i) (rowAt rs j)).length ≤ 1000 := by
        unfold cols colN; rw [ints_len]; omega
      repeat (first | (with_reducible refine r_bool ?_) | walk_at "m")
      rename_i h11 tk11 F11 S11
      have l11 : h11.IsList D1 ys.toArray := list_at pl10.isList fun o q => by walk_at "kd"
      have is11 := is10.sq (sq_same F10.ns S11)
      refine r_litem (list_at hsl (F11.keep _)) bi (by rw [ei]; exact si) rfl ?_
      repeat (first | (with_reducible refine r_bool ?_) | walk_at "m")
      refine r_litem (list_at hsl (F11.keep _)) bj (by rw [ej]; exact sj) rfl ?_
      repeat (first | (with_reducible refine r_bool ?_) | walk_at "m")
      refine f_wit128 (g.keeps F11.keep) (r'.less (by omega)) (wi.ext F11.keep) (wj.ext F11.keep) (by omega) (by omega) (by omega) (by omega) fun D2 h12 _ zs X12 s12 pl12 is12 => ?_
      rw [wit_ge kp kq] at is12
      have F12 := F11.keeps X12
      repeat (first | (with_reducible refine r_bool ?_) | walk_at "m")
      refine comp_ge e F12 r0 (by kernel_rfl!) (by walk_at "lk") (list_at l11 (X12 _)) (is11.sq X12.sq) hcl fun D3 h13 _ zs3 X13 pl13 _ is13 => ?_
      have F13 := F12.keeps X13
      refine r_nes r0 (is_lst (list_at pl12.isList (X13 _)) (is12.sq X13.sq)) (is_lst pl13.isList is13) (shaped_map _ (colD_ok _ _)) ?_
      repeat (first | (with_reducible refine r_bool ?_) | walk_at "m")
      refine r_iteb (fun z => absurd z (by decide)) fun _ => ?_
      repeat (first | (with_reducible refine r_bool ?_) | walk_at "m")
      refine r_litem (list_at hsl (F13.keep _)) bi (by rw [ei]; exact si) rfl ?_
      repeat (first | (with_reducible refine r_bool ?_) | walk_at "m")
      refine r_litem (list_at hsl (F13.keep _)) bj (by rw [ej]; exact sj) rfl ?_
      repeat (first | (with_reducible refine r_bool ?_) | walk_at "m")
      refine f_wit114 (g.keeps F13.keep) (r'.less (by omega)) (wi.ext F13.keep) (wj.ext F13.keep) (by omega) (by omega) (by omega) (by omega) fun D4 h14 _ zs4 X14 s14 pl14 is14 => ?_
      rw [wit_ne kp kq] at is14
      have F14 := F13.keeps X14
      repeat (first | (with_reducible refine r_bool ?_) | walk_at "m")
      refine comp_ne e F14 r0 (by kernel_rfl!) (by walk_at "lk") (list_at (list_at (list_at l11 (X12 _)) (X13 _)) (X14 _)) (((is11.sq X12.sq).sq X13.sq).sq X14.sq) hcl fun D5 h15 _ zs5 X15 pl15 _ is15 => ?_
      have F15 := F14.keeps X15
      refine r_nes r0 (is_lst (list_at pl14.isList (X15 _)) (is14.sq X15.sq)) (is_lst pl15.isList is15) (shaped_map _ (colD_ok _ _)) ?_
      repeat (first | (with_reducible refine r_bool ?_) | walk_at "m")
      refine r_iteb (fun z => absurd z (by decide)) fun _ => ?_
      repeat (first | (with_reducible refine r_bool ?_) | walk_at "m")
      refine ⟨_, _, _, rfl, F15, ⟨by walk_at "lk", by walk_at "lk"⟩, fun b' o hb q => ?_⟩
      have h1 : b' ≠ L := fun z => hb (z ▸ .head _)
      walk_at "kd"
    · rintro h7 m7 tk7 F7 ⟨j1, j2⟩ O7
      show wpAny _ _ _ _ _ _
      repeat (first | (with_reducible refine r_bool ?_) | walk_at "m")
      exact ⟨_, _, rfl, F7.keep, rfl⟩
  · rintro v h' tk' k rfl
    exact hQ h' tk' k
end
end

section
/-- a local that holds a datum -/
def Has (m : Str → Option Value) (h : Heap) (x : Str) (d : PyData) : Prop := ∃ v, m x = some v ∧ Is h v d
theorem Has.sq {m : Str → Option Value} {h h' : Heap} {x : Str} {d : PyData} (a : Has m h x d) (k : Sq h h') : Has m h' x d := by
  obtain ⟨v, e, i⟩ := a; exact ⟨v, e, i.sq k⟩
theorem Has.upd {m : Str → Option Value} {h : Heap} {x y : Str} {d : PyData} {u : Value} (a : Has m h x d) (hn : decide (x = y) = false) : Has (upd m y u) h x d := by
  obtain ⟨v, e, i⟩ := a; exact ⟨v, upd_ne hn e, i⟩
theorem Has.new {m : Str → Option Value} {h : Heap} {x : Str} {d : PyData} {u : Value} (i : Is h u d) : Has (Mine.upd m x u) h x d := ⟨u, upd_eq, i⟩
/-- what steps of the frame leave alone: all but the frame and its one cell -/
structure Kp (L lo : Nat) (h h' : Heap) : Prop where
  off : Off [L, L + 1] h h'
  sq : Sq h h'
  mi : Mild lo h h'
theorem Kp.trans {L lo : Nat} {a b c : Heap} (x : Kp L lo a b) (y : Kp L lo b c) : Kp L lo a c :=
  ⟨x.off.trans y.off, x.sq.trans y.sq, fun p o e hp => y.mi p o (x.mi p o e hp) hp⟩
theorem Kp.refl (L lo : Nat) (h : Heap) : Kp L lo h h := ⟨Off.refl _ _, fun _ _ _ _ e _ => e, fun _ _ e _ => e⟩
theorem Ext.kp {L lo : Nat} {h h' : Heap} (x : Ext h h') : Kp L lo h h' := ⟨x.off, x.sq, x.mild⟩
theorem kp_same {L lo : Nat} {h h' : Heap} {m : Str → Option Value} (hn : h.Ns L m) (hs : Heap.SameBut L h h') (hlo : L < lo) : Kp L lo h h' :=
  ⟨same_off hs (.head _), sq_same hn hs, mild_C hn hs hlo⟩
theorem kp_off {L lo : Nat} {h h' : Heap} {m : Str → Option Value} (hn : h.Ns L m) (hs : Off [L] h h') (hlo : L < lo) : Kp L lo h h' := by
  have key : ∀ b o, h.get? b = some o → (∃ xs n, o.data = .seq xs n) ∨ lo ≤ b → h'.get? b = some o := fun b o e hb => hs b o (fun hm => by
    rw [List.mem_singleton.mp hm] at e hb
    rcases hb with ⟨xs, n, hb⟩ | hb
    · obtain ⟨o', es, ep, a1, a2, _⟩ := hn
      rw [a1] at e; cases e; rw [a2] at hb; cases hb
    · exact absurd hlo (Nat.not_lt.mpr hb)) e
  refine ⟨hs.more fun p hp => by rw [List.mem_singleton.mp hp]; exact .head _, fun b o xs n e e' => key b o e (.inl ⟨xs, n, e'⟩), fun b o e hb => key b o e ?_⟩
  rcases hb with hb | ⟨_, xs, n, hb⟩
  · exact .inr hb
  · exact .inl ⟨xs, n, hb⟩
theorem kp_cell {L lo : Nat} {h h' : Heap} {v : Option Value} (hc : h.IsCell (L + 1) v) (hs : Heap.SameBut (L + 1) h h') (hlo : L + 1 < lo) : Kp L lo h h' := by
  have key : ∀ b o, h.get? b = some o → (∃ xs n, o.data = .seq xs n) ∨ lo ≤ b → h'.get? b = some o := fun b o e hb => hs.extBut b o (fun hm => by
    rw [hm] at e hb
    rcases hb with ⟨xs, n, hb⟩ | hb
    · obtain ⟨o', a1, a2⟩ := hc
      rw [a1] at e; cases e; rw [a2] at hb; cases hb
    · exact absurd hlo (Nat.not_lt.mpr hb)) e
  refine ⟨fun b o hb e => hs.extBut b o (fun z => hb (z ▸ .tail _ (.head _))) e, fun b o xs n e e' => key b o e (.inl ⟨xs, n, e'⟩), fun b o e hb => key b o e ?_⟩
  rcases hb with hb | ⟨_, xs, n, hb⟩
  · exact .inr hb
  · exact .inl ⟨xs, n, hb⟩
theorem iss_ints {h : Heap} : ∀ {vs : List Value} {ns : List Int}, IntsAre vs ns → Iss h vs (ns.map .int)
  | _, _, .nil => .nil
  | _, _, .cons _ _ r => .cons (.int _ _) (iss_ints r)
theorem ints_iss {h : Heap} : ∀ {ns : List Int} {vs : List Value}, Iss h vs (ns.map .int) → IntsAre vs ns
  | [], _, x => by cases x; exact .nil
  | n :: ns, _, x => by
    cases x with
    | cons a b => cases a; exact .cons _ _ (ints_iss b)
theorem strs_iss {h : Heap} : ∀ {ls : List (List Nat)} {vs : List Value}, Iss h vs (ls.map fun l => .str (S l)) → StrsAre vs (ls.map S)
  | [], _, x => by cases x; exact .nil
  | n :: ns, _, x => by
    cases x with
    | cons a b => cases a; exact .cons _ _ (strs_iss b)
theorem iss_values {h : Heap} : ∀ {l : List (Str × Tok)} {ls : List (List Nat)}, l.map (·.1) = ls.map S → Iss h (strValues l) (ls.map fun l => .str (S l))
  | [], [], _ => .nil
  | (x, t) :: l, a :: ls, e => by
    have e1 : x = S a := (List.cons.inj e).1
    subst e1
    exact .cons (.str _ _) (iss_values (List.cons.inj e).2)
  | [], _ :: _, e => by cases e
  | _ :: _, [], e => by cases e
theorem join_S : ∀ l : List (List Nat), Txt.join (S []) (l.map S) = S l.flatten := by
  have key : ∀ l : List (List Nat), Str.join (S []) (l.map S) = S l.flatten := by
    intro l
    induction l with
    | nil => rfl
    | cons a l ih =>
      cases l with
      | nil => show S a = _; simp
      | cons b r =>
        show S a ++ S [] ++ Str.join (S []) ((b :: r).map S) = _
        rw [ih]
        refine S_eq ?_
        rw [Str.cps_append, Array.toList_append, Str.cps_append, Array.toList_append]
        show (a ++ []) ++ (b :: r).flatten = _
        rw [List.append_nil]; rfl
  intro l
  show Builtin.Str.glued _ _ = _
  rw [StrLaws.glued_eq_join]
  exact key l

section
variable {prog : Program} {w : World} {mg mb : Str → Option Value} {A : Around} {E : Value → Shared → Prop} {gs : Array GenState} {dr : Drawn} {tk : Nat} {os : OsState} {h₀ h : Heap} {L : Addr} {m : Str → Option Value} {env : Env} {ks : List (Str × NameKind)} {cl : List (Str × Addr)}

theorem r_neg {a : Int} {t : Tok} {Q : Value → Shared → Prop} (hQ : ∀ t' tk', Q (.int (-a) t') ⟨h, gs, dr, tk', os⟩) : wpAny (model prog w) A (unaryOp .USub (.int a t)) Q E ⟨h, gs, dr, tk, os⟩ := P.neg_int (hQ _ _)
def LCut (Q : Value → Shared → Prop) (gs : Array GenState) (dr : Drawn) (os : OsState) (o vu : Value) (s : Shared) : Prop :=
  ∃ l vs h₂ tk₂ k t, o = .ref l ∧ vu = .int k t ∧ s = ⟨h₂, gs, dr, tk₂, os⟩ ∧ h₂.IsList l (vs : List Value).toArray ∧ vs.length ≤ 10000 ∧
    ∀ D h', Ext h₂ h' → h₂.objs.size ≤ D → h'.PlainList D (slicePick vs.toArray none (some k) none) → Q (.ref D) ⟨h', gs, dr, tk₂, os⟩
theorem r_lcut {value e : Expr} {p pos : Pos} {Q : Value → Shared → Prop} {s : Shared}
    (hQ : wpAny (model prog w) A (eval value env) (fun o s₁ => wpAny (model prog w) A (eval e env) (fun vu s₂ => LCut Q gs dr os o vu s₂) E s₁) E s) :
    wpAny (model prog w) A (eval (.Subscript value (.Slice none (some e) none p) pos) env) Q E s := by
  refine Subscript_ (wpAny_mono hQ (fun o s₁ h₁ => wpAny_Slice (e_none (e_some (wpAny_mono h₁ (fun vu s₂ h₂ => e_none ?_) fun _ _ e => e)))) fun _ _ e => e)
  obtain ⟨l, vs, h₂, tk₂, k, t, rfl, rfl, rfl, hl, hn, hq⟩ := h₂
  refine kba_turn (value' := .Name (Str.ofString "x") ⟨0, 0, 0, 0⟩) (fun _ => rfl) ?_
  dsimp only
  refine subscriptTail_ops (Heap.IsList.typeIs (s := ⟨h₂.push { cls := .type "slice", data := .fields #[.none, .int k t, .none] }, gs, dr, tk₂, os⟩) (hl.push _)) list_getitem_lookup
    (wpAny_getItem_list_slice (hl.push _) (Heap.IsSliceOf.new ..) .none (.int k t) .none (by simp) ?_ (by rw [List.size_toArray]; show _ ≤ 2 ^ 24; omega)) (by rfl) (fun _ => rfl)
  refine hq _ _ (fun b o e => Heap.get?_push_of_some _ (Heap.get?_push_of_some _ e)) ?_ ⟨_, Heap.get?_push_size _ rfl⟩
  show _ ≤ (h₂.push _).objs.size
  rw [Heap.size_push]; exact Nat.le_succ _
theorem c_cls1 {pos : Pos} {e₁ : Expr} {Q : Value → Shared → Prop} (_F : Fr h₀ L h m) (g : G w mg mb h₀) (hs : starEach [e₁] env = [(false, eval e₁ env)])
    (hQ : wpAny (model prog w) A (eval e₁ env) (fun v₁ s₁ => FnGo h₀ L s₁ (wpAny (model prog w) A (call (.ref 131) [v₁]) Q E s₁)) E ⟨h, gs, dr, tk, os⟩) :
    wpAny (model prog w) A (callWith pos (.ref 131) [] (backTo pos (starEach [e₁] env)) []) Q E ⟨h, gs, dr, tk, os⟩ := by
  refine callWith_K (K := Mine.hd.heap_39 w.params) (h₀ := h₀) g.X (by kernel_rfl) ?_ (by rw [hs]; rfl) (by rfl)
  rw [hs]
  refine Calls.spliced_cons (wpAny_mono hQ (fun _ _ h₁ => Calls.spliced_nil ?_) fun _ _ e => e)
  obtain ⟨⟨m, F⟩, hX⟩ := h₁
  exact ⟨g.X.keeps F.keep, hX⟩
theorem c_bm1 {pos : Pos} {id : String} {v : Value} {e₁ : Expr} {Q : Value → Shared → Prop} {s : Shared} (hs : starEach [e₁] env = [(false, eval e₁ env)])
    (hQ : wpAny (model prog w) A (eval e₁ env) (fun v₁ s₁ => wpAny (model prog w) A (call (.builtin id) [v, v₁]) Q E s₁) E s) :
    wpAny (model prog w) A (callWith pos (.builtin id) [v] (backTo pos (starEach [e₁] env)) []) Q E s := by
  rw [hs]
  exact Calls.callWith_builtin rfl (Calls.evalArgs_plain (Calls.spliced_cons (wpAny_mono hQ (fun _ _ h₁ => Calls.spliced_nil h₁) fun _ _ e => e)))
theorem r_join {D : Addr} {vs : List Value} {ls : List (List Nat)} {t : Tok} {Q : Value → Shared → Prop} (hl : h.IsList D vs.toArray) (hi : Iss h vs (ls.map fun l => .str (S l))) (hw : ls.flatten.length + ls.length ≤ 100000)
    (hQ : ∀ t' tk', Q (.str (S ls.flatten) t') ⟨h, gs, dr, tk', os⟩) : wpAny (model prog w) A (call (.builtin "str.join") [.str (S []) t, .ref D]) Q E ⟨h, gs, dr, tk, os⟩ := by
  refine join_listW hl (strs_iss hi) (by decide) ?_ fun t' k => ?_
  · have : ((ls.map S).map (·.length)) = ls.map List.length := by rw [List.map_map]; exact List.map_congr_left fun a _ => S_len a
    rw [this, List.length_map, ← List.length_flatten]; omega
  · rw [join_S]; exact hQ t' k
theorem r_split {ds : List (List Nat)} {t u : Tok} {Q : Value → Shared → Prop} (hd : ∀ d ∈ ds, 13 ∉ d) (hne : ds ≠ []) (hsz : (flat ds).length ≤ 10000) (hsz2 : ds.length ≤ 1000)
    (hQ : ∀ D h' tk' vs, Ext h h' → h'.IsList D (vs : List Value).toArray → Iss h' vs ((ds ++ [[]]).map fun l => .str (S l)) → Q (.ref D) ⟨h', gs, dr, tk', os⟩) : wpAny (model prog w) A (call (.builtin "str.split") [.str (S (flat ds)) t, .str (S [13, 10]) u]) Q E ⟨h, gs, dr, tk, os⟩ := by
  refine SCH.split1 (P := fun h' => Ext h h') (fun h' ob x b o e => Heap.get?_push_of_some _ (x b o e)) (Ext.refl h) (by decide) (fun D l h' k e x hl => ?_) (by rw [S_len]; show _ ≤ 2 ^ 24; omega) ?_
  · rw [split_flat ds hd hne] at e
    exact hQ D h' k (strValues l) x hl (iss_values (by rw [e]; simp))
  · rw [parts_flat ds hd]; simp; show _ ≤ 2 ^ 24; omega
theorem r_sum {D : Addr} {vs : List Value} {ns : List Int} {Q : Value → Shared → Prop} (r : Room 0 A) (hl : h.IsList D vs.toArray) (hi : Iss h vs (ns.map .int))
    (hQ : ∀ t' h' tk', Ext h h' → Q (.int ns.sum t') ⟨h', gs, dr, tk', os⟩) : wpAny (model prog w) A (call (.builtin "sum") [.ref D]) Q E ⟨h, gs, dr, tk, os⟩ := by
  have hia := ints_iss hi
  obtain ⟨xs, hx⟩ := hia.allInts.items
  refine sum_intListG (xs := xs) r.hd (by rw [← hx]; exact hl) fun h' tk' t' hk => ?_
  have e1 : xs.toList.map (·.1) = ns := by rw [← nums_intItems, ← hx]; exact hia.numsOf
  have e2 : preSum (numAt xs) xs.size = ns.sum := by rw [preSum_eq, List.take_of_length_le (by simp), e1]
  rw [e2]
  exact hQ t' h' tk' hk
theorem r_storeC {x : Str} {c : Addr} {v₀ : Option Value} {v : Value} {Q : Unit → Shared → Prop} (e : EnvIs env L ks cl) (F : Fr h₀ L h m) (hk : ks.lookup x = some .cell) (hc : cl.lookup x = some c) (hv : h.IsCell c v₀) (hcL : c ≠ L) (hc0 : h₀.get? c = none)
    (hQ : ∀ h', Fr h₀ L h' m → h'.IsCell c (some v) → Heap.SameBut c h h' → Q () ⟨h', gs, dr, tk, os⟩) : wpAny (model prog w) A (storeName env x v) Q E ⟨h, gs, dr, tk, os⟩ :=
  wpAny_storeName_cell e.kind (by show env.scope.names.lookup x = _; rw [e.names]; exact hk) (by rw [e.cells]; exact hc) hv fun h' hi hs =>
    hQ h' ⟨F.ns.extBut hs.extBut (Ne.symm hcL), fun b o q => hs.extBut b o (by rintro rfl; rw [hc0] at q; cases q) (F.keep b o q), F.above⟩ hi hs
theorem enterC_code {f : Addr} {oc : Value} {od : Option Addr} {osl : Array (Option Value)} {fd : FuncData} {body : List Stmt} {args : List Value} {binds : List (Str × Value)} {n : Nat} {R : Result → Shared → Prop}
    (g : G w mg mb h) (r : Room (n + 1) A) (hl : (KK w.params).lookup f = some ⟨oc, od, .func fd, osl⟩) (hcd : codeIn (KK w.params) fd.code fd.qualname = true) (hbody : fd.body = .stmts body)
    (hglob : fd.globals = mainGlobals) (hbui : fd.builtins = builtinsNs) (hclo : fd.closure = [])
    (hbind : bindArgs fd ⟨args, []⟩ = pure binds) (hkind : (binds.all fun x => fd.scope.names.lookup x.1 == some .local || (fd.scope.names.lookup x.1 == some .cell && ((cellsFrom 0 fd.scope.names []).lookup x.1).isSome)) = true)
    (hco : fd.scope.isCoroutine = false) (hgen : fd.scope.isGenerator = false) (hk : fd.scope.kind = .function)
    (body_ : ∀ (A' : Around) env L h₁ tk₁, Room n A' → EnvIs env L fd.scope.names (cellsFrom (L + 1) fd.scope.names []) → Fr h L h₁ (bindL (fun x => fd.scope.names.lookup x) binds fun _ => none) → (∀ x c, (cellsFrom (L + 1) fd.scope.names []).lookup x = some c → h₁.IsCell c (bindC (fun x => fd.scope.names.lookup x) binds (fun _ => none) x)) → G w mg mb h₁ → Ext h h₁ →
      wpAny (model prog w) A' (execs body env) (fun fl s' => R (.ok (.ret (match fl with | .ret v => v | _ => .none))) s') NoE ⟨h₁, gs, dr, tk₁, os⟩) :
    codeAny (model prog w) A (.call (.ref f) ⟨args, []⟩) R ⟨h, gs, dr, tk, os⟩ := by
  refine codeAny_call_cells (fd := fd) (body := body) (binds := binds) r.room (g.X _ _ hl) rfl g.lim (codeRec_of g.X hcd) hbody hbind hclo (fun x hx => ?_) (fun s₁ ic => ?_) hco hgen hk
  · have := List.all_eq_true.mp hkind x hx
    rw [Bool.or_eq_true, Bool.and_eq_true] at this
    rcases this with z | ⟨z1, z2⟩
    · exact .inl (eq_of_beq z)
    · exact .inr ⟨eq_of_beq z1, cells_some _ (fun _ z => z) z2⟩
  · obtain ⟨h₁, tk₁, rfl⟩ := ic.toInCall.same
    have F : Fr h h.objs.size h₁ _ := ⟨ic.toInCall.ns, ic.toInCall.keep, Nat.le_refl _⟩
    exact wpAny_noRaise (body_ _ (callEnvC fd h.objs.size f) h.objs.size h₁ _ r.deeper ⟨hk, rfl, hglob, hbui, rfl, rfl⟩ F (fun x c hx => ic.cell x c hx) (g.keeps ic.toInCall.keep) ic.toInCall.keep)

/-- the law's own body and names -/
def LawFn (w : World) (b : List Stmt) (ks : List (Str × NameKind)) : Prop := ∃ oc od osl fd, (Mine.hd.heap_39 w.params).lookup 197 = some ⟨oc, od, .func fd, osl⟩ ∧ fd.body = .stmts b ∧ fd.scope.names = ks
theorem law_eq {b b' : List Stmt} {ks ks' : List (Str × NameKind)} {oc : Value} {od : Option Addr} {osl : Array (Option Value)} {fd : FuncData} (hb : LawFn w b ks) (hl : (Mine.hd.heap_39 w.params).lookup 197 = some ⟨oc, od, .func fd, osl⟩) (hf : fd.body = .stmts b') (hk : fd.scope.names = ks') : b = b' ∧ ks = ks' := by
  obtain ⟨oc', od', osl', fd', e1, e2, e3⟩ := hb
  rw [hl] at e1
  cases e1
  rw [hf] at e2
  cases e2
  exact ⟨rfl, e3.symm.trans hk⟩
end
end

section
theorem swaps_yes {env : Env} {L : Addr} {ks : List (Str × NameKind)} {cl : List (Str × Addr)} {elt : Expr} {gens : List Comprehension} {scope : Scope} {pos py : Pos} {y : Str} {ln : Nat} (e : EnvIs env L ks cl) (hy : ks.lookup y = some .local)
    (hl : (py.line == pos.line) = true) (hn : (scope.names.any fun x => x.1 == y && (x.2 == .local || x.2 == .cell)) = false) : swapsWith (.ListComp elt gens scope pos) (some (.Name y py)) ln env = pure true := by
  have h1 : env.kindOf y = some .local := by show env.scope.names.lookup y = _; rw [e.names]; exact hy
  have h2 : env.blockKind = .function := by unfold Env.blockKind; rw [e.kind]; rfl
  unfold swapsWith
  dsimp only
  rw [h1, h2]
  show pure ((_ && _ && (py.line == pos.line) && !(scope.names.any fun x => x.1 == y && (x.2 == .local || x.2 == .cell))) : Bool) = _
  rw [hl, hn]
  rfl
/-- the Whitespaces of the rows, all from lo on -/
def SpacesL (lo : Nat) (rs : List Row) (h : Heap) (sv : List Value) : Prop := Paired (fun (r : Row) v => Ws r.t.toNat r.b.toNat lo h v) rs sv
theorem SpacesL.mild {lo : Nat} {rs : List Row} {h h' : Heap} {sv : List Value} (x : SpacesL lo rs h sv) (k : Mild lo h h') : SpacesL lo rs h' sv := paired_mono (fun _ _ a => a.mild k) x
theorem SpacesL.spaces {lo : Nat} {rs : List Row} {h : Heap} {sv : List Value} (x : SpacesL lo rs h sv) : Spaces rs h sv := by
  refine ⟨x.length.symm, fun i hi => ?_⟩
  have hlt : i < sv.length := by rw [← x.length]; exact hi
  obtain ⟨a, ha, hw⟩ := paired_get x i sv[i] (List.getElem?_eq_getElem hlt)
  rw [rowAt_get hi] at ha
  cases ha
  exact ⟨_, lo, List.getElem?_eq_getElem hlt, hw⟩
theorem list_sq {h h' : Heap} {l : Addr} {xs : Array Value} (k : Sq h h') (x : h.IsList l xs) : h'.IsList l xs := by
  obtain ⟨o, a, b, n, c⟩ := x
  exact ⟨o, k _ _ _ _ a c, b, n, c⟩
end

section
def digitsOf (ns : List Int) : List Int := (ns.take 3).map (fun x => x.fmod 1000) ++ [101, 10, 200]
section
variable {prog : Program} {w : World} {mg mb : Str → Option Value} {A : Around} {gs : Array GenState} {dr : Drawn} {tk : Nat} {os : OsState} {h h₁ : Heap} {L : Addr} {m : Str → Option Value} {env : Env} {ks : List (Str × NameKind)} {b : List Stmt} {Q : Flow → Shared → Prop}
theorem law_c0 {l : Addr} {vs : List Value} {ns : List Int} (hb : LawFn w b ks) (g : G w mg mb h) (r : Room 8 A) (e : EnvIs env L ks [(Str.ofString "total", L + 1)]) (F : Fr h L h₁ m) (hm : m (Str.ofString "script") = some (.ref l)) (hl : h.IsList l vs.toArray) (hi : IntsAre vs ns) (hn : ns.length ≤ 63)
    (K : ∀ h₂ tk₂ m₂, Fr h L h₂ m₂ → Off [L] h₁ h₂ → Has m₂ h₂ (Str.ofString "digits") (.list ((digitsOf ns).map .int)) → Has m₂ h₂ (Str.ofString "rows") (.list (((digitsOf ns).map rowOf).map rowD)) → wpAny (model prog w) A (execs (b.drop 2) env) Q NoE ⟨h₂, gs, dr, tk₂, os⟩) :
    wpAny (model prog w) A (execs (b.drop 0) env) Q NoE ⟨h₁, gs, dr, tk, os⟩ := by
  have E := law_eq hb (by show (Mine.hd.heap_39 w.params).lookup 197 = _; k_is) rfl rfl
  obtain ⟨rfl, rfl⟩ := E
  simp only [List.drop_succ_cons, List.drop_zero] at K ⊢
  have r0 := r.less (Nat.zero_le _)
  have g1 := g.keeps F.keep
  repeat walk_at "m"
  have hvl : vs.length ≤ 63 := by
    have := (iss_ints (h := h) hi).length
    rw [List.length_map] at this; omega
  refine cv_list (gs := gs) (dr := dr) (os := os) (ns.take 3) (fun _ => true) (fun x _ h y => Is h y (.int (x.fmod 1000))) r0 e (fun _ => rfl) (clos_of e (by rfl)) (by rfl) rfl (by rfl) (by rfl) (moves_is fun _ => rfl) ?_
  refine r_lcut (gs := gs) (dr := dr) (os := os) ?_
  repeat walk_at "m"
  refine ⟨l, vs, h₁, _, 3, _, rfl, rfl, rfl, list_at hl (F.keep _), by omega, fun D h2 X2 s2 pl2 => ?_⟩
  have es : slicePick vs.toArray none (some 3) none = (vs.take 3).toArray := slicePick_upto' vs.toArray 3
  rw [es] at pl2
  refine ⟨D, vs.take 3, h2, _, _, rfl, rfl, pl2.isList, by rw [List.length_take]; omega, iss_paired (f := PyData.int) (iss_ints (h := h2) (hi.take 3)), ?_, ?_⟩
  · rintro C x h₃ m₃ tk₃ hx ⟨v, hv, hm⟩ F₃ e₃
    obtain ⟨t, rfl⟩ := hv.int_inv
    refine ⟨tests_none ⟨_, _, rfl, Ext.refl _⟩, fun _ => ?_⟩
    repeat walk_at "m"
    exact ⟨_, _, rfl, Ext.refl _, .int _ _⟩
  intro D2 h3 tk3 lo ys hD2 X3 pl3 hlo pr
  rw [filter_all] at pr
  have i3 := paired_iss pr
  have F3 := (F.keeps X2).keeps X3
  have l3 : ys.length ≤ 3 := by rw [i3.length, List.length_map, List.length_take]; omega
  repeat walk_at "m"
  rename_i D4 h4 X4 pl4 _ _ F4 _
  refine r_ladd (list_at pl3.isList (X4 _)) pl4.isList (by simp; omega) fun D5 h5 X5 s5 pl5 => ?_
  have F5 := F4.keeps X5
  have is5 : Is h5 (.ref D5) (.list ((digitsOf ns).map .int)) := is_lst pl5.isList (by
    unfold digitsOf
    rw [List.map_append, List.map_map]
    exact Iss.append ((i3.sq X4.sq).sq X5.sq) (.cons (.int _ _) (.cons (.int _ _) (.cons (.int _ _) .nil))))
  have hlo5 : ∀ d ∈ digitsOf ns, 0 ≤ d ∧ d < 1000 := by
    intro d hd
    unfold digitsOf at hd
    rcases List.mem_append.mp hd with hd | hd
    · obtain ⟨x, _, rfl⟩ := List.mem_map.mp hd
      exact fm x (by decide)
    · simp at hd; omega
  have hdl : (digitsOf ns).length ≤ 6 := by unfold digitsOf; simp; omega
  walk_at "m"
  rename_i h6 tk6 F6 S6
  have is6 := is5.sq (sq_same F5.ns S6)
  have g6 := g.keeps F6.keep
  obtain ⟨D6, dv, e6, l6, i6⟩ := is6.lst_inv
  cases e6
  have hdv : dv.length ≤ 1000 := by rw [i6.length, List.length_map]; omega
  refine ca_list (h₀ := h) (gs := gs) (dr := dr) (os := os) (digitsOf ns) (fun _ => true) (fun d _ h y => Is h y (rowD (rowOf d))) r0 e (swaps_yes e (by kernel_rfl!) (by rfl) (by rfl)) (by kernel_rfl!) (fun _ => rfl) (clos_of e (by rfl)) (by rfl) rfl (by rfl) (by rfl) (moves_is fun _ => rfl) ?_
  repeat walk_at "m"
  refine ⟨D5, dv, h6, _, _, _, rfl, rfl, F6, l6, hdv, iss_paired (f := PyData.int) i6, ?_, ?_⟩
  · rintro C d h₃ m₃ tk₃ hd ⟨v, hv, hm⟩ F₃ e₃
    obtain ⟨t, rfl⟩ := hv.int_inv
    refine ⟨tests_none ⟨_, _, rfl, Ext.refl _⟩, fun _ => ?_⟩
    repeat walk_at "m"
    refine f_row (g6.keeps F₃.keep) (r.less (by omega)) (hlo5 d hd) fun v h₄ _ X₄ iv => ?_
    exact ⟨_, _, rfl, X₄, iv⟩
  intro D7 h7 tk7 lo7 ys7 hD7 F7 O7 pl7 hlo7 pr7
  rw [filter_all] at pr7
  refine K h7 tk7 _ F7 ?_ ?_ ?_
  · exact ((X2.off.trans (X3.off.trans (X4.off.trans X5.off))).same S6 (.head _)).trans O7
  · exact (Has.upd (Has.new is6) (by decide +kernel)).sq (kp_off (lo := L + 1) F6.ns O7 (Nat.lt_succ_self _)).sq
  · exact Has.new (is_lst pl7.isList (by rw [List.map_map]; exact paired_iss pr7))
end
end

local macro_rules | `(tactic| walk_at "m") => `(tactic| first
  | (with_reducible refine GM.join ?_)
  | (with_reducible refine GM.split ?_)
  | ((with_reducible refine' c_bm1 ?k1 ?_); (case k1 => rfl))
  | fail "m")
section
section
variable {prog : Program} {w : World} {mg mb : Str → Option Value} {A : Around} {gs : Array GenState} {dr : Drawn} {tk : Nat} {os : OsState} {h h₁ : Heap} {L : Addr} {m : Str → Option Value} {env : Env} {ks : List (Str × NameKind)} {b : List Stmt} {Q : Flow → Shared → Prop}
theorem law_c2 {rs : List Row} (hb : LawFn w b ks) (g : G w mg mb h) (r : Room 8 A) (e : EnvIs env L ks [(Str.ofString "total", L + 1)]) (F : Fr h L h₁ m) (kr : ∀ p ∈ rs, RowOk p) (hn : rs.length ≤ 10)
    (hr : Has m h₁ (Str.ofString "rows") (.list (rs.map rowD)))
    (K : ∀ h₂ tk₂ u v, Fr h L h₂ (upd (upd m (Str.ofString "mail") u) (Str.ofString "written") v) → Off [L] h₁ h₂ → Is h₂ u (.str (S (mailL rs))) → Is h₂ v (.list (rs.map fun p => .str (S (writtenL p)))) → wpAny (model prog w) A (execs (b.drop 4) env) Q NoE ⟨h₂, gs, dr, tk₂, os⟩) :
    wpAny (model prog w) A (execs (b.drop 2) env) Q NoE ⟨h₁, gs, dr, tk, os⟩ := by
  have E := law_eq hb (by show (Mine.hd.heap_39 w.params).lookup 197 = _; k_is) rfl rfl
  obtain ⟨rfl, rfl⟩ := E
  simp only [List.drop_succ_cons, List.drop_zero] at K ⊢
  have r0 := r.less (Nat.zero_le _)
  have g1 := g.keeps F.keep
  obtain ⟨vr, hvr, ir⟩ := hr
  obtain ⟨R, rv, rfl, hl, hi⟩ := ir.lst_inv
  have hlen : rv.length = rs.length := by rw [hi.length, List.length_map]
  repeat walk_at "m"
  have lens : ∀ p ∈ rs, (writtenL p).length ≤ 10 ∧ p.e.length ≤ 2 := fun p hp => ⟨written_len (kr p hp), by rcases (kr p hp).he with z | z | z <;> rw [z] <;> decide⟩
  refine cv_list (gs := gs) (dr := dr) (os := os) rs (fun _ => true) (fun p _ h y => Is h y (.str (S (writtenL p ++ p.e)))) r0 e (fun _ => rfl) (clos_of e (by rfl)) (by rfl) rfl (by rfl) (by rfl) (moves_is fun _ => rfl) ?_
  repeat walk_at "m"
  refine ⟨R, rv, h₁, _, _, rfl, rfl, list_at hl (fun _ q => q), by omega, iss_paired hi, ?_, ?_⟩
  · rintro C p h₃ m₃ tk₃ hp ⟨v, hv, hm⟩ F₃ e₃
    obtain ⟨a, t0, t1, t2, t3, rfl, ht⟩ := row_inv hv
    refine ⟨tests_none ⟨_, _, rfl, Ext.refl _⟩, fun _ => ?_⟩
    have ln := lens p hp
    repeat walk_at "m"
    refine f_written (g1.keeps F₃.keep) (r.less (by omega)) (hv.sq (Ext.sq F₃.keep)) (kr p hp) fun _ h₄ _ X₄ => ?_
    have F₄ := F₃.keeps X₄
    repeat walk_at "m"
    exact ⟨_, _, rfl, X₄, .str _ _⟩
  intro D2 h3 tk3 lo ys hD2 X3 pl3 hlo pr
  rw [filter_all] at pr
  have i3 := paired_iss pr
  have F3 := F.keeps X3
  have hfl : ∀ l : List Row, (∀ p ∈ l, p ∈ rs) → ((l.map fun p => writtenL p ++ p.e).flatten).length ≤ 12 * l.length := by
    intro l
    induction l with
    | nil => intro _; exact Nat.zero_le _
    | cons p l ih =>
      intro hl
      have := ih fun q hq => hl q (.tail _ hq)
      have := lens p (hl p (.head _))
      rw [List.map_cons, List.flatten_cons, List.length_append, List.length_append, List.length_cons]
      omega
  have hw := hfl rs fun _ hp => hp
  refine r_join (ls := rs.map fun p => writtenL p ++ p.e) pl3.isList (by rw [List.map_map]; exact i3) (by rw [List.length_map]; omega) fun _ _ => ?_
  walk_at "m"
  rename_i h4 tk4 F4 S4
  have g4 := g.keeps F4.keep
  have hl4 := list_sq (X3.sq.trans (sq_same F3.ns S4)) hl
  have hi4 := (hi.sq X3.sq).sq (sq_same F3.ns S4)
  refine ca_list (h₀ := h) (gs := gs) (dr := dr) (os := os) rs (fun _ => true) (fun p _ h y => Is h y (.str (S (writtenL p)))) r0 e (swaps_yes e (by kernel_rfl!) (by rfl) (by rfl)) (by kernel_rfl!) (fun _ => rfl) (clos_of e (by rfl)) (by rfl) rfl (by rfl) (by rfl) (moves_is fun _ => rfl) ?_
  repeat walk_at "m"
  refine ⟨R, rv, h4, _, _, _, rfl, rfl, F4, hl4, by omega, iss_paired hi4, ?_, ?_⟩
  · rintro C p h₃ m₃ tk₃ hp ⟨v, hv, hm⟩ F₃ e₃
    refine ⟨tests_none ⟨_, _, rfl, Ext.refl _⟩, fun _ => ?_⟩
    repeat walk_at "m"
    refine f_written (g4.keeps F₃.keep) (r.less (by omega)) (hv.sq (Ext.sq F₃.keep)) (kr p hp) fun _ h₄ _ X₄ => ?_
    exact ⟨_, _, rfl, X₄, .str _ _⟩
  intro D7 h7 tk7 lo7 ys7 hD7 F7 O7 pl7 hlo7 pr7
  rw [filter_all] at pr7
  refine K h7 tk7 _ _ F7 ?_ (.str _ _) ?_
  · exact (X3.off.same S4 (.head _)).trans O7
  · exact is_lst pl7.isList (paired_iss pr7)
end
end

section
theorem len_flatten_le {ls : List (List Nat)} {k : Nat} (h : ∀ l ∈ ls, l.length ≤ k) : ls.flatten.length ≤ k * ls.length := by
  induction ls with
  | nil => exact Nat.zero_le _
  | cons a l ih =>
    have h1 := ih fun q hq => h q (.tail _ hq)
    have h2 := h a (.head _)
    rw [List.flatten_cons, List.length_append, List.length_cons, Nat.mul_succ]
    omega
theorem len_flat {ls : List (List Nat)} {k : Nat} (h : ∀ l ∈ ls, l.length ≤ k) : (flat ls).length ≤ (k + 2) * ls.length := by
  unfold flat
  have := len_flatten_le (ls := ls.map fun d => d ++ [13, 10]) (k := k + 2) (fun l hl => by
    obtain ⟨d, hd, rfl⟩ := List.mem_map.mp hl
    have := h d hd
    simp; omega)
  rwa [List.length_map] at this
section
variable {prog : Program} {w : World} {mg mb : Str → Option Value} {A : Around} {E : Value → Shared → Prop} {gs : Array GenState} {dr : Drawn} {tk : Nat} {os : OsState} {h h₁ : Heap} {L : Addr} {m : Str → Option Value} {env : Env} {ks : List (Str × NameKind)} {b : List Stmt}
theorem comp_crlf {h₀ : Heap} {cl : List (Str × Addr)} {D1 : Addr} {x : Str} {ls : List (List Nat)} {ys : List Value} {p1 p2 p3 p4 p5 p6 : Pos} {k1 : Nat} {Q : Value → Shared → Prop} (e : EnvIs env L ks cl) (F : Fr h₀ L h m) (r0 : Room 0 A)
    (hk : ks.lookup x = some .local) (hx : (x == ("__debug__" : Str)) = false) (hv : m x = some (.ref D1)) (hl : h.IsList D1 ys.toArray) (iss : Iss h ys (ls.map fun l => .str (S l))) (hlen : ls.length ≤ 1000) (hls : ∀ l ∈ ls, l.length ≤ 100)
    (hfs : ∀ z, foldedSetIterable (.Name x p3) env z = pure z)
    (hQ : ∀ D h' tk' (zs : List Value), Ext h h' → h'.PlainList D zs.toArray → Iss h' zs ((ls.map fun l => l ++ [13, 10]).map fun l => .str (S l)) → Q (.ref D) ⟨h', gs, dr, tk', os⟩) :
    wpAny (model prog w) A (eval (.ListComp (.BinOp (.Name (Str.ofString "text") p1) .Add (.Constant (.str (Str.ofString "\r\n")) k1 p4) p5) [⟨.Name (Str.ofString "text") p2, .Name x p3, [], 0⟩] { kind := .function, names := [(Str.ofString ".0", .local), (Str.ofString "text", .local)], isGenerator := false, isCoroutine := false } p6) env) Q E ⟨h, gs, dr, tk, os⟩ := by
  refine cv_list (gs := gs) (dr := dr) (os := os) ls (fun _ => true) (fun l _ h y => Is h y (.str (S (l ++ [13, 10])))) r0 e hfs (clos_of e (by rfl)) (by rfl) rfl (by rfl) (by rfl) (moves_is fun _ => rfl) ?_
  refine r_loc e F hk hv hx ?_
  have hyl : ys.length = ls.length := by rw [iss.length, List.length_map]
  refine ⟨D1, ys, h, _, _, rfl, rfl, hl, by omega, iss_paired iss, ?_, ?_⟩
  · rintro C l h₃ m₃ tk₃ hp ⟨v, hv3, hm⟩ F₃ e₃
    obtain ⟨t, rfl⟩ := hv3.str_inv
    have := hls l hp
    refine ⟨tests_none ⟨_, _, rfl, Ext.refl _⟩, fun _ => ?_⟩
    repeat (first | (with_reducible refine r_sne ?_) | walk_at "m")
    exact ⟨_, _, rfl, Ext.refl _, .str _ _⟩
  · intro D h' tk' lo zs hD x pl hlo pr
    rw [filter_all] at pr
    exact hQ D h' tk' zs x pl (by rw [List.map_map]; exact paired_iss pr)

theorem law_c4 {rs : List Row} {Q : Flow → Shared → Prop} (hb : LawFn w b ks) (g : G w mg mb h) (r : Room 8 A) (e : EnvIs env L ks [(Str.ofString "total", L + 1)]) (F : Fr h L h₁ m) (kr : ∀ p ∈ rs, RowOk p) (hn : rs.length ≤ 10)
    (hm : Has m h₁ (Str.ofString "mail") (.str (S (mailL rs)))) (hw : Has m h₁ (Str.ofString "written") (.list (rs.map fun p => .str (S (writtenL p))))) (hml : (mailL rs).length ≤ 1000)
    (K : ∀ h₂ tk₂, Fr h L h₂ m → Ext h₁ h₂ → wpAny (model prog w) A (execs (b.drop 5) env) Q NoE ⟨h₂, gs, dr, tk₂, os⟩) :
    wpAny (model prog w) A (execs (b.drop 4) env) Q NoE ⟨h₁, gs, dr, tk, os⟩ := by
  have E := law_eq hb (by show (Mine.hd.heap_39 w.params).lookup 197 = _; k_is) rfl rfl
  obtain ⟨rfl, rfl⟩ := E
  simp only [List.drop_succ_cons, List.drop_zero] at K ⊢
  have r0 := r.less (Nat.zero_le _)
  obtain ⟨vm, hvm, im⟩ := hm
  obtain ⟨tm, rfl⟩ := im.str_inv
  obtain ⟨vr, hvr, ir⟩ := hw
  obtain ⟨R, rv, rfl, hl, hi⟩ := ir.lst_inv
  repeat (first | (with_reducible refine r_sne ?_) | walk_at "m")
  refine f_fix (g.keeps F.keep) (r.less (by omega)) (by omega) fun _ h2 _ X2 => ?_
  have F2 := F.keeps X2
  repeat (first | (with_reducible refine r_sne ?_) | walk_at "m")
  have hls : ∀ l ∈ rs.map writtenL, l.length ≤ 10 := fun l hl => by
    obtain ⟨p, hp, rfl⟩ := List.mem_map.mp hl
    exact written_len (kr p hp)
  refine comp_crlf (ls := rs.map writtenL) e F2 r0 (by kernel_rfl!) (by kernel_rfl!) hvr (list_at hl (X2 _)) (by rw [List.map_map]; exact hi.sq X2.sq) (by rw [List.length_map]; omega) (fun l hl => by have := hls l hl; omega) (fun _ => rfl) fun D3 h3 _ zs X3 pl3 is3 => ?_
  have F3 := F2.keeps X3
  have hfl := len_flat hls
  rw [List.length_map] at hfl
  refine r_join pl3.isList is3 (by rw [List.length_map, List.length_map]; show (flat (rs.map writtenL)).length + _ ≤ _; omega) fun _ _ => ?_
  repeat (first | (with_reducible refine r_sne ?_) | walk_at "m")
  exact r_ite (fun q => absurd (fix_mail rs kr) q) fun _ => K h3 _ F3 (X2.trans X3)
end
end

section
theorem mail_len {rs : List Row} (kr : ∀ p ∈ rs, RowOk p) : (mailL rs).length ≤ 12 * rs.length := by
  unfold mailL
  have := len_flatten_le (ls := rs.map fun p => writtenL p ++ p.e) (k := 12) (fun l hl => by
    obtain ⟨p, hp, rfl⟩ := List.mem_map.mp hl
    have := written_len (kr p hp)
    have : p.e.length ≤ 2 := by rcases (kr p hp).he with z | z | z <;> rw [z] <;> decide
    rw [List.length_append]; omega)
  rwa [List.length_map] at this
section
variable {prog : Program} {w : World} {mg mb : Str → Option Value} {A : Around} {E : Value → Shared → Prop} {gs : Array GenState} {dr : Drawn} {tk : Nat} {os : OsState} {h h₁ : Heap} {L : Addr} {m : Str → Option Value} {env : Env} {ks : List (Str × NameKind)} {b : List Stmt}
theorem law_c5 {rs : List Row} {Q : Flow → Shared → Prop} (hb : LawFn w b ks) (g : G w mg mb h) (r : Room 8 A) (e : EnvIs env L ks [(Str.ofString "total", L + 1)]) (F : Fr h L h₁ m) (kr : ∀ p ∈ rs, RowOk p) (hn : rs.length ≤ 10)
    (hm : Has m h₁ (Str.ofString "mail") (.str (S (mailL rs)))) (hr : Has m h₁ (Str.ofString "rows") (.list (rs.map rowD)))
    (K : ∀ h₂ tk₂ u v, Fr h L h₂ (upd (upd m (Str.ofString "due") u) (Str.ofString "sent") v) → Off [L] h₁ h₂ → Is h₂ u (.list (rs.map fun p => .str (S (dueL p)))) → Is h₂ v (.str (S (flat (rs.map dueL)))) → wpAny (model prog w) A (execs (b.drop 7) env) Q NoE ⟨h₂, gs, dr, tk₂, os⟩) :
    wpAny (model prog w) A (execs (b.drop 5) env) Q NoE ⟨h₁, gs, dr, tk, os⟩ := by
  have E := law_eq hb (by show (Mine.hd.heap_39 w.params).lookup 197 = _; k_is) rfl rfl
  obtain ⟨rfl, rfl⟩ := E
  simp only [List.drop_succ_cons, List.drop_zero] at K ⊢
  have r0 := r.less (Nat.zero_le _)
  have g1 := g.keeps F.keep
  obtain ⟨vm, hvm, im⟩ := hm
  obtain ⟨tm, rfl⟩ := im.str_inv
  obtain ⟨vr, hvr, ir⟩ := hr
  obtain ⟨R, rv, rfl, hl, hi⟩ := ir.lst_inv
  have hlen : rv.length = rs.length := by rw [hi.length, List.length_map]
  refine ca_list (h₀ := h) (gs := gs) (dr := dr) (os := os) rs (fun _ => true) (fun p _ h y => Is h y (.str (S (dueL p)))) r0 e (swaps_yes e (by kernel_rfl!) (by rfl) (by rfl)) (by kernel_rfl!) (fun _ => rfl) (clos_of e (by rfl)) (by rfl) rfl (by rfl) (by rfl) (moves_is fun _ => rfl) ?_
  repeat (first | (with_reducible refine r_sne ?_) | walk_at "m")
  refine ⟨R, rv, h₁, _, _, _, rfl, rfl, F, hl, by omega, iss_paired hi, ?_, ?_⟩
  · rintro C p h₃ m₃ tk₃ hp ⟨v, hv, hm⟩ F₃ e₃
    have ln := written_len (kr p hp)
    refine ⟨tests_none ⟨_, _, rfl, Ext.refl _⟩, fun _ => ?_⟩
    repeat (first | (with_reducible refine r_sne ?_) | walk_at "m")
    refine f_hasdot (g1.keeps F₃.keep) (r.less (by omega)) (hv.sq (Ext.sq F₃.keep)) (kr p hp) fun h₄ _ X₄ => ?_
    have F₄ := F₃.keeps X₄
    repeat (first | (with_reducible refine r_sne ?_) | walk_at "m")
    refine r_iteb (fun q => ?_) fun q => ?_
    · repeat (first | (with_reducible refine r_sne ?_) | walk_at "m")
      refine f_written (g1.keeps F₄.keep) (r.less (by omega)) (hv.sq (Ext.sq F₄.keep)) (kr p hp) fun _ h₅ _ X₅ => ?_
      repeat (first | (with_reducible refine r_sne ?_) | walk_at "m")
      refine ⟨_, _, rfl, X₄.trans X₅, ?_⟩
      show Is h₅ _ (.str (S (dueL p)))
      rw [show dueL p = [46] ++ writtenL p by unfold dueL; simp [q]]
      exact .str _ _
    · repeat (first | (with_reducible refine r_sne ?_) | walk_at "m")
      refine f_written (g1.keeps F₄.keep) (r.less (by omega)) (hv.sq (Ext.sq F₄.keep)) (kr p hp) fun _ h₅ _ X₅ => ?_
      refine ⟨_, _, rfl, X₄.trans X₅, ?_⟩
      show Is h₅ _ (.str (S (dueL p)))
      rw [show dueL p = writtenL p by unfold dueL; rw [if_neg (by rw [q]; decide)]]
      exact .str _ _
  intro D7 h7 tk7 lo7 ys7 hD7 F7 O7 pl7 hlo7 pr7
  rw [filter_all] at pr7
  repeat (first | (with_reducible refine r_sne ?_) | walk_at "m")
  have ml := mail_len kr
  have hfx := fix_mail rs kr
  have hls : ∀ l ∈ rs.map writtenL, l.length ≤ 10 := fun l hl => by
    obtain ⟨p, hp, rfl⟩ := List.mem_map.mp hl
    exact written_len (kr p hp)
  have hfl := len_flat hls
  rw [List.length_map] at hfl
  refine f_quote (g.keeps F7.keep) (r.less (by omega)) (by omega) (by rw [hfx]; omega) fun _ h8 _ X8 => ?_
  rw [hfx, quo_flat rs kr]
  have F8 := F7.keeps X8
  (first | (with_reducible refine r_sne ?_) | walk_at "m")
  rename_i h9 tk9 F9 S9
  refine K h9 _ _ _ F9 ?_ ?_ (.str _ _)
  · exact (O7.trans X8.off).same S9 (.head _)
  · exact ((is_lst pl7.isList (paired_iss pr7)).sq X8.sq).sq (sq_same F8.ns S9)
theorem law_c7 {rs : List Row} {Q : Flow → Shared → Prop} (hb : LawFn w b ks) (r : Room 8 A) (e : EnvIs env L ks [(Str.ofString "total", L + 1)]) (g : G w mg mb h) (F : Fr h L h₁ m) (kr : ∀ p ∈ rs, RowOk p) (hn : rs.length ≤ 10)
    (hm : Has m h₁ (Str.ofString "sent") (.str (S (flat (rs.map dueL))))) (hw : Has m h₁ (Str.ofString "due") (.list (rs.map fun p => .str (S (dueL p)))))
    (K : ∀ h₂ tk₂, Fr h L h₂ m → Ext h₁ h₂ → wpAny (model prog w) A (execs (b.drop 8) env) Q NoE ⟨h₂, gs, dr, tk₂, os⟩) :
    wpAny (model prog w) A (execs (b.drop 7) env) Q NoE ⟨h₁, gs, dr, tk, os⟩ := by
  have E := law_eq hb (by show (Mine.hd.heap_39 w.params).lookup 197 = _; k_is) rfl rfl
  obtain ⟨rfl, rfl⟩ := E
  simp only [List.drop_succ_cons, List.drop_zero] at K ⊢
  have r0 := r.less (Nat.zero_le _)
  obtain ⟨vm, hvm, im⟩ := hm
  obtain ⟨tm, rfl⟩ := im.str_inv
  obtain ⟨vr, hvr, ir⟩ := hw
  obtain ⟨R, rv, rfl, hl, hi⟩ := ir.lst_inv
  repeat (first | (with_reducible refine r_sne ?_) | walk_at "m")
  have hls : ∀ l ∈ rs.map dueL, l.length ≤ 11 := fun l hl => by
    obtain ⟨p, hp, rfl⟩ := List.mem_map.mp hl
    exact due_len (kr p hp)
  refine comp_crlf (ls := rs.map dueL) e F r0 (by kernel_rfl!) (by kernel_rfl!) hvr hl (by rw [List.map_map]; exact hi) (by rw [List.length_map]; omega) (fun l hl => by have := hls l hl; omega) (fun _ => rfl) fun D3 h3 _ zs X3 pl3 is3 => ?_
  have F3 := F.keeps X3
  have hfl := len_flat hls
  rw [List.length_map] at hfl
  refine r_join pl3.isList is3 (by rw [List.length_map, List.length_map]; show (flat (rs.map dueL)).length + _ ≤ _; omega) fun _ _ => ?_
  repeat (first | (with_reducible refine r_sne ?_) | walk_at "m")
  exact r_ite (fun q => absurd rfl q) fun _ => K h3 _ F3 X3
end
end

section
theorem Iss.take {h : Heap} : ∀ (n : Nat) {vs : List Value} {ds : List PyData}, Iss h vs ds → Iss h (vs.take n) (ds.take n)
  | 0, _, _, _ => by rw [List.take_zero, List.take_zero]; exact .nil
  | n + 1, _, _, .nil => by rw [List.take_nil, List.take_nil]; exact .nil
  | n + 1, _, _, .cons a b => .cons a (Iss.take n b)
theorem due_form {p : Row} (k : RowOk p) : ∃ wd : List Nat, dueL p = List.replicate p.t.toNat 9 ++ List.replicate p.b.toNat 32 ++ wd ∧ (∃ c, wd.head? = some c ∧ c ≠ 9 ∧ c ≠ 32) ∧ wd.length ≤ 10 := by
  by_cases h : hasDot p = true
  · have h' := h
    unfold hasDot at h'
    rw [Bool.and_eq_true, decide_eq_true_eq] at h'
    have e1 : p.t.toNat = 0 := by have := k.t0; have := k.b0; omega
    have e2 : p.b.toNat = 0 := by have := k.t0; have := k.b0; omega
    rw [e1, e2]
    rcases dot_rows k h with ⟨_, e⟩ | ⟨_, e⟩
    · exact ⟨[46, 46], by rw [e]; rfl, ⟨46, rfl, by decide, by decide⟩, by decide⟩
    · exact ⟨[46, 46, 46], by rw [e]; rfl, ⟨46, rfl, by decide, by decide⟩, by decide⟩
  · refine ⟨p.w, by unfold dueL; rw [if_neg h]; rfl, ?_, by have := (wlen k).2; omega⟩
    rcases k.hw with e | e | e | e <;> rw [e]
    · exact ⟨46, rfl, by decide, by decide⟩
    · exact ⟨97, rfl, by decide, by decide⟩
    · exact ⟨46, rfl, by decide, by decide⟩
    · exact ⟨97, rfl, by decide, by decide⟩
section
variable {prog : Program} {w : World} {mg mb : Str → Option Value} {A : Around} {E : Value → Shared → Prop} {gs : Array GenState} {dr : Drawn} {tk : Nat} {os : OsState} {h h₁ : Heap} {L : Addr} {m : Str → Option Value} {env : Env} {ks : List (Str × NameKind)} {b : List Stmt}
theorem law_c8 {rs : List Row} {Q : Flow → Shared → Prop} (hb : LawFn w b ks) (g : G w mg mb h) (r : Room 8 A) (e : EnvIs env L ks [(Str.ofString "total", L + 1)]) (F : Fr h L h₁ m) (kr : ∀ p ∈ rs, RowOk p) (hn : rs.length ≤ 10) (h0 : rs ≠ [])
    (hm : Has m h₁ (Str.ofString "sent") (.str (S (flat (rs.map dueL)))))
    (K : ∀ h₂ tk₂ u sp sv lo, Fr h L h₂ (upd (upd m (Str.ofString "taken") u) (Str.ofString "spaces") (.ref sp)) → Off [L] h₁ h₂ → Is h₂ u (.list (rs.map fun p => .str (S (dueL p)))) → h₂.IsList sp (sv : List Value).toArray → SpacesL lo rs h₂ sv → L + 1 < lo → wpAny (model prog w) A (execs (b.drop 10) env) Q NoE ⟨h₂, gs, dr, tk₂, os⟩) :
    wpAny (model prog w) A (execs (b.drop 8) env) Q NoE ⟨h₁, gs, dr, tk, os⟩ := by
  have E := law_eq hb (by show (Mine.hd.heap_39 w.params).lookup 197 = _; k_is) rfl rfl
  obtain ⟨rfl, rfl⟩ := E
  simp only [List.drop_succ_cons, List.drop_zero] at K ⊢
  have r0 := r.less (Nat.zero_le _)
  have g1 := g.keeps F.keep
  obtain ⟨vm, hvm, im⟩ := hm
  obtain ⟨tm, rfl⟩ := im.str_inv
  walk_at "m"
  refine r_lcut (gs := gs) (dr := dr) (os := os) ?_
  repeat walk_at "m"
  have hls : ∀ l ∈ rs.map dueL, l.length ≤ 11 := fun l hl => by
    obtain ⟨p, hp, rfl⟩ := List.mem_map.mp hl
    exact due_len (kr p hp)
  have hfl := len_flat hls
  rw [List.length_map] at hfl
  refine r_split (ds := rs.map dueL) (fun d hd => by obtain ⟨p, hp, rfl⟩ := List.mem_map.mp hd; exact due_13 (kr p hp)) (by simpa using h0) (by omega) (by rw [List.length_map]; omega) fun D2 h2 _ us X2 l2 is2 => ?_
  have F2 := F.keeps X2
  refine UnaryOp_ ?_
  repeat walk_at "m"
  refine r_neg fun _ _ => ?_
  have ul : us.length = rs.length + 1 := by rw [is2.length]; simp
  refine ⟨D2, us, h2, _, -1, _, rfl, rfl, rfl, l2, by omega, fun D h3 X3 s3 pl3 => ?_⟩
  have es : slicePick us.toArray none (some (-1)) none = (us.take rs.length).toArray := by
    have := slicePick_butLast us.toArray 1 (Nat.le_refl _)
    rw [List.size_toArray, ul, Nat.add_sub_cancel] at this
    exact this
  rw [es] at pl3
  have F3 := F2.keeps X3
  have is3 : Iss h3 (us.take rs.length) (rs.map fun p => .str (S (dueL p))) := by
    have := (is2.sq X3.sq).take rs.length
    have e1 : List.take rs.length ((rs.map dueL ++ [[]]).map fun l => PyData.str (S l)) = rs.map fun p => .str (S (dueL p)) := by
      rw [List.map_append, List.map_map]
      have e2 : (rs.map ((fun l => PyData.str (S l)) ∘ dueL)).length = rs.length := List.length_map _
      rw [List.take_append_of_le_length (Nat.le_of_eq e2.symm), List.take_of_length_le (Nat.le_of_eq e2)]
      rfl
    rw [e1] at this
    exact this
  walk_at "m"
  rename_i h4 tk4 F4 S4
  have g4 := g.keeps F4.keep
  have is4 := is3.sq (sq_same F3.ns S4)
  have l4 := list_sq (sq_same F3.ns S4) pl3.isList
  have tl : (us.take rs.length).length = rs.length := by rw [List.length_take]; omega
  refine ca_list (h₀ := h) (gs := gs) (dr := dr) (os := os) rs (fun _ => true) (fun p lo h y => Ws p.t.toNat p.b.toNat lo h y) r0 e (swaps_yes e (by kernel_rfl!) (by rfl) (by rfl)) (by kernel_rfl!) (fun _ => rfl) (clos_of e (by rfl)) (by rfl) rfl (by rfl) (by rfl) (fun _ _ _ _ _ t mi => t.mild mi) ?_
  repeat walk_at "m"
  refine ⟨D, us.take rs.length, h4, _, _, _, rfl, rfl, F4, l4, by omega, iss_paired is4, ?_, ?_⟩
  · rintro C p h₃ m₃ tk₃ hp ⟨v, hv, hm⟩ F₃ e₃
    obtain ⟨t, rfl⟩ := hv.str_inv
    have k := kr p hp
    obtain ⟨wd, ed, hh, hwl⟩ := due_form k
    have p2 := k.t4; have p4 := k.b4
    refine ⟨tests_none ⟨_, _, rfl, Ext.refl _⟩, fun _ => ?_⟩
    repeat walk_at "m"
    refine c_cls1 F₃ g4 (by rfl) ?_
    repeat walk_at "m"
    rw [ed]
    refine f_make (g4.keeps F₃.keep) (r.less (by omega)) (by omega) (by omega) hh hwl fun x dx f h₅ _ X₅ sx sdx ob wf => ?_
    have hC : C < h₃.objs.size := F₃.ns.lt
    exact ⟨_, _, rfl, X₅, x, dx, f, rfl, Nat.le_trans hC sx, Nat.le_trans hC sdx, ob, wf⟩
  intro D7 h7 tk7 lo7 ys7 hD7 F7 O7 pl7 hlo7 pr7
  rw [filter_all] at pr7
  refine K h7 tk7 _ _ _ lo7 F7 ?_ ?_ pl7.isList pr7 ?_
  · exact ((X2.off.trans X3.off).same S4 (.head _)).trans O7
  · exact (is_lst l4 is4).sq (kp_off (lo := L + 1) F4.ns O7 (Nat.lt_succ_self _)).sq
  · exact Nat.lt_of_le_of_lt (Nat.le_trans (Nat.succ_le_of_lt F4.ns.lt) hD7) hlo7
end
end

section
theorem memD_ok (p : Row) : (memD p).canLay0 = true ∧ (memD p).depth ≤ 10 := by
  unfold memD
  split
  · exact ⟨by rfl, by simp [PyData.depth, PyData.depthAll]⟩
  · exact ⟨by rfl, by simp [PyData.depth, PyData.depthAll]⟩
theorem memD_ws {p : Row} (k : RowOk p) : memD p = .tuple [.int (((p.t.toNat : Nat) : Int) + p.b.toNat), .int p.t.toNat, normD p.t.toNat p.b.toNat, .bool true] := by
  have e1 : ((p.t.toNat : Nat) : Int) = p.t := by have := k.t0; omega
  have e2 : ((p.b.toNat : Nat) : Int) = p.b := by have := k.b0; omega
  unfold memD normD
  rw [e1, e2]
  by_cases h : p.t > 0
  · rw [if_pos h, if_pos (by omega)]
  · rw [if_neg h, if_neg (by omega)]
section
variable {prog : Program} {w : World} {mg mb : Str → Option Value} {A : Around} {E : Value → Shared → Prop} {gs : Array GenState} {dr : Drawn} {tk : Nat} {os : OsState} {h h₁ : Heap} {L : Addr} {m : Str → Option Value} {env : Env} {ks : List (Str × NameKind)} {b : List Stmt}
theorem law_c10 {rs : List Row} {sp : Addr} {sv : List Value} {lo : Nat} {Q : Flow → Shared → Prop} (hb : LawFn w b ks) (g : G w mg mb h) (r : Room 8 A) (e : EnvIs env L ks [(Str.ofString "total", L + 1)]) (F : Fr h L h₁ m) (kr : ∀ p ∈ rs, RowOk p) (hn : rs.length ≤ 10)
    (hr : Has m h₁ (Str.ofString "rows") (.list (rs.map rowD))) (hm : m (Str.ofString "spaces") = some (.ref sp)) (hsl : h₁.IsList sp sv.toArray) (hs : SpacesL lo rs h₁ sv)
    (K : ∀ h₂ tk₂, Fr h L h₂ m → Ext h₁ h₂ → wpAny (model prog w) A (execs (b.drop 11) env) Q NoE ⟨h₂, gs, dr, tk₂, os⟩) :
    wpAny (model prog w) A (execs (b.drop 10) env) Q NoE ⟨h₁, gs, dr, tk, os⟩ := by
  have E := law_eq hb (by show (Mine.hd.heap_39 w.params).lookup 197 = _; k_is) rfl rfl
  obtain ⟨rfl, rfl⟩ := E
  simp only [List.drop_succ_cons, List.drop_zero] at K ⊢
  have r0 := r.less (Nat.zero_le _)
  have g1 := g.keeps F.keep
  obtain ⟨vr, hvr, ir⟩ := hr
  obtain ⟨R, rv, rfl, hl, hi⟩ := ir.lst_inv
  have hlen : rv.length = rs.length := by rw [hi.length, List.length_map]
  have hslen : sv.length = rs.length := hs.length.symm
  repeat walk_at "m"
  refine cv_list (gs := gs) (dr := dr) (os := os) rs (fun _ => true) (fun p _ h y => Is h y (memD p)) r0 e (fun _ => rfl) (clos_of e (by rfl)) (by rfl) rfl (by rfl) (by rfl) (moves_is fun _ => by unfold memD; split <;> rfl) ?_
  repeat walk_at "m"
  refine ⟨sp, sv, h₁, _, _, rfl, rfl, hsl, by omega, hs, ?_, ?_⟩
  · rintro C p h₃ m₃ tk₃ hp ⟨v, hv, hm⟩ F₃ e₃
    have k := kr p hp
    obtain ⟨x, dx, f, rfl, _, _, ob, wf⟩ := hv
    obtain ⟨t1, f1⟩ := wf.fn
    obtain ⟨t2, f2⟩ := wf.fnt
    obtain ⟨vn, f3, in3⟩ := wf.fnorm
    obtain ⟨a, a1, vs, t, rfl, _⟩ := norm_inv in3
    have f4 := wf.fsim
    refine ⟨tests_none ⟨_, _, rfl, Ext.refl _⟩, fun _ => ?_⟩
    repeat walk_at "m"
    rename_i T4 xk4 tu4 _ _
    refine ⟨_, _, rfl, xk4, ?_⟩
    show Is _ _ (memD p)
    rw [memD_ws k]
    exact is_tup tu4 (.cons (.int _ _) (.cons (.int _ _) (.cons ((in3.sq (Ext.sq F₃.keep)).sq xk4.sq) (.cons (.bool _) .nil))))
  intro D2 h2 tk2 lo2 ys2 hD2 X2 pl2 hlo2 pr2
  rw [filter_all] at pr2
  have i2 := paired_iss pr2
  have F2 := F.keeps X2
  have g2 := g.keeps F2.keep
  refine cv_list (gs := gs) (dr := dr) (os := os) rs (fun _ => true) (fun p _ h y => Is h y (memD p)) r0 e (fun _ => rfl) (clos_of e (by rfl)) (by rfl) rfl (by rfl) (by rfl) (moves_is fun _ => by unfold memD; split <;> rfl) ?_
  repeat walk_at "m"
  refine ⟨R, rv, h2, _, _, rfl, rfl, list_at hl (X2 _), by omega, iss_paired (hi.sq X2.sq), ?_, ?_⟩
  · rintro C p h₃ m₃ tk₃ hp ⟨v, hv, hm⟩ F₃ e₃
    refine ⟨tests_none ⟨_, _, rfl, Ext.refl _⟩, fun _ => ?_⟩
    repeat walk_at "m"
    refine f_members (g2.keeps F₃.keep) (r.less (by omega)) (hv.sq (Ext.sq F₃.keep)) (kr p hp) fun v h₄ _ X₄ iv => ?_
    exact ⟨_, _, rfl, X₄, iv⟩
  intro D3 h3 tk3 lo3 ys3 hD3 X3 pl3 hlo3 pr3
  rw [filter_all] at pr3
  refine r_nes r0 (is_lst (list_at pl2.isList (X3 _)) (i2.sq X3.sq)) (is_lst pl3.isList (paired_iss pr3)) (shaped_map _ memD_ok) ?_
  repeat walk_at "m"
  refine r_iteb (fun z => absurd z (by decide)) fun _ => ?_
  exact K h3 _ (F2.keeps X3) (X2.trans X3)
end
end

section
section
variable {prog : Program} {w : World} {mg mb : Str → Option Value} {A : Around} {E : Value → Shared → Prop} {gs : Array GenState} {dr : Drawn} {tk : Nat} {os : OsState} {h h₁ : Heap} {L : Addr} {m : Str → Option Value} {env : Env} {ks : List (Str × NameKind)} {b : List Stmt}
theorem law_c11 {ds : List Int} {v₀ : Option Value} {Q : Flow → Shared → Prop} (hb : LawFn w b ks) (g : G w mg mb h) (r : Room 8 A) (e : EnvIs env L ks [(Str.ofString "total", L + 1)]) (F : Fr h L h₁ m)
    (hd : Has m h₁ (Str.ofString "digits") (.list (ds.map .int))) (hc : h₁.IsCell (L + 1) v₀)
    (K : ∀ h₂ tk₂ t, Fr h L h₂ m → (∀ lo, L + 1 < lo → Kp L lo h₁ h₂) → h₂.IsCell (L + 1) (some (.int ds.sum t)) → wpAny (model prog w) A (execs (b.drop 12) env) Q NoE ⟨h₂, gs, dr, tk₂, os⟩) :
    wpAny (model prog w) A (execs (b.drop 11) env) Q NoE ⟨h₁, gs, dr, tk, os⟩ := by
  have E := law_eq hb (by show (Mine.hd.heap_39 w.params).lookup 197 = _; k_is) rfl rfl
  obtain ⟨rfl, rfl⟩ := E
  simp only [List.drop_succ_cons, List.drop_zero] at K ⊢
  have r0 := r.less (Nat.zero_le _)
  have g1 := g.keeps F.keep
  obtain ⟨vd, hvd, id⟩ := hd
  obtain ⟨D, dv, rfl, hl, hi⟩ := id.lst_inv
  repeat (first | ((with_reducible refine' r_cell ?k1 ?k2 ?k3 ?k4 ?k5 ?k6 ?_); (case k1 => assumption); (case k2 => assumption); (case k3 => kernel_rfl!); (case k4 => assumption); (case k5 => assumption); (case k6 => kernel_rfl!)) | ((with_reducible refine' r_bui ?k1 ?k2 ?k3 ?k4 ?k5 ?k6 ?k7 ?k8 ?_); (case k1 => assumption); (case k2 => assumption); (case k3 => assumption); (case k4 => kernel_rfl!); (case k5 => k_is); (case k6 => with_reducible first | exact bb_sum | exact bb_zip); (case k7 => decide +kernel); (case k8 => kernel_rfl!)) | walk_at "m")
  refine r_sum r0 hl hi fun t h2 tk2 X2 => ?_
  have F2 := F.keeps X2
  have c2 : h2.IsCell (L + 1) v₀ := cell_at hc (X2 _)
  refine r_storeC e F2 (by kernel_rfl!) (by rfl) c2 (Nat.succ_ne_self L) (fresh_none (Nat.le_succ_of_le F.above)) fun h3 F3 c3 S3 => ?_
  exact K h3 _ t F3 (fun lo hlo => Kp.trans X2.kp (kp_cell c2 S3 hlo)) c3
theorem law_c12 {rs : List Row} {c : Int} {tc : Tok} {Q : Flow → Shared → Prop} (hb : LawFn w b ks) (g : G w mg mb h) (r : Room 8 A) (e : EnvIs env L ks [(Str.ofString "total", L + 1)]) (F : Fr h L h₁ m) (kr : ∀ p ∈ rs, RowOk p) (hn : rs.length ≤ 10)
    (hw : Has m h₁ (Str.ofString "written") (.list (rs.map fun p => .str (S (writtenL p))))) (ht : Has m h₁ (Str.ofString "taken") (.list (rs.map fun p => .str (S (dueL p))))) (hc : h₁.IsCell (L + 1) (some (.int c tc)))
    (K : ∀ h₂ tk₂ u, Fr h L h₂ (upd m (Str.ofString "dots") u) → Off [L] h₁ h₂ → Is h₂ u (.list (rs.map fun p => .int (if hasDot p = true then 2 else 0))) → wpAny (model prog w) A (execs (b.drop 13) env) Q NoE ⟨h₂, gs, dr, tk₂, os⟩) :
    wpAny (model prog w) A (execs (b.drop 12) env) Q NoE ⟨h₁, gs, dr, tk, os⟩ := by
  have E := law_eq hb (by show (Mine.hd.heap_39 w.params).lookup 197 = _; k_is) rfl rfl
  obtain ⟨rfl, rfl⟩ := E
  simp only [List.drop_succ_cons, List.drop_zero] at K ⊢
  have r0 := r.less (Nat.zero_le _)
  have g1 := g.keeps F.keep
  obtain ⟨vw, hvw, iw⟩ := hw
  obtain ⟨W, wv, rfl, hlw, hiw⟩ := iw.lst_inv
  obtain ⟨vt, hvt, it⟩ := ht
  obtain ⟨D, tv, rfl, hlt, hit⟩ := it.lst_inv
  have wl : wv.length = rs.length := by rw [hiw.length, List.length_map]
  have tl : tv.length = rs.length := by rw [hit.length, List.length_map]
  refine ca_zip (h₀ := h) (gs := gs) (dr := dr) (os := os) rs (fun p y => ∃ t, y = .int (if hasDot p = true then 2 else 0) t) r0 e (swaps_yes e (by kernel_rfl!) (by rfl) (by rfl)) (by kernel_rfl!) (fun _ => rfl) (clos_of e (by rfl)) (by rfl) rfl (by rfl) (by rfl) (by rfl) (by decide +kernel) ?_ (by rfl) (by rfl)
  repeat (first | ((with_reducible refine' r_cell ?k1 ?k2 ?k3 ?k4 ?k5 ?k6 ?_); (case k1 => assumption); (case k2 => assumption); (case k3 => kernel_rfl!); (case k4 => assumption); (case k5 => assumption); (case k6 => kernel_rfl!)) | ((with_reducible refine' r_bui ?k1 ?k2 ?k3 ?k4 ?k5 ?k6 ?k7 ?k8 ?_); (case k1 => assumption); (case k2 => assumption); (case k3 => assumption); (case k4 => kernel_rfl!); (case k5 => k_is); (case k6 => with_reducible first | exact bb_sum | exact bb_zip); (case k7 => decide +kernel); (case k8 => kernel_rfl!)) | walk_at "m")
  refine ⟨rfl, ?_⟩
  repeat (first | ((with_reducible refine' r_cell ?k1 ?k2 ?k3 ?k4 ?k5 ?k6 ?_); (case k1 => assumption); (case k2 => assumption); (case k3 => kernel_rfl!); (case k4 => assumption); (case k5 => assumption); (case k6 => kernel_rfl!)) | ((with_reducible refine' r_bui ?k1 ?k2 ?k3 ?k4 ?k5 ?k6 ?k7 ?k8 ?_); (case k1 => assumption); (case k2 => assumption); (case k3 => assumption); (case k4 => kernel_rfl!); (case k5 => k_is); (case k6 => with_reducible first | exact bb_sum | exact bb_zip); (case k7 => decide +kernel); (case k8 => kernel_rfl!)) | walk_at "m")
  refine ⟨W, D, wv, tv, h₁, _, fun p a b => (∃ t, a = .str (S (writtenL p)) t) ∧ ∃ t, b = .str (S (dueL p)) t, m, rfl, rfl, rfl, hlw, hlt, wl, tl, by omega, F, ?_, ?_, ?_⟩
  · intro i a b' ha hb'
    obtain ⟨p, hp, ia⟩ := paired_get (iss_paired hiw) i a ha
    obtain ⟨q, hq, ib⟩ := paired_get (iss_paired hit) i b' hb'
    rw [hp] at hq
    cases hq
    exact ⟨p, hp, ia.str_inv, ib.str_inv⟩
  · rintro C p h₃ m₃ tk₃ hp ⟨v1, v2, ⟨⟨t1, rfl⟩, t2, rfl⟩, hm1, hm2⟩ F₃ e₃
    have k := kr p hp
    have l1 := written_len k
    have l2 := due_len k
    have k1 : List.lookup (Str.ofString "total") [(Str.ofString "total", L + 1)] = some (L + 1) := by rfl
    refine ⟨tests_none ⟨_, _, rfl, Ext.refl _⟩, fun _ => ?_⟩
    repeat (first | ((with_reducible refine' r_cell ?k1 ?k2 ?k3 ?k4 ?k5 ?k6 ?_); (case k1 => assumption); (case k2 => assumption); (case k3 => kernel_rfl!); (case k4 => assumption); (case k5 => assumption); (case k6 => kernel_rfl!)) | ((with_reducible refine' r_bui ?k1 ?k2 ?k3 ?k4 ?k5 ?k6 ?k7 ?k8 ?_); (case k1 => assumption); (case k2 => assumption); (case k3 => assumption); (case k4 => kernel_rfl!); (case k5 => k_is); (case k6 => with_reducible first | exact bb_sum | exact bb_zip); (case k7 => decide +kernel); (case k8 => kernel_rfl!)) | walk_at "m")
    refine f_lev (g1.keeps F₃.keep) (r.less (by omega)) (by omega) (by omega) ((lev_dcase k).imp id fun z => .inl z) fun _ h₄ _ X₄ => ?_
    rw [lev_dot k]
    exact ⟨_, _, rfl, X₄, _, rfl⟩
  · intro D7 h7 tk7 ys7 hD7 F7 O7 pl7 pr7
    refine K h7 tk7 _ F7 O7 (is_lst pl7.isList (paired_iss (paired_mono ?_ pr7)))
    rintro p y ⟨t, rfl⟩
    exact .int _ _
end
end

section
section
variable {prog : Program} {w : World} {mg mb : Str → Option Value} {A : Around} {E : Value → Shared → Prop} {gs : Array GenState} {dr : Drawn} {tk : Nat} {os : OsState} {h h₁ : Heap} {L : Addr} {m : Str → Option Value} {env : Env} {ks : List (Str × NameKind)} {b : List Stmt}
theorem law_c13 {rs : List Row} {Q : Flow → Shared → Prop} (hb : LawFn w b ks) (g : G w mg mb h) (r : Room 8 A) (e : EnvIs env L ks [(Str.ofString "total", L + 1)]) (F : Fr h L h₁ m) (kr : ∀ p ∈ rs, RowOk p) (hn : rs.length ≤ 10)
    (hr : Has m h₁ (Str.ofString "rows") (.list (rs.map rowD))) (hd : Has m h₁ (Str.ofString "dots") (.list (rs.map fun p => .int (if hasDot p = true then 2 else 0))))
    (K : ∀ h₂ tk₂, Fr h L h₂ m → Ext h₁ h₂ → wpAny (model prog w) A (execs (b.drop 14) env) Q NoE ⟨h₂, gs, dr, tk₂, os⟩) :
    wpAny (model prog w) A (execs (b.drop 13) env) Q NoE ⟨h₁, gs, dr, tk, os⟩ := by
  have E := law_eq hb (by show (Mine.hd.heap_39 w.params).lookup 197 = _; k_is) rfl rfl
  obtain ⟨rfl, rfl⟩ := E
  simp only [List.drop_succ_cons, List.drop_zero] at K ⊢
  have r0 := r.less (Nat.zero_le _)
  have g1 := g.keeps F.keep
  obtain ⟨vr, hvr, ir⟩ := hr
  obtain ⟨R, rv, rfl, hl, hi⟩ := ir.lst_inv
  have hlen : rv.length = rs.length := by rw [hi.length, List.length_map]
  obtain ⟨vd, hvd, id⟩ := hd
  repeat (first | (with_reducible refine e_none ?_) | (with_reducible refine e_some ?_) | ((with_reducible refine' r_bui ?k1 ?k2 ?k3 ?k4 ?k5 ?k6 ?k7 ?k8 ?_); (case k1 => assumption); (case k2 => assumption); (case k3 => assumption); (case k4 => kernel_rfl!); (case k5 => k_is); (case k6 => with_reducible exact bb_zip); (case k7 => decide +kernel); (case k8 => kernel_rfl!)) | walk_at "m")
  refine cv_list (gs := gs) (dr := dr) (os := os) rs (fun _ => true) (fun p _ h y => Is h y (.int (if hasDot p = true then 2 else 0))) r0 e (fun _ => rfl) (clos_of e (by rfl)) (by rfl) rfl (by rfl) (by rfl) (moves_is fun _ => rfl) ?_
  repeat (first | (with_reducible refine e_none ?_) | (with_reducible refine e_some ?_) | ((with_reducible refine' r_bui ?k1 ?k2 ?k3 ?k4 ?k5 ?k6 ?k7 ?k8 ?_); (case k1 => assumption); (case k2 => assumption); (case k3 => assumption); (case k4 => kernel_rfl!); (case k5 => k_is); (case k6 => with_reducible exact bb_zip); (case k7 => decide +kernel); (case k8 => kernel_rfl!)) | walk_at "m")
  refine ⟨R, rv, h₁, _, _, rfl, rfl, hl, by omega, iss_paired hi, ?_, ?_⟩
  · rintro C p h₃ m₃ tk₃ hp ⟨v, hv, hm⟩ F₃ e₃
    refine ⟨tests_none ⟨_, _, rfl, Ext.refl _⟩, fun _ => ?_⟩
    repeat (first | (with_reducible refine e_none ?_) | (with_reducible refine e_some ?_) | ((with_reducible refine' r_bui ?k1 ?k2 ?k3 ?k4 ?k5 ?k6 ?k7 ?k8 ?_); (case k1 => assumption); (case k2 => assumption); (case k3 => assumption); (case k4 => kernel_rfl!); (case k5 => k_is); (case k6 => with_reducible exact bb_zip); (case k7 => decide +kernel); (case k8 => kernel_rfl!)) | walk_at "m")
    refine f_hasdot (g1.keeps F₃.keep) (r.less (by omega)) (hv.sq (Ext.sq F₃.keep)) (kr p hp) fun h₄ _ X₄ => ?_
    repeat (first | (with_reducible refine e_none ?_) | (with_reducible refine e_some ?_) | ((with_reducible refine' r_bui ?k1 ?k2 ?k3 ?k4 ?k5 ?k6 ?k7 ?k8 ?_); (case k1 => assumption); (case k2 => assumption); (case k3 => assumption); (case k4 => kernel_rfl!); (case k5 => k_is); (case k6 => with_reducible exact bb_zip); (case k7 => decide +kernel); (case k8 => kernel_rfl!)) | walk_at "m")
    refine r_iteb (fun q => ?_) fun q => ?_
    · repeat (first | (with_reducible refine e_none ?_) | (with_reducible refine e_some ?_) | ((with_reducible refine' r_bui ?k1 ?k2 ?k3 ?k4 ?k5 ?k6 ?k7 ?k8 ?_); (case k1 => assumption); (case k2 => assumption); (case k3 => assumption); (case k4 => kernel_rfl!); (case k5 => k_is); (case k6 => with_reducible exact bb_zip); (case k7 => decide +kernel); (case k8 => kernel_rfl!)) | walk_at "m")
      refine ⟨_, _, rfl, X₄, ?_⟩
      show Is _ _ (.int (if hasDot p = true then 2 else 0))
      rw [if_pos q]
      exact .int _ _
    · repeat (first | (with_reducible refine e_none ?_) | (with_reducible refine e_some ?_) | ((with_reducible refine' r_bui ?k1 ?k2 ?k3 ?k4 ?k5 ?k6 ?k7 ?k8 ?_); (case k1 => assumption); (case k2 => assumption); (case k3 => assumption); (case k4 => kernel_rfl!); (case k5 => k_is); (case k6 => with_reducible exact bb_zip); (case k7 => decide +kernel); (case k8 => kernel_rfl!)) | walk_at "m")
      refine ⟨_, _, rfl, X₄, ?_⟩
      show Is _ _ (.int (if hasDot p = true then 2 else 0))
      rw [if_neg (by rw [q]; decide)]
      exact .int _ _
  intro D3 h3 tk3 lo3 ys3 hD3 X3 pl3 hlo3 pr3
  rw [filter_all] at pr3
  refine r_nes r0 (id.sq X3.sq) (is_lst pl3.isList (paired_iss pr3)) (shaped_map _ fun p => ⟨by rfl, by simp [PyData.depth]⟩) ?_
  repeat (first | (with_reducible refine e_none ?_) | (with_reducible refine e_some ?_) | ((with_reducible refine' r_bui ?k1 ?k2 ?k3 ?k4 ?k5 ?k6 ?k7 ?k8 ?_); (case k1 => assumption); (case k2 => assumption); (case k3 => assumption); (case k4 => kernel_rfl!); (case k5 => k_is); (case k6 => with_reducible exact bb_zip); (case k7 => decide +kernel); (case k8 => kernel_rfl!)) | walk_at "m")
  refine r_iteb (fun z => absurd z (by decide)) fun _ => ?_
  exact K h3 _ (F.keeps X3) X3
theorem law_c14 {rs : List Row} {sp : Addr} {sv : List Value} {lo : Nat} {Q : Flow → Shared → Prop} (hb : LawFn w b ks) (g : G w mg mb h) (r : Room 8 A) (e : EnvIs env L ks [(Str.ofString "total", L + 1)]) (F : Fr h L h₁ m) (kr : ∀ p ∈ rs, RowOk p) (hn : rs.length ≤ 10)
    (ht : Has m h₁ (Str.ofString "taken") (.list (rs.map fun p => .str (S (dueL p))))) (hm : m (Str.ofString "spaces") = some (.ref sp)) (hsl : h₁.IsList sp sv.toArray) (hs : SpacesL lo rs h₁ sv)
    (K : ∀ h₂ tk₂ u, Fr h L h₂ (upd m (Str.ofString "leads") u) → Off [L] h₁ h₂ → Is h₂ u (.list (rs.map fun p => .str (S (leadOf p)))) → wpAny (model prog w) A (execs (b.drop 15) env) Q NoE ⟨h₂, gs, dr, tk₂, os⟩) :
    wpAny (model prog w) A (execs (b.drop 14) env) Q NoE ⟨h₁, gs, dr, tk, os⟩ := by
  have E := law_eq hb (by show (Mine.hd.heap_39 w.params).lookup 197 = _; k_is) rfl rfl
  obtain ⟨rfl, rfl⟩ := E
  simp only [List.drop_succ_cons, List.drop_zero] at K ⊢
  have r0 := r.less (Nat.zero_le _)
  have g1 := g.keeps F.keep
  obtain ⟨vt, hvt, it⟩ := ht
  obtain ⟨D, tv, rfl, hlt, hit⟩ := it.lst_inv
  have tl : tv.length = rs.length := by rw [hit.length, List.length_map]
  have sl : sv.length = rs.length := hs.length.symm
  refine ca_zip (h₀ := h) (gs := gs) (dr := dr) (os := os) rs (fun p y => ∃ t, y = .str (S (leadOf p)) t) r0 e (swaps_yes e (by kernel_rfl!) (by rfl) (by rfl)) (by kernel_rfl!) (fun _ => rfl) (clos_of e (by rfl)) (by rfl) rfl (by rfl) (by rfl) (by rfl) (by decide +kernel) ?_ (by rfl) (by rfl)
  repeat (first | (with_reducible refine e_none ?_) | (with_reducible refine e_some ?_) | ((with_reducible refine' r_bui ?k1 ?k2 ?k3 ?k4 ?k5 ?k6 ?k7 ?k8 ?_); (case k1 => assumption); (case k2 => assumption); (case k3 => assumption); (case k4 => kernel_rfl!); (case k5 => k_is); (case k6 => with_reducible exact bb_zip); (case k7 => decide +kernel); (case k8 => kernel_rfl!)) | walk_at "m")
  refine ⟨rfl, ?_⟩
  repeat (first | (with_reducible refine e_none ?_) | (with_reducible refine e_some ?_) | ((with_reducible refine' r_bui ?k1 ?k2 ?k3 ?k4 ?k5 ?k6 ?k7 ?k8 ?_); (case k1 => assumption); (case k2 => assumption); (case k3 => assumption); (case k4 => kernel_rfl!); (case k5 => k_is); (case k6 => with_reducible exact bb_zip); (case k7 => decide +kernel); (case k8 => kernel_rfl!)) | walk_at "m")
  refine ⟨D, sp, tv, sv, h₁, _, fun p a b => (∃ t, a = .str (S (dueL p)) t) ∧ Ws p.t.toNat p.b.toNat lo h₁ b, m, rfl, rfl, rfl, hlt, hsl, tl, sl, by omega, F, ?_, ?_, ?_⟩
  · intro i a b' ha hb'
    obtain ⟨p, hp, ia⟩ := paired_get (iss_paired hit) i a ha
    obtain ⟨q, hq, ib⟩ := paired_get hs i b' hb'
    rw [hp] at hq
    cases hq
    exact ⟨p, hp, ia.str_inv, ib⟩
  · rintro C p h₃ m₃ tk₃ hp ⟨v1, v2, ⟨⟨t1, rfl⟩, ws⟩, hm1, hm2⟩ F₃ e₃
    have k := kr p hp
    obtain ⟨x, dx, f, rfl, _, _, ob, wf⟩ := ws
    obtain ⟨tn, f1⟩ := wf.fn
    have l2 := due_len k
    refine ⟨tests_none ⟨_, _, rfl, Ext.refl _⟩, fun _ => ?_⟩
    repeat (first | (with_reducible refine e_none ?_) | (with_reducible refine e_some ?_) | ((with_reducible refine' r_bui ?k1 ?k2 ?k3 ?k4 ?k5 ?k6 ?k7 ?k8 ?_); (case k1 => assumption); (case k2 => assumption); (case k3 => assumption); (case k4 => kernel_rfl!); (case k5 => k_is); (case k6 => with_reducible exact bb_zip); (case k7 => decide +kernel); (case k8 => kernel_rfl!)) | walk_at "m")
    rw [show ((p.t.toNat : Int) + (p.b.toNat : Int)) = ((p.t.toNat + p.b.toNat : Nat) : Int) from (Int.natCast_add _ _).symm]
    refine go_to (by omega) fun t' h₄ _ X₄ => ?_
    refine ⟨_, _, rfl, X₄, t', ?_⟩
    obtain ⟨wd, ed, _⟩ := due_form k
    have : (dueL p).take (p.t.toNat + p.b.toNat) = leadOf p := by
      rw [ed]
      exact List.take_left' (by simp)
    rw [this]
  · intro D7 h7 tk7 ys7 hD7 F7 O7 pl7 pr7
    refine K h7 tk7 _ F7 O7 (is_lst pl7.isList (paired_iss (paired_mono ?_ pr7)))
    rintro p y ⟨t, rfl⟩
    exact .str _ _
end
end

section
theorem toldD_ok (rs : List Row) (c : Int) (i j : Nat) : (toldD rs c i j).canLay0 = true ∧ (toldD rs c i j).depth ≤ 10 := ⟨by rfl, by simp [toldD, PyData.depth, PyData.depthAll]⟩
theorem grid_ok {d : Nat → Nat → PyData} (hd : ∀ i j, (d i j).canLay0 = true ∧ (d i j).depth ≤ 10) (n i : Nat) : SeqAt.shaped (.list (grid d n i)) = true := shaped_list fun x hx => by
  unfold grid at hx
  rw [List.mem_flatMap] at hx
  obtain ⟨a, _, hx⟩ := hx
  obtain ⟨j, _, rfl⟩ := List.mem_map.mp hx
  exact hd a j
section
variable {prog : Program} {w : World} {mg mb : Str → Option Value} {A : Around} {E : Value → Shared → Prop} {gs : Array GenState} {dr : Drawn} {tk : Nat} {os : OsState} {h h₁ : Heap} {L : Addr} {m : Str → Option Value} {env : Env} {ks : List (Str × NameKind)} {b : List Stmt}
theorem law_c15 {rs : List Row} {sp : Addr} {sv : List Value} {lo : Nat} {c : Int} {tc : Tok} {Q : Flow → Shared → Prop} (hb : LawFn w b ks) (g : G w mg mb h) (r : Room 8 A) (e : EnvIs env L ks [(Str.ofString "total", L + 1)]) (F : Fr h L h₁ m) (kr : ∀ p ∈ rs, RowOk p) (hn : rs.length ≤ 10)
    (hr : Has m h₁ (Str.ofString "rows") (.list (rs.map rowD))) (hle : Has m h₁ (Str.ofString "leads") (.list (rs.map fun p => .str (S (leadOf p))))) (hm : m (Str.ofString "spaces") = some (.ref sp)) (hsl : h₁.IsList sp sv.toArray) (hs : SpacesL lo rs h₁ sv) (hc : h₁.IsCell (L + 1) (some (.int c tc)))
    (K : ∀ h₂ tk₂, Fr h L h₂ m → Ext h₁ h₂ → Q (.ret (.bool true)) ⟨h₂, gs, dr, tk₂, os⟩) :
    wpAny (model prog w) A (execs (b.drop 15) env) Q NoE ⟨h₁, gs, dr, tk, os⟩ := by
  have E := law_eq hb (by show (Mine.hd.heap_39 w.params).lookup 197 = _; k_is) rfl rfl
  obtain ⟨rfl, rfl⟩ := E
  simp only [List.drop_succ_cons, List.drop_zero] at K ⊢
  have r0 := r.less (Nat.zero_le _)
  have g1 := g.keeps F.keep
  obtain ⟨vr, hvr, ir⟩ := hr
  obtain ⟨vl, hvl, il⟩ := hle
  repeat walk_at "m"
  refine r_cell' e (by kernel_rfl!) (by rfl) hc (by kernel_rfl!) ?_
  repeat walk_at "m"
  refine f_asked (g.keeps F.keep) r il hsl hs.spaces kr hn fun va h2 _ X2 ia => ?_
  have F2 := F.keeps X2
  repeat walk_at "m"
  refine r_cell' e (by kernel_rfl!) (by rfl) (cell_at hc (X2 _)) (by kernel_rfl!) ?_
  repeat walk_at "m"
  refine f_told (g.keeps F2.keep) (r.less (by omega)) (ir.sq X2.sq) kr hn fun vt h3 _ X3 it => ?_
  have F3 := F2.keeps X3
  refine r_nes r0 (ia.sq X3.sq) it (grid_ok (toldD_ok rs c) _ _) ?_
  repeat walk_at "m"
  refine r_iteb (fun z => absurd z (by decide)) fun _ => ?_
  repeat walk_at "m"
  refine f_right (g.keeps F3.keep) r ((ir.sq X2.sq).sq X3.sq) (list_at (list_at hsl (X2 _)) (X3 _)) ((hs.spaces.ext X2).ext X3) kr hn fun h4 _ X4 => ?_
  exact K h4 _ (F3.keeps X4) ((X2.trans X3).trans X4)
end
end

section
section
variable {prog : Program} {w : World} {mg mb : Str → Option Value} {A : Around} {gs : Array GenState} {dr : Drawn} {tk : Nat} {os : OsState} {h h₁ : Heap} {L : Addr} {m : Str → Option Value} {env : Env} {ks : List (Str × NameKind)} {b : List Stmt} {Q : Flow → Shared → Prop}
theorem cell_off {h h' : Heap} {L : Addr} {v : Option Value} (hc : h.IsCell (L + 1) v) (k : Off [L] h h') : h'.IsCell (L + 1) v :=
  cell_at hc fun o q => k (L + 1) o (fun z => Nat.succ_ne_self L (List.mem_singleton.mp z)) q
theorem f_body {l : Addr} {vs : List Value} {ns : List Int} {v₀ : Option Value} (hb : LawFn w b ks) (g : G w mg mb h) (r : Room 8 A) (e : EnvIs env L ks [(Str.ofString "total", L + 1)]) (F : Fr h L h₁ m) (hm : m (Str.ofString "script") = some (.ref l)) (hl : h.IsList l vs.toArray) (hi : IntsAre vs ns) (hn : ns.length ≤ 63)
    (hc : h₁.IsCell (L + 1) v₀) (hQ : ∀ h' tk', Ext h h' → Q (.ret (.bool true)) ⟨h', gs, dr, tk', os⟩) : wpAny (model prog w) A (execs b env) Q NoE ⟨h₁, gs, dr, tk, os⟩ := by
  show wpAny (model prog w) A (execs (b.drop 0) env) Q NoE ⟨h₁, gs, dr, tk, os⟩
  have kr : ∀ p ∈ (digitsOf ns).map rowOf, RowOk p := fun p hp => by
    obtain ⟨d, _, rfl⟩ := List.mem_map.mp hp
    exact rowOk d
  have hln : ((digitsOf ns).map rowOf).length ≤ 10 := by
    rw [List.length_map]; unfold digitsOf
    rw [List.length_append, List.length_map, List.length_take, List.length_cons, List.length_cons, List.length_cons, List.length_nil]; omega
  have hne : (digitsOf ns).map rowOf ≠ [] := by
    intro z
    have := congrArg List.length z
    rw [List.length_map] at this
    unfold digitsOf at this
    rw [List.length_append, List.length_cons] at this
    exact absurd this (Nat.succ_ne_zero _)
  refine law_c0 hb g r e F hm hl hi hn fun h2 tk2 m2 F2 O2 d2 r2 => ?_
  generalize digitsOf ns = ds at kr hln hne d2 r2
  generalize ds.map rowOf = rs at kr hln hne r2
  have c2 := cell_off hc O2
  refine law_c2 hb g r e F2 kr hln r2 fun h3 tk3 u3 v3 F3 O3 iu3 iv3 => ?_
  have q3 := (kp_off (lo := L + 1) F2.ns O3 (Nat.lt_succ_self _)).sq
  have c3 := cell_off c2 O3
  have d3 := (Has.upd (u := v3) (y := Str.ofString "written") (Has.upd (u := u3) (y := Str.ofString "mail") d2 (by decide +kernel)) (by decide +kernel)).sq q3
  have r3 := (Has.upd (u := v3) (y := Str.ofString "written") (Has.upd (u := u3) (y := Str.ofString "mail") r2 (by decide +kernel)) (by decide +kernel)).sq q3
  have m3 : Has (upd (upd m2 (Str.ofString "mail") u3) (Str.ofString "written") v3) h3 (Str.ofString "mail") _ := Has.upd (Has.new iu3) (by decide +kernel)
  have w3 : Has (upd (upd m2 (Str.ofString "mail") u3) (Str.ofString "written") v3) h3 (Str.ofString "written") _ := Has.new iv3
  generalize upd (upd m2 (Str.ofString "mail") u3) (Str.ofString "written") v3 = m3' at *
  have ml := mail_len kr
  refine law_c4 hb g r e F3 kr hln m3 w3 (by omega) fun h4 tk4 F4 X4 => ?_
  have c4 := cell_at c3 (X4 _)
  have d4 := d3.sq X4.sq
  have r4 := r3.sq X4.sq
  have m4 := m3.sq X4.sq
  have w4 := w3.sq X4.sq
  refine law_c5 hb g r e F4 kr hln m4 r4 fun h5 tk5 u5 v5 F5 O5 iu5 iv5 => ?_
  have q5 := (kp_off (lo := L + 1) F4.ns O5 (Nat.lt_succ_self _)).sq
  have c5 := cell_off c4 O5
  have d5 := (Has.upd (u := v5) (y := Str.ofString "sent") (Has.upd (u := u5) (y := Str.ofString "due") d4 (by decide +kernel)) (by decide +kernel)).sq q5
  have r5 := (Has.upd (u := v5) (y := Str.ofString "sent") (Has.upd (u := u5) (y := Str.ofString "due") r4 (by decide +kernel)) (by decide +kernel)).sq q5
  have w5 := (Has.upd (u := v5) (y := Str.ofString "sent") (Has.upd (u := u5) (y := Str.ofString "due") w4 (by decide +kernel)) (by decide +kernel)).sq q5
  have u5' : Has (upd (upd m3' (Str.ofString "due") u5) (Str.ofString "sent") v5) h5 (Str.ofString "due") _ := Has.upd (Has.new iu5) (by decide +kernel)
  have s5 : Has (upd (upd m3' (Str.ofString "due") u5) (Str.ofString "sent") v5) h5 (Str.ofString "sent") _ := Has.new iv5
  generalize upd (upd m3' (Str.ofString "due") u5) (Str.ofString "sent") v5 = m5 at *
  refine law_c7 hb r e g F5 kr hln s5 u5' fun h6 tk6 F6 X6 => ?_
  have c6 := cell_at c5 (X6 _)
  have d6 := d5.sq X6.sq
  have r6 := r5.sq X6.sq
  have w6 := w5.sq X6.sq
  have s6 := s5.sq X6.sq
  refine law_c8 hb g r e F6 kr hln hne s6 fun h7 tk7 u7 sp sv lo F7 O7 iu7 l7 is7 hlo => ?_
  have q7 := (kp_off (lo := L + 1) F6.ns O7 (Nat.lt_succ_self _)).sq
  have c7 := cell_off c6 O7
  have d7 := (Has.upd (u := .ref sp) (y := Str.ofString "spaces") (Has.upd (u := u7) (y := Str.ofString "taken") d6 (by decide +kernel)) (by decide +kernel)).sq q7
  have r7 := (Has.upd (u := .ref sp) (y := Str.ofString "spaces") (Has.upd (u := u7) (y := Str.ofString "taken") r6 (by decide +kernel)) (by decide +kernel)).sq q7
  have w7 := (Has.upd (u := .ref sp) (y := Str.ofString "spaces") (Has.upd (u := u7) (y := Str.ofString "taken") w6 (by decide +kernel)) (by decide +kernel)).sq q7
  have t7 : Has (upd (upd m5 (Str.ofString "taken") u7) (Str.ofString "spaces") (.ref sp)) h7 (Str.ofString "taken") _ := Has.upd (Has.new iu7) (by decide +kernel)
  have p7 : upd (upd m5 (Str.ofString "taken") u7) (Str.ofString "spaces") (.ref sp) (Str.ofString "spaces") = some (.ref sp) := upd_eq
  generalize upd (upd m5 (Str.ofString "taken") u7) (Str.ofString "spaces") (.ref sp) = m7 at *
  refine law_c10 hb g r e F7 kr hln r7 p7 l7 is7 fun h8 tk8 F8 X8 => ?_
  refine law_c11 hb g r e F8 (d7.sq X8.sq) (cell_at c7 (X8 _)) fun h9 tk9 tc F9 K9 c9 => ?_
  have k9 := (Ext.kp (L := L) (lo := lo) X8).trans (K9 lo hlo)
  have r9 := r7.sq k9.sq
  have w9 := w7.sq k9.sq
  have t9 := t7.sq k9.sq
  have l9 := list_sq k9.sq l7
  have is9 := is7.mild k9.mi
  refine law_c12 hb g r e F9 kr hln w9 t9 c9 fun h10 tk10 u10 F10 O10 iu10 => ?_
  have k10 := kp_off (lo := lo) F9.ns O10 (Nat.lt_trans (Nat.lt_succ_self L) hlo)
  have c10 := cell_off c9 O10
  have r10 := (Has.upd (u := u10) (y := Str.ofString "dots") r9 (by decide +kernel)).sq k10.sq
  have t10 := (Has.upd (u := u10) (y := Str.ofString "dots") t9 (by decide +kernel)).sq k10.sq
  have d10 : Has (upd m7 (Str.ofString "dots") u10) h10 (Str.ofString "dots") _ := Has.new iu10
  have p10 : upd m7 (Str.ofString "dots") u10 (Str.ofString "spaces") = some (.ref sp) := upd_ne (by decide +kernel) p7
  have l10 := list_sq k10.sq l9
  have is10 := is9.mild k10.mi
  generalize upd m7 (Str.ofString "dots") u10 = m10 at *
  refine law_c13 hb g r e F10 kr hln r10 d10 fun h11 tk11 F11 X11 => ?_
  have c11 := cell_at c10 (X11 _)
  have r11 := r10.sq X11.sq
  refine law_c14 hb g r e F11 kr hln (t10.sq X11.sq) p10 (list_at l10 (X11 _)) (is10.mild X11.mild) fun h12 tk12 u12 F12 O12 iu12 => ?_
  have k12 := kp_off (lo := lo) F11.ns O12 (Nat.lt_trans (Nat.lt_succ_self L) hlo)
  refine law_c15 hb g r e F12 kr hln ((Has.upd r11 (by decide +kernel)).sq k12.sq) (Has.new iu12) (upd_ne (by decide +kernel) p10) (list_sq k12.sq (list_at l10 (X11 _))) ((is10.mild X11.mild).mild k12.mi) (cell_off c11 O12) fun h13 tk13 F13 X13 => ?_
  exact hQ h13 tk13 F13.keep
theorem f_law {l : Addr} {vs : List Value} {ns : List Int} {R : Result → Shared → Prop} (g : G w mg mb h) (r : Room 9 A) (hl : h.IsList l vs.toArray) (hi : IntsAre vs ns) (hn : ns.length ≤ 63)
    (hR : ∀ h' tk', Ext h h' → R (.ok (.ret (.bool true))) ⟨h', gs, dr, tk', os⟩) : codeAny (model prog w) A (.call (.ref 197) ⟨[.ref l], []⟩) R ⟨h, gs, dr, tk, os⟩ := by
  refine enterC_code (binds := [(Str.ofString "script", .ref l)]) g r
    (by show (Mine.hd.heap_39 w.params).lookup 197 = _; k_is) (by kernel_rfl) rfl rfl rfl rfl (by rfl) (by rfl) rfl rfl rfl ?_
  intro A' env L h₁ tk₁ r' e F hcl g₁ x₁
  dsimp only at e
  have e : EnvIs env L _ [(Str.ofString "total", L + 1)] := e
  have c1 := hcl (Str.ofString "total") (L + 1) (by rfl)
  clear hcl
  refine f_body (l := l) (ns := ns) ⟨_, _, _, _, by show (Mine.hd.heap_39 w.params).lookup 197 = _; k_is, rfl, rfl⟩ g r' e F (by rfl) hl hi hn c1 fun h' tk' X => ?_
  exact hR h' tk' X
end
end

theorem main1 : PySem.Challenge.rw_pe0213_01.Holds := by
  refine Mine.hd ?_
  k_fill
  intro w s₀ s₁ mg mb G Y fa o pm cd doc dV kV ho hd hcd hD hmg hg args vals as hpre hlay hrd hwl hlo
  have KX := kIn_of Y
  refine Ground.open G ?_
  intro T B D TE TW
  clear ho hd hcd hD Y G B D TE TW
  wrow_args hpre hlay hrd hwl hlo
  rename_i ns _ _ _ _ _ _ _ l vs _ hl _ _ _ hi _ hc _
  have hmg : mg (Str.ofString "law") = some (.ref fa) := hmg
  have e1 : mg (Str.ofString "law") = some (.ref 197) := mg_of KX T.g (by kernel_rfl)
  have e2 : fa = 197 := by rw [e1] at hmg; cases hmg; rfl
  subst e2
  have g : Mine.G w mg mb s₁.heap := ⟨KX, T.g, T.b, T.nolimit, T.builtins⟩
  have hn : ns.length ≤ 63 := by omega
  clear hmg e1 T KX hc
  obtain ⟨h, gs, dr, tk, os⟩ := s₁
  dsimp only at hg g hl hi
  subst hg
  have R9 : Room 9 callerA := ⟨rfl, by decide, by decide⟩
  refine wpAny_call (f_law (prog := Challenge.rw_pe0213_01.row.prog) g R9 hl hi hn fun h' tk' X => GoodW.toG ?_)
  refine ⟨.inl ⟨.bool true, .bool true, [], rfl, raisesW_false allW_false_nil, .bool true, ?_, ?_⟩, X, rfl, rfl⟩
  · wrow_post
  · exact fun _ => ⟨List.nodup_nil, fun _ z => nomatch z⟩
end Mine

theorem PySem.Challenge.cw_pe0213_01_holds : PySem.Challenge.rw_pe0213_01.Holds := by
  exact Mine.main1

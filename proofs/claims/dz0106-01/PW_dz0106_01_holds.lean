import PyProof.Rows.All
import Wide.All
import OpenK.AllK
import Wide.FinOn
import PySem.Challenge.RW_dz0106_01
set_option Elab.async false

/- part DzHead -/
namespace Mine
open PySem PySem.W PyProof.Rows
set_option maxRecDepth 100000
set_option maxHeartbeats 8000000
open_top hd for PySem.Challenge.rw_dz0106_01
end Mine

/- part DzSre -/
namespace Mine
open PySem
namespace R
open PySem.Sre

/-- k steps of the machine -/
def iter : Nat → M → M
  | 0, m => m
  | k + 1, m => iter k m.step

theorem step_fix {m : M} (h : m.outcome.isSome = true) : m.step = m := by
  unfold M.step; rw [if_pos h]
theorem iter_fix {m : M} (h : m.outcome.isSome = true) : ∀ k, iter k m = m
  | 0 => rfl
  | k + 1 => by show iter k m.step = m; rw [step_fix h]; exact iter_fix h k
theorem iter_add (a b : Nat) (m : M) : iter (a + b) m = iter b (iter a m) := by
  induction a generalizing m with
  | zero => simp [iter]
  | succ a ih => rw [show a + 1 + b = (a + b) + 1 by omega]; exact ih m.step
theorem runFor_iter : ∀ (k : Nat) (m : M), m.runFor k = iter k m
  | 0, _ => rfl
  | k + 1, m => by
    show (if m.outcome.isSome then m else M.runFor k m.step) = iter k m.step
    cases h : m.outcome.isSome with
    | true => rw [if_pos rfl, step_fix h, iter_fix h]
    | false => rw [if_neg Bool.false_ne_true]; exact runFor_iter k _
theorem iter_ge {m : M} {k k' : Nat} (h : (iter k m).outcome.isSome = true) (hk : k ≤ k') : iter k' m = iter k m := by
  obtain ⟨d, rfl⟩ := Nat.exists_eq_add_of_le hk
  rw [iter_add, iter_fix h]

section
variable {prog : Program} {w : World} {A : Around} {E : Value → Shared → Prop} {s : Shared}
open PySem.Builtin.Re

theorem drive : ∀ (T : Nat) (m : M) (k : Nat) {Q : M → Shared → Prop}, k < 4 * T → (iter k m).outcome.isSome = true → Q (iter k m) s → wpAny (model prog w) A (reDrive T m) Q E s
  | 0, _, _, _, h, _, _ => absurd h (by omega)
  | T + 1, m, k, Q, hk, ho, hq => by
    show wpAny (model prog w) A (if (m.runFor reTurnSteps).outcome.isSome then pure (m.runFor reTurnSteps) else do rule "sre.turn"; reDrive T (m.runFor reTurnSteps)) Q E s
    rw [runFor_iter]
    show wpAny (model prog w) A (if (iter 4 m).outcome.isSome then pure (iter 4 m) else do rule "sre.turn"; reDrive T (iter 4 m)) Q E s
    cases h4 : (iter 4 m).outcome.isSome with
    | true =>
      rw [if_pos rfl]
      refine wpAny_pure ?_
      rcases Nat.le_total k 4 with h | h
      · rw [iter_ge ho h]; exact hq
      · rw [← iter_ge h4 h]; exact hq
    | false =>
      rw [if_neg Bool.false_ne_true]
      have h : 4 < k := by
        rcases Nat.lt_or_ge 4 k with h | h
        · exact h
        · rw [iter_ge ho h, ho] at h4; cases h4
      have e : iter k m = iter (k - 4) (iter 4 m) := by rw [← iter_add]; congr 1; omega
      refine wpAny_bind (wpAny_rule ?_)
      refine drive T (iter 4 m) (k - 4) (by omega) (by rw [← e]; exact ho) (by rw [← e]; exact hq)

theorem rules_for {α : Type} (c : α → Bool) (t : α → String) : ∀ (l : List α) {Q : PUnit → Shared → Prop}, Q ⟨⟩ s →
    wpAny (model prog w) A (forIn l PUnit.unit (fun i _ => if c i = true then do { rule (t i); pure (ForInStep.yield PUnit.unit) } else pure (ForInStep.yield PUnit.unit))) Q E s
  | [], _, h => by rw [List.forIn_nil]; exact wpAny_pure h
  | a :: l, Q, h => by
    rw [List.forIn_cons]
    refine wpAny_bind ?_
    cases c a with
    | true => exact wpAny_bind (wpAny_rule (wpAny_pure (rules_for c t l h)))
    | false => exact wpAny_pure (rules_for c t l h)

theorem toEnd_ok {m m' : M} {k : Nat} {Q : Option M → Shared → Prop} (hk : k < 4 * 2 ^ 64) (he : iter k m = m') (ho : m'.outcome = some .matched) (h : Q (some m') s) : wpAny (model prog w) A (reRunToEnd m) Q E s := by
  subst he
  unfold reRunToEnd
  refine wpAny_bind (drive _ _ k hk (by rw [ho]; rfl) ?_)
  refine wpAny_bind (rules_for _ _ _ ?_)
  rw [ho]
  exact wpAny_pure h
theorem toEnd_no {m m' : M} {k : Nat} {Q : Option M → Shared → Prop} (hk : k < 4 * 2 ^ 64) (he : iter k m = m') (ho : m'.outcome = some .failed) (h : Q none s) : wpAny (model prog w) A (reRunToEnd m) Q E s := by
  subst he
  unfold reRunToEnd
  refine wpAny_bind (drive _ _ k hk (by rw [ho]; rfl) ?_)
  refine wpAny_bind (rules_for _ _ _ ?_)
  rw [ho]
  exact wpAny_pure h
end

end R
end Mine

/- part DzSre2 -/
namespace Mine
open PySem
namespace R
open PySem.Sre
set_option linter.unusedSimpArgs false

abbrev st (c t : Array Nat) (lim ls start : Nat) (must : Bool) (pc pos handed : Nat) (om : Bool) (frames : List Sre.Frame) (weight : Nat) (answer : Option Bool) (seen : Seen) (outcome : Option Sre.Outcome) : M :=
  { code := c, text := t, lim := lim, start := start, lastStart := ls, wholeText := false, mustAdvance := must, pc := pc, pos := pos, handed := handed, outermost := om,
    marks := #[], lastmark := -1, lastindex := -1, loops := #[], inner := none, frames := frames, weight := weight, answer := answer, seen := seen, outcome := outcome }
abbrev k0 : Sre.Kept := { lastmark := -1, lastindex := -1, whole := false, marks := #[] }
abbrev fStart (pc s : Nat) (first : Bool) : Sre.Frame := { wait := .nextStart, pc := pc, pos := s, outermost := first }
abbrev fBranch (alt pos : Nat) (om : Bool) : Sre.Frame := { wait := .nextBranch, pc := alt, pos := pos, outermost := om, kept := k0 }
abbrev fNot (pc pos : Nat) (om : Bool) : Sre.Frame := { wait := .lookNot, pc := pc, pos := pos, outermost := om, kept := k0 }

def Leads (K : Nat) (m : M) (P : M → Prop) : Prop := ∃ k, k ≤ K ∧ (iter k m).outcome.isSome = true ∧ P (iter k m)
theorem Leads.step {K : Nat} {m m' : M} {P : M → Prop} (e : m.step = m') (h : Leads K m' P) : Leads (K + 1) m P := by
  obtain ⟨k, hk, h1, h2⟩ := h
  subst e
  exact ⟨k + 1, by omega, h1, h2⟩
theorem Leads.stop {K : Nat} {m : M} {P : M → Prop} (h1 : m.outcome.isSome = true) (h2 : P m) : Leads K m P := ⟨0, by omega, h1, h2⟩
theorem Leads.le {K K' : Nat} {m : M} {P : M → Prop} (h : Leads K m P) (hk : K ≤ K') : Leads K' m P :=
  let ⟨k, a, b, c⟩ := h; ⟨k, by omega, b, c⟩

section
variable {c t : Array Nat} {lim ls start : Nat} {must : Bool} {pc pos handed : Nat} {om : Bool} {fr : List Sre.Frame} {wt : Nat} {sn : Seen} {K : Nat} {P : M → Prop}

theorem op16 : ops[16]? = some .LITERAL := rfl
theorem op15 : ops[15]? = some .JUMP := rfl
theorem op14 : ops[14]? = some .INFO := rfl
theorem op7 : ops[7]? = some .BRANCH := rfl
theorem op6 : ops[6]? = some .AT := rfl
theorem op5 : ops[5]? = some .ASSERT_NOT := rfl
theorem op1 : ops[1]? = some .SUCCESS := rfl
theorem op0 : ops[0]? = some .FAILURE := rfl

theorem lit_ok (hpc : pc < c.size) (hc : c.getD pc 0 = 16) (hp : pos < lim) (hx : t.getD pos 0 = c.getD (pc + 1) 0)
    (h : ∀ sn, Leads K (st c t lim ls start must (pc + 2) (pos + 1) handed om fr wt none sn none) P) : Leads (K + 1) (st c t lim ls start must pc pos handed om fr wt none sn none) P := by
  refine Leads.step ?_ (h (sn.add 16))
  simp only [M.step, M.exec, M.word, Nat.add_zero, hc, op16, accepts, hpc, if_true, if_false, Option.isSome_none, Bool.false_eq_true, hx, beq_self_eq_true, itemWidth, Nat.not_le.mpr hp, ge_iff_le]
theorem lit_no (hpc : pc < c.size) (hc : c.getD pc 0 = 16) (hx : pos < lim → t.getD pos 0 ≠ c.getD (pc + 1) 0)
    (h : ∀ sn, Leads K (st c t lim ls start must pc pos handed om fr wt (some false) sn none) P) : Leads (K + 1) (st c t lim ls start must pc pos handed om fr wt none sn none) P := by
  by_cases hp : pos < lim
  · refine Leads.step ?_ (h (sn.add 16))
    simp only [M.step, M.exec, M.word, Nat.add_zero, hc, op16, accepts, hpc, if_true, if_false, Option.isSome_none, Bool.false_eq_true, beq_eq_false_iff_ne.mpr (hx hp), Nat.not_le.mpr hp, ge_iff_le, M.say]
  · refine Leads.step ?_ (h (sn.add 16))
    simp only [M.step, M.exec, M.word, Nat.add_zero, hc, op16, accepts, hpc, if_true, if_false, Option.isSome_none, Bool.false_eq_true, Nat.not_lt.mp hp, ge_iff_le, M.say]
theorem jump (hpc : pc < c.size) (hc : c.getD pc 0 = 15)
    (h : ∀ sn, Leads K (st c t lim ls start must (pc + 1 + c.getD (pc + 1) 0) pos handed om fr wt none sn none) P) : Leads (K + 1) (st c t lim ls start must pc pos handed om fr wt none sn none) P := by
  refine Leads.step ?_ (h (sn.add 15))
  simp only [M.step, M.exec, M.word, Nat.add_zero, hc, op15, hpc, if_true, if_false, Option.isSome_none, Bool.false_eq_true]
theorem succ (hpc : pc < c.size) (hc : c.getD pc 0 = 1) (hm : (must && pos == start) = false)
    (h : ∀ sn, Leads K (st c t lim ls start must pc pos pos om fr wt (some true) sn none) P) : Leads (K + 1) (st c t lim ls start must pc pos handed om fr wt none sn none) P := by
  refine Leads.step ?_ (h (sn.add 1))
  simp only [M.step, M.exec, M.word, Nat.add_zero, hc, op1, hpc, if_true, if_false, Option.isSome_none, Bool.false_eq_true, hm, Bool.false_and, Bool.or_false, Bool.and_false, M.say]
theorem at1_ok (hpc : pc < c.size) (hc : c.getD pc 0 = 6) (hk : c.getD (pc + 1) 0 = 1) (hx : (pos == 0 || t.getD (pos - 1) 0 == 10) = true)
    (h : ∀ sn, Leads K (st c t lim ls start must (pc + 2) pos handed om fr wt none sn none) P) : Leads (K + 1) (st c t lim ls start must pc pos handed om fr wt none sn none) P := by
  refine Leads.step ?_ (h ((sn.add 6).add (43 + 1)))
  simp only [M.step, M.exec, M.word, Nat.add_zero, hc, op6, hpc, if_true, if_false, Option.isSome_none, Bool.false_eq_true, M.isAt, hk, hx]
theorem at1_no (hpc : pc < c.size) (hc : c.getD pc 0 = 6) (hk : c.getD (pc + 1) 0 = 1) (hx : (pos == 0 || t.getD (pos - 1) 0 == 10) = false)
    (h : ∀ sn, Leads K (st c t lim ls start must pc pos handed om fr wt (some false) sn none) P) : Leads (K + 1) (st c t lim ls start must pc pos handed om fr wt none sn none) P := by
  refine Leads.step ?_ (h ((sn.add 6).add (43 + 1)))
  simp only [M.step, M.exec, M.word, Nat.add_zero, hc, op6, hpc, if_true, if_false, Option.isSome_none, Bool.false_eq_true, M.isAt, hk, hx, M.say]
theorem branch (hpc : pc < c.size) (hc : c.getD pc 0 = 7) (hk : (c.getD (pc + 1) 0 == 0) = false) (hw : wt < 1000)
    (h : ∀ sn, Leads K (st c t lim ls start must (pc + 2) pos pos om (fBranch (pc + 1) pos om :: fr) (wt + 1) none sn none) P) : Leads (K + 1) (st c t lim ls start must pc pos handed om fr wt none sn none) P := by
  refine Leads.step ?_ (h (sn.add 7))
  have hw' : ¬ (wt + 1 + 0 > 16777216) := by omega
  simp only [M.step, M.exec, M.word, Nat.add_zero, hc, op7, hpc, if_true, if_false, Option.isSome_none, Bool.false_eq_true, M.alternative, hk, M.attempt, M.frame, M.keep, List.size_toArray, List.length_nil, hw', Nat.add_assoc]
theorem nextBranch_no {alt p2 : Nat} {om2 : Bool} (hk : (c.getD (alt + c.getD alt 0) 0 == 0) = false) (hw : wt < 1000)
    (h : ∀ sn, Leads K (st c t lim ls start must (alt + c.getD alt 0 + 1) p2 p2 om2 (fBranch (alt + c.getD alt 0) p2 om2 :: fr) (wt + 1) none sn none) P) :
    Leads (K + 1) (st c t lim ls start must pc pos handed om (fBranch alt p2 om2 :: fr) (wt + 1) (some false) sn none) P := by
  refine Leads.step ?_ (h sn)
  have hw' : ¬ (wt + 1 + 0 > 16777216) := by omega
  simp only [M.step, M.resume, M.putBack, Nat.add_zero, if_false, Option.isSome_none, Bool.false_eq_true, M.alternative, hk, M.attempt, M.frame, List.size_toArray, List.length_nil, Nat.add_sub_cancel]
  rw [if_neg (by simpa using hw')]
theorem nextBranch_yes {alt p2 : Nat} {om2 : Bool}
    (h : ∀ sn, Leads K (st c t lim ls start must alt p2 handed om2 fr wt (some true) sn none) P) :
    Leads (K + 1) (st c t lim ls start must pc pos handed om (fBranch alt p2 om2 :: fr) (wt + 1) (some true) sn none) P := by
  refine Leads.step ?_ (h sn)
  simp only [M.step, M.resume, Nat.add_zero, if_true, if_false, Option.isSome_none, Bool.false_eq_true, List.size_toArray, List.length_nil, Nat.add_sub_cancel, M.say]
theorem assertNot (hpc : pc < c.size) (hc : c.getD pc 0 = 5) (hk : c.getD (pc + 2) 0 = 0) (hw : wt < 1000)
    (h : ∀ sn, Leads K (st c t lim ls start must (pc + 3) pos pos false (fNot pc pos om :: fr) (wt + 1) none sn none) P) : Leads (K + 1) (st c t lim ls start must pc pos handed om fr wt none sn none) P := by
  refine Leads.step ?_ (h (sn.add 5))
  have hw' : ¬ (wt + 1 + 0 > 16777216) := by omega
  simp only [M.step, M.exec, M.word, Nat.add_zero, hc, op5, hpc, if_true, if_false, Option.isSome_none, Bool.false_eq_true, hk, Nat.not_lt_zero, M.attempt, M.frame, M.keep, List.size_toArray, List.length_nil, hw', Bool.and_false, Nat.sub_zero]
theorem lookNot_no {pc2 p2 : Nat} {om2 : Bool}
    (h : ∀ sn, Leads K (st c t lim ls start must (pc2 + 1 + c.getD (pc2 + 1) 0) p2 handed om2 fr wt none sn none) P) :
    Leads (K + 1) (st c t lim ls start must pc pos handed om (fNot pc2 p2 om2 :: fr) (wt + 1) (some false) sn none) P := by
  refine Leads.step ?_ (h sn)
  simp only [M.step, M.resume, M.putBack, M.word, Nat.add_zero, if_true, if_false, Option.isSome_none, Bool.false_eq_true, List.size_toArray, List.length_nil, Nat.add_sub_cancel]
theorem start_yes {pc2 p2 : Nat} {om2 : Bool}
    (h : ∀ sn, Leads K (st c t lim ls start must pc2 p2 handed om2 fr wt (some true) sn none) P) :
    Leads (K + 1) (st c t lim ls start must pc pos handed om (fStart pc2 p2 om2 :: fr) (wt + 1) (some true) sn none) P := by
  refine Leads.step ?_ (h sn)
  simp only [M.step, M.resume, Nat.add_zero, if_true, if_false, Option.isSome_none, Bool.false_eq_true, List.size_toArray, List.length_nil, Nat.add_sub_cancel, M.say]
theorem start_last {pc2 p2 : Nat} {om2 : Bool} (hl : ls ≤ p2)
    (h : ∀ sn, Leads K (st c t lim ls start must pc2 p2 handed om2 fr wt (some false) sn none) P) :
    Leads (K + 1) (st c t lim ls start must pc pos handed om (fStart pc2 p2 om2 :: fr) (wt + 1) (some false) sn none) P := by
  refine Leads.step ?_ (h sn)
  simp only [M.step, M.resume, Nat.add_zero, if_true, if_false, Option.isSome_none, Bool.false_eq_true, List.size_toArray, List.length_nil, Nat.add_sub_cancel, M.say, Nat.not_lt.mpr hl]
theorem start_on {pc2 p2 : Nat} {om2 : Bool} (hl : p2 < ls) (hf : (c.getD 2 0 == 4) = false) (hw : wt < 1000)
    (h : ∀ sn, Leads K (st c t lim ls (p2 + 1) false pc2 (p2 + 1) (p2 + 1) false (fStart pc2 (p2 + 1) false :: fr) (wt + 1) none sn none) P) :
    Leads (K + 1) (st c t lim ls start must pc pos handed om (fStart pc2 p2 om2 :: fr) (wt + 1) (some false) sn none) P := by
  refine Leads.step ?_ (h sn)
  have hw' : ¬ (wt + 1 + 0 > 16777216) := by omega
  simp only [M.step, M.resume, Nat.add_zero, if_true, if_false, Option.isSome_none, Bool.false_eq_true, List.size_toArray, List.length_nil, Nat.add_sub_cancel, M.attemptFrom, M.hasFirstSet, hl, hf, Bool.and_false, Bool.not_false, M.attemptAt, M.attempt]
  rw [if_neg (by simpa using hw')]
theorem out_yes (h : P (st c t lim ls start must pc pos handed om [] wt (some true) sn (some .matched))) : Leads (K + 1) (st c t lim ls start must pc pos handed om [] wt (some true) sn none) P := by
  refine Leads.step ?_ (Leads.stop rfl h)
  simp only [M.step, if_true, if_false, Option.isSome_none, Bool.false_eq_true]
theorem out_no (h : P (st c t lim ls start must pc pos handed om [] wt (some false) sn (some .failed))) : Leads (K + 1) (st c t lim ls start must pc pos handed om [] wt (some false) sn none) P := by
  refine Leads.step ?_ (Leads.stop rfl h)
  simp only [M.step, if_true, if_false, Option.isSome_none, Bool.false_eq_true]
end
end R
end Mine

/- part DzSre3 -/
namespace Mine
open PySem
namespace R
open PySem.Sre
set_option linter.unusedSimpArgs false
set_option linter.unusedVariables false

def code3 : Array Nat := #[14, 9, 4, 1, 2, 16, 10, 16, 13, 0, 7, 7, 16, 13, 16, 10, 15, 18, 5, 16, 10, 15, 13, 11, 16, 13, 5, 5, 0, 16, 10, 1, 15, 2, 0, 1]
def code1 : Array Nat := #[14, 4, 0, 1, 1, 6, 1, 16, 46, 1]

theorem forSearch3 (t : Array Nat) (p lim : Nat) (must : Bool) : forSearch code3 t 0 p lim must =
    if p > lim || lim - p < 1 then st code3 t lim 0 p must 10 p p true [] 0 (some false) (({} : Seen).add 14) none
    else (st code3 t lim lim p must 10 p p true [] 0 none (({} : Seen).add 14) none).attemptFrom p true := rfl
theorem forSearch1 (t : Array Nat) (p lim : Nat) (must : Bool) : forSearch code1 t 0 p lim must =
    if p > lim || lim - p < 1 then st code1 t lim 0 p must 5 p p true [] 0 (some false) (({} : Seen).add 14) none
    else (st code1 t lim lim p must 5 p p true [] 0 none (({} : Seen).add 14) none).attemptFrom p true := rfl

theorem inSet3 (x : Nat) (sn : Seen) : ∃ sn', inSet code3 x code3.size 5 true sn = .ok (x == 10 || x == 13, sn') := by
  show ∃ sn', inSet code3 x 36 5 true sn = .ok (x == 10 || x == 13, sn')
  have e1 : inSet code3 x 36 5 true sn = if (x == 10) = true then .ok (true, sn.add 16) else inSet code3 x 35 7 true (sn.add 16) := rfl
  have e2 : ∀ sn, inSet code3 x 35 7 true sn = if (x == 13) = true then .ok (true, sn.add 16) else inSet code3 x 34 9 true (sn.add 16) := fun _ => rfl
  have e3 : ∀ sn, inSet code3 x 34 9 true sn = .ok (false, sn.add 0) := fun _ => rfl
  rw [e1]
  cases h1 : x == 10 with
  | true => exact ⟨_, rfl⟩
  | false =>
    rw [if_neg Bool.false_ne_true, e2]
    cases h2 : x == 13 with
    | true => exact ⟨_, rfl⟩
    | false => rw [if_neg Bool.false_ne_true, e3]; exact ⟨_, rfl⟩

def eol (x : Nat) : Bool := x == 10 || x == 13

theorem admitted3 {m : M} (hc : m.code = code3) {b : Nat} (hb : b ≤ m.lim) (hx : b = m.lim ∨ eol (m.text.getD b 0) = true) : ∀ (fuel s : Nat) (sn : Seen), s ≤ b → b < s + fuel → (∀ i, s ≤ i → i < b → eol (m.text.getD i 0) = false) →
    ∃ sn', M.admitted m fuel s sn = .ok (if b < m.lim then some b else none, sn')
  | 0, s, sn, h1, h2, _ => absurd h2 (by omega)
  | fuel + 1, s, sn, h1, h2, h3 => by
    unfold M.admitted
    by_cases hs : s ≥ m.lim
    · rw [if_pos hs, if_neg (by omega)]; exact ⟨_, rfl⟩
    · rw [if_neg hs, hc]
      obtain ⟨sn', e⟩ := inSet3 (m.text.getD s 0) sn
      rw [e]
      by_cases hsb : s = b
      · subst hsb
        have h4 : (m.text.getD s 0 == 10 || m.text.getD s 0 == 13) = true := hx.resolve_left (by omega)
        rw [h4, if_pos (by omega)]
        exact ⟨_, rfl⟩
      · have h4 : (m.text.getD s 0 == 10 || m.text.getD s 0 == 13) = false := h3 s (Nat.le_refl _) (by omega)
        rw [h4]
        exact admitted3 hc hb hx fuel (s + 1) sn' (by omega) (by omega) fun i hi hib => h3 i (by omega) hib

/-- where the line end at b leads to -/
def eolEnd (t : Array Nat) (b : Nat) : Nat := if t.getD b 0 = 13 ∧ t.getD (b + 1) 0 = 10 ∧ b + 1 < t.size then b + 2 else b + 1

theorem try3 {t : Array Nat} {b ls : Nat} {sn : Seen} (hb : b < t.size) (hx : eol (t.getD b 0) = true) :
    Leads 20 (st code3 t t.size ls b false 10 b b true [fStart 10 b true] 1 none sn none) (fun m => m.outcome = some .matched ∧ m.start = b ∧ m.handed = eolEnd t b) := by
  refine branch (by decide) rfl rfl (by decide) fun sn => ?_
  by_cases h13 : t.getD b 0 = 13
  · refine lit_ok (by decide) rfl hb h13 fun sn => ?_
    by_cases h10 : t.getD (b + 1) 0 = 10 ∧ b + 1 < t.size
    · refine lit_ok (by decide) rfl h10.2 h10.1 fun sn => ?_
      refine jump (by decide) rfl fun sn => ?_
      refine succ (by decide) rfl rfl fun sn => ?_
      refine nextBranch_yes fun sn => ?_
      refine start_yes fun sn => ?_
      refine out_yes ⟨rfl, rfl, ?_⟩
      rw [eolEnd, if_pos ⟨h13, h10.1, h10.2⟩]
    · refine lit_no (by decide) rfl (fun hl he => h10 ⟨he, hl⟩) fun sn => ?_
      refine nextBranch_no rfl (by decide) fun sn => ?_
      refine lit_no (by decide) rfl (fun _ he => absurd (h13.symm.trans he) (by decide)) fun sn => ?_
      refine nextBranch_no rfl (by decide) fun sn => ?_
      refine lit_ok (by decide) rfl hb h13 fun sn => ?_
      refine assertNot (by decide) rfl rfl (by decide) fun sn => ?_
      refine lit_no (by decide) rfl (fun hl he => h10 ⟨he, hl⟩) fun sn => ?_
      refine lookNot_no fun sn => ?_
      refine jump (by decide) rfl fun sn => ?_
      refine succ (by decide) rfl rfl fun sn => ?_
      refine nextBranch_yes fun sn => ?_
      refine start_yes fun sn => ?_
      refine out_yes ⟨rfl, rfl, ?_⟩
      rw [eolEnd, if_neg (fun h => h10 h.2)]
  · have h10 : t.getD b 0 = 10 := by
      rcases Bool.or_eq_true_iff.mp hx with h | h
      · exact eq_of_beq h
      · exact absurd (eq_of_beq h) h13
    refine lit_no (by decide) rfl (fun _ he => h13 he) fun sn => ?_
    refine nextBranch_no rfl (by decide) fun sn => ?_
    refine lit_ok (by decide) rfl hb h10 fun sn => ?_
    refine jump (by decide) rfl fun sn => ?_
    refine succ (by decide) rfl rfl fun sn => ?_
    refine nextBranch_yes fun sn => ?_
    refine start_yes fun sn => ?_
    refine out_yes ⟨rfl, rfl, ?_⟩
    rw [eolEnd, if_neg (fun h => h13 h.1)]

theorem search3_yes {t : Array Nat} {p b : Nat} {must : Bool} (hp : p ≤ b) (hb : b < t.size) (hx : eol (t.getD b 0) = true) (hn : ∀ i, p ≤ i → i < b → eol (t.getD i 0) = false) :
    Leads 20 (forSearch code3 t 0 p t.size must) (fun m => m.outcome = some .matched ∧ m.start = b ∧ m.handed = eolEnd t b) := by
  rw [forSearch3, if_neg (by simp; omega)]
  unfold M.attemptFrom
  rw [show (st code3 t t.size t.size p must 10 p p true [] 0 none (({} : Seen).add 14) none).hasFirstSet = true from rfl, if_neg (by decide)]
  obtain ⟨sn', e⟩ := admitted3 (m := st code3 t t.size t.size p must 10 p p true [] 0 none (({} : Seen).add 14) none) rfl (b := b) (Nat.le_of_lt hb) (.inr hx) (t.size + 1 - p) p (({} : Seen).add 14) hp (by omega) hn
  rw [e, if_pos hb]
  exact try3 (ls := t.size) hb hx
theorem search3_no {t : Array Nat} {p : Nat} {must : Bool} (hp : p ≤ t.size) (hn : ∀ i, p ≤ i → i < t.size → eol (t.getD i 0) = false) :
    Leads 20 (forSearch code3 t 0 p t.size must) (fun m => m.outcome = some .failed) := by
  rw [forSearch3]
  by_cases h : p < t.size
  · rw [if_neg (by simp; omega)]
    unfold M.attemptFrom
    rw [show (st code3 t t.size t.size p must 10 p p true [] 0 none (({} : Seen).add 14) none).hasFirstSet = true from rfl, if_neg (by decide)]
    obtain ⟨sn', e⟩ := admitted3 (m := st code3 t t.size t.size p must 10 p p true [] 0 none (({} : Seen).add 14) none) rfl (b := t.size) (Nat.le_refl _) (.inl rfl) (t.size + 1 - p) p (({} : Seen).add 14) hp (by omega) hn
    rw [e, if_neg (Nat.lt_irrefl _)]
    exact out_no rfl
  · rw [if_pos (by simp; omega)]
    exact out_no rfl

/-- a dot at a row's head -/
def hit (t : Array Nat) (b : Nat) : Bool := (b == 0 || t.getD (b - 1) 0 == 10) && t.getD b 0 == 46

theorem tries1_yes {t : Array Nat} {b : Nat} (hb : b < t.size) (hx : hit t b = true) : ∀ (d s : Nat) (must first : Bool) (sn : Seen), s + d = b → (∀ i, s ≤ i → i < b → hit t i = false) →
    Leads (4 * d + 10) (st code1 t t.size t.size s must 5 s s first [fStart 5 s first] 1 none sn none) (fun m => m.outcome = some .matched ∧ m.start = b ∧ m.handed = b + 1)
  | 0, s, must, first, sn, e, _ => by
    obtain rfl : s = b := e
    obtain ⟨h1, h2⟩ := Bool.and_eq_true_iff.mp hx
    refine at1_ok (by decide) rfl rfl h1 fun sn => ?_
    refine lit_ok (by decide) rfl hb (eq_of_beq h2) fun sn => ?_
    refine succ (by decide) rfl (by simp) fun sn => ?_
    refine start_yes fun sn => ?_
    exact out_yes ⟨rfl, rfl, rfl⟩
  | d + 1, s, must, first, sn, e, hn => by
    have hs : hit t s = false := hn s (Nat.le_refl _) (by omega)
    have on : ∀ sn pc, Leads (4 * d + 11) (st code1 t t.size t.size s must pc s s first [fStart 5 s first] 1 (some false) sn none) (fun m => m.outcome = some .matched ∧ m.start = b ∧ m.handed = b + 1) := fun sn pc =>
      start_on (by omega) rfl (by decide) fun sn => tries1_yes hb hx d (s + 1) false false sn (by omega) fun i hi hib => hn i (by omega) hib
    cases h1 : (s == 0 || t.getD (s - 1) 0 == 10) with
    | true =>
      refine (at1_ok (K := 4 * d + 12) (by decide) rfl rfl h1 fun sn => ?_).le (by omega)
      refine lit_no (by decide) rfl (fun _ he => ?_) fun sn => on sn _
      rw [hit, h1] at hs
      have he' : t.getD s 0 = 46 := he
      rw [he'] at hs
      cases hs
    | false =>
      exact (at1_no (K := 4 * d + 11) (by decide) rfl rfl h1 fun sn => on sn _).le (by omega)
theorem tries1_no {t : Array Nat} : ∀ (d s : Nat) (must first : Bool) (sn : Seen), s + d = t.size → (∀ i, s ≤ i → i < t.size → hit t i = false) →
    Leads (4 * d + 10) (st code1 t t.size t.size s must 5 s s first [fStart 5 s first] 1 none sn none) (fun m => m.outcome = some .failed)
  | 0, s, must, first, sn, e, _ => by
    have hs : s = t.size := e
    have off : ∀ sn pc, Leads 5 (st code1 t t.size t.size s must pc s s first [fStart 5 s first] 1 (some false) sn none) (fun m => m.outcome = some .failed) := fun sn pc =>
      start_last (by omega) fun sn => out_no rfl
    cases h1 : (s == 0 || t.getD (s - 1) 0 == 10) with
    | true =>
      refine (at1_ok (K := 6) (by decide) rfl rfl h1 fun sn => ?_).le (by omega)
      exact lit_no (by decide) rfl (fun hl => absurd hl (by omega)) fun sn => off sn _
    | false => exact (at1_no (K := 5) (by decide) rfl rfl h1 fun sn => off sn _).le (by omega)
  | d + 1, s, must, first, sn, e, hn => by
    have hs : hit t s = false := hn s (Nat.le_refl _) (by omega)
    have on : ∀ sn pc, Leads (4 * d + 11) (st code1 t t.size t.size s must pc s s first [fStart 5 s first] 1 (some false) sn none) (fun m => m.outcome = some .failed) := fun sn pc =>
      start_on (by omega) rfl (by decide) fun sn => tries1_no d (s + 1) false false sn (by omega) fun i hi hib => hn i (by omega) hib
    cases h1 : (s == 0 || t.getD (s - 1) 0 == 10) with
    | true =>
      refine (at1_ok (K := 4 * d + 12) (by decide) rfl rfl h1 fun sn => ?_).le (by omega)
      refine lit_no (by decide) rfl (fun _ he => ?_) fun sn => on sn _
      rw [hit, h1] at hs
      have he' : t.getD s 0 = 46 := he
      rw [he'] at hs
      cases hs
    | false =>
      exact (at1_no (K := 4 * d + 11) (by decide) rfl rfl h1 fun sn => on sn _).le (by omega)

theorem from1 (t : Array Nat) (p : Nat) (must : Bool) (sn : Seen) : (st code1 t t.size t.size p must 5 p p true [] 0 none sn none).attemptFrom p true = st code1 t t.size t.size p must 5 p p true [fStart 5 p true] 1 none sn none := rfl
theorem search1_yes {t : Array Nat} {p b : Nat} {must : Bool} (hp : p ≤ b) (hb : b < t.size) (hx : hit t b = true) (hn : ∀ i, p ≤ i → i < b → hit t i = false) :
    Leads (4 * t.size + 10) (forSearch code1 t 0 p t.size must) (fun m => m.outcome = some .matched ∧ m.start = b ∧ m.handed = b + 1) := by
  rw [forSearch1, if_neg (by simp; omega), from1]
  exact (tries1_yes hb hx (b - p) p must true _ (by omega) hn).le (by omega)
theorem search1_no {t : Array Nat} {p : Nat} {must : Bool} (hp : p ≤ t.size) (hn : ∀ i, p ≤ i → i < t.size → hit t i = false) :
    Leads (4 * t.size + 10) (forSearch code1 t 0 p t.size must) (fun m => m.outcome = some .failed) := by
  rw [forSearch1]
  by_cases h : p < t.size
  · rw [if_neg (by simp; omega), from1]
    exact (tries1_no (t.size - p) p must true _ (by omega) hn).le (by omega)
  · rw [if_pos (by simp; omega)]
    exact Leads.le (K' := 4 * t.size + 10) (out_no (K := 0) rfl) (by omega)
end R
end Mine

/- part DzFacts -/
namespace Mine
open PySem PySem.W PySem.Calls
set_option maxRecDepth 100000
open Builtin
theorem slot_sub : Slot "re.Pattern" "sub" "re.Pattern.sub" :=
  .of (owner := "re.Pattern") (n := "sub") (by rw [typeLookup_type, builtinLookup_eq_fast]; kernel_rfl) (by decide +kernel) (by decide +kernel) (by decide +kernel)
    (by first | exact .inl (by decide +kernel) | exact .inr (by decide +kernel)) (by rw [isSubtype_type]; kernel_rfl)
theorem type_sub : typeOf (.builtin "re.Pattern.sub") = pure (.type "method_descriptor") := by show builtinType _ = _; rw [builtinType_eq_fast]; kernel_rfl
theorem entry_sub : entryFor table "re.Pattern.sub" = some Builtin.«re.Pattern.sub» := entryFor_of_tree (by kernel_rfl)
theorem entry_loop : entryFor table "re.Pattern.sub.loop" = some Builtin.«re.Pattern.sub.loop» := entryFor_of_tree (by kernel_rfl)
theorem plain_loop : plainId "re.Pattern.sub.loop" = true := by decide +kernel
theorem args_sub_3 (a b c : Value) : argsOk "re.Pattern.sub" ⟨[a, b, c], []⟩ := by unfold argsOk; kernel_rfl
theorem look_pat_getattribute : ∃ id, typeLookup (.type "re.Pattern") "__getattribute__" = pure (some (.builtin id)) ∧ (Manifest.canonical id != "object.__getattribute__") = false :=
  ⟨"object.__getattribute__", by rw [typeLookup_type, builtinLookup_eq_fast]; kernel_rfl, by decide +kernel⟩
theorem look_pat_getattr : typeLookup (.type "re.Pattern") "__getattr__" = pure none := by rw [typeLookup_type, builtinLookup_eq_fast]; kernel_rfl
theorem look_str_call : typeLookup (.type "str") "__call__" = pure none := by rw [typeLookup_type, builtinLookup_eq_fast]; kernel_rfl
theorem look_bytes_call : typeLookup (.type "bytes") "__call__" = pure none := by rw [typeLookup_type, builtinLookup_eq_fast]; kernel_rfl
theorem slot_bjoin : Slot "bytes" "join" "bytes.join" :=
  .of (owner := "bytes") (n := "join") (by rw [typeLookup_type, builtinLookup_eq_fast]; kernel_rfl) (by decide +kernel) (by decide +kernel) (by decide +kernel)
    (by first | exact .inl (by decide +kernel) | exact .inr (by decide +kernel)) (by rw [isSubtype_type]; kernel_rfl)
theorem entry_bjoin : entryFor table "bytes.join" = some Builtin.«bytes.join» := entryFor_of_tree (by kernel_rfl)
theorem args_bjoin (a b : Value) : argsOk "bytes.join" ⟨[a, b], []⟩ := by
  unfold argsOk; rw [signature?_of (id := "bytes.join") (n := ['n', 'i', 'o', 'j']) (o := ['s', 'e', 't', 'y', 'b']) (by kernel_rfl) FB.owner_bytes]; kernel_rfl
end Mine

/- part DzBJoin -/
namespace Mine
open PySem PySem.W PySem.Calls
open Builtin

inductive BytsAre : List Value → List (Array UInt8) → Prop
  | nil : BytsAre [] []
  | cons (y : Array UInt8) (t : Tok) {vs ys} : BytsAre vs ys → BytsAre (.bytes y t :: vs) (y :: ys)
theorem BytsAre.append {vs us : List Value} {ys zs : List (Array UInt8)} (h : BytsAre vs ys) (k : BytsAre us zs) : BytsAre (vs ++ us) (ys ++ zs) := by
  induction h with
  | nil => exact k
  | cons y t _ ih => exact .cons y t ih
theorem BytsAre.length {vs : List Value} {ys : List (Array UInt8)} (h : BytsAre vs ys) : vs.length = ys.length := by
  induction h with
  | nil => rfl
  | cons y t _ ih => simp [ih]
theorem BytsAre.get {vs : List Value} {ys : List (Array UInt8)} (h : BytsAre vs ys) : ∀ i, i < ys.length → ∃ t, vs.getD i .none = .bytes (ys.getD i #[]) t := by
  induction h with
  | nil => intro i hi; exact absurd hi (by simp)
  | cons y t _ ih =>
    intro i hi
    cases i with
    | zero => exact ⟨t, rfl⟩
    | succ i =>
      obtain ⟨t', e⟩ := ih i (by simpa using hi)
      exact ⟨t', by simpa using e⟩

theorem joined_nil (ys : List (Array UInt8)) : Bytes.joined #[] ys = ys.foldl (· ++ ·) #[] := by
  unfold Bytes.joined
  have e : (fun (out : Array UInt8) (x : Array UInt8 × Nat) => (match x with | (p, i) => (if i > 0 then out ++ #[] else out) ++ p)) = fun out x => out ++ x.1 := by
    funext out x
    obtain ⟨p, i⟩ := x
    simp
  rw [e]
  have g : ∀ (l : List (Array UInt8)) (k : Nat) (o : Array UInt8), (l.zipIdx k).foldl (fun out x => out ++ x.1) o = l.foldl (· ++ ·) o := by
    intro l
    induction l with
    | nil => intros; rfl
    | cons a l ih => intro k o; simp [List.zipIdx_cons, ih]
  exact g ys 0 #[]

section
variable {prog : Program} {w : World} {A : Around} {E : Value → Shared → Prop} {s : Shared}

theorem buffer_full {id : String} {b : Array UInt8} {t : Tok} {f : Bool} : Bytes.buffer? id (.bytes b t) f = pure (some b) := by
  unfold Bytes.buffer?
  rw [KBy.special_eq KBy.look_buffer, KBy.own_buffer, KBy.own_release]
  kernel_rfl
theorem take_eq {id : String} {b : Array UInt8} {t : Tok} : Bytes.takeBufferQuiet? id (.bytes b t) 0 = pure (some (b, none)) := by
  unfold Bytes.takeBufferQuiet? Bytes.takeBuffer?
  simp only [KBy.special_eq KBy.look_buffer, KBy.own_buffer, buffer_full]
  kernel_rfl

theorem letGos : ∀ (taken : List (Value × Option Value)) (keep : List Value) {Q : Unit → Shared → Prop}, (∀ p ∈ taken, p.2 = none) → Q () s → wpAny (model prog w) A (Bytes.joinLetGo taken keep) Q E s
  | [], _, _, _, h => wpAny_pure h
  | (x, u) :: r, keep, Q, hn, h => by
    obtain rfl : u = none := hn _ (.head _)
    unfold Bytes.joinLetGo
    exact wpAny_bind (wpAny_letGo (letGos r keep (fun p hp => hn p (.tail _ hp)) h))

theorem forIn_inv {α β : Type} {prog : Program} {w : World} {A : Around} {E : Value → Shared → Prop} {s : Shared} (I : Nat → β → Prop) (f : α → β → Sem (ForInStep β)) : ∀ (l : List α) (k : Nat) (b : β) {Q : β → Shared → Prop}, I k b →
    (∀ i (hi : i < l.length) b, I (k + i) b → wpAny (model prog w) A (f l[i] b) (fun r s' => s' = s ∧ ∃ b', r = .yield b' ∧ I (k + i + 1) b') E s) → (∀ b, I (k + l.length) b → Q b s) →
    wpAny (model prog w) A (forIn l b f) Q E s
  | [], k, b, Q, hI, _, hQ => by rw [List.forIn_nil]; exact wpAny_pure (hQ b (by simpa using hI))
  | a :: l, k, b, Q, hI, hf, hQ => by
    rw [List.forIn_cons]
    refine wpAny_bind (wpAny_mono (hf 0 (by simp) b (by simpa using hI)) (fun r s' h => ?_) fun _ _ e => e)
    obtain ⟨rfl, b', rfl, hI'⟩ := h
    refine forIn_inv I f l (k + 1) b' (by simpa using hI') (fun i hi b hb => ?_) (fun b hb => hQ b ?_)
    · have := hf (i + 1) (by simpa using hi) b (by rw [show k + (i + 1) = k + 1 + i by omega]; exact hb)
      simp only [List.getElem_cons_succ] at this
      rw [show k + 1 + i + 1 = k + (i + 1) + 1 by omega]
      exact this
    · rw [List.length_cons, show k + (l.length + 1) = k + 1 + l.length by omega]; exact hb

theorem foldSize (ys : List (Array UInt8)) (n : Nat) : ys.toArray.foldl (fun a x => a + x.size) n = n + (ys.map (·.size)).sum := by
  rw [List.foldl_toArray]
  induction ys generalizing n with
  | nil => simp
  | cons a l ih => simp only [List.foldl_cons, List.map_cons, List.sum_cons]; rw [ih]; omega
theorem foldApp_size (ys : List (Array UInt8)) (o : Array UInt8) : (ys.foldl (· ++ ·) o).size = o.size + (ys.map (·.size)).sum := by
  induction ys generalizing o with
  | nil => simp
  | cons a l ih => simp only [List.foldl_cons, List.map_cons, List.sum_cons]; rw [ih]; simp; omega

theorem call_bjoin {D : Addr} {items : Array Value} {ys : List (Array UInt8)} {t : Tok} {Q : Value → Shared → Prop} (hl : s.heap.IsList D items) (hi : BytsAre items.toList ys) (hok : (ys.map (·.size)).sum ≤ 16777216) (hne : ys ≠ [])
    (h : ∀ t' k, Q (.bytes (ys.foldl (· ++ ·) #[]) t') { s with toks := k }) : wpAny (model prog w) A (call (.builtin "bytes.join") [.bytes #[] t, .ref D]) Q E s := by
  have ⟨o, ho, hc, n, hd⟩ := hl
  have seq : ∀ {A : Around} {E : Value → Shared → Prop} {Q : Option (Array Value) → Shared → Prop}, Q (some items) s → wpAny (model prog w) A (seqItems? (.ref D)) Q E s := fun hq => by
    unfold seqItems?
    refine wpAny_bind (wpAny_load ho ?_)
    rw [hd]
    exact wpAny_pure hq
  obtain ⟨vs⟩ := items
  have hi' : BytsAre vs ys := hi
  refine wpAny_call (codeAny_call_builtin slot_bjoin.plain entry_bjoin (slot_bjoin.check _ _ _ _ _ _ _ _ (typeIs_bytes _ _ _) (args_bjoin _ _) ?_))
  show wpAny (model prog w) A.in1 (Bytes.joinM .bytes ⟨[.bytes #[] t, .ref D], []⟩) _ _ s
  unfold Bytes.joinM
  refine wpAny_bind (m := selfAndOne _ _) (wpAny_pure ?_)
  show wpAny _ _ (if (Bytes.Kind.bytes == Bytes.Kind.bytes) = true then _ else _) _ _ s
  rw [if_pos (show (Bytes.Kind.bytes == Bytes.Kind.bytes) = true from rfl)]
  refine wpAny_bind ?_
  unfold Bytes.joinItems
  refine wpAny_bind (wpAny_typeOf hl.typeIs ?_)
  rw [if_pos (show (Value.type "list" == Value.type "list" || Value.type "list" == Value.type "tuple") = true from by decide)]
  refine wpAny_pure ?_
  refine wpAny_bind (seq ?_)
  show wpAny _ _ (if (Bytes.Kind.bytes == Bytes.Kind.bytes) = true then _ else _) _ _ s
  rw [if_pos (show (Bytes.Kind.bytes == Bytes.Kind.bytes) = true from rfl)]
  cases hi' with
  | nil => exact absurd rfl hne
  | cons y t' hr =>
    cases hr with
    | nil =>
      show wpAny _ _ (typeOf (.bytes y t') >>= _) _ _ s
      refine wpAny_bind (wpAny_typeOf (typeIs_bytes s y t') ?_)
      show wpAny _ _ (if (Value.type "bytes" == Value.type "bytes") = true then _ else _) _ _ s
      rw [if_pos (show (Value.type "bytes" == Value.type "bytes") = true from by decide)]
      refine wpAny_bind (wpAny_rule (wpAny_pure ?_))
      have := h t' s.toks
      simp only [List.foldl_cons, List.foldl_nil, Array.empty_append] at this
      exact this
    | cons y2 t2 hr =>
      show wpAny _ _ (_ >>= _) _ _ s
      refine wpAny_bind ?_
      rw [Std.Legacy.Range.forIn_eq_forIn_range']
      rename_i us zs
      have hlen := BytsAre.length hi
      refine forIn_inv (fun k (b : Array (Array UInt8) × List (Value × Option Value)) => b.1 = ((y :: y2 :: zs).take k).toArray ∧ ∀ p ∈ b.2, p.2 = none ∧ p.1.onHeap = false) _ _ 0 _ ⟨rfl, fun _ hp => nomatch hp⟩ ?_ ?_
      · rintro i hil ⟨parts, taken⟩ ⟨rfl, hT⟩
        have hil' : i < (y :: y2 :: zs).length := by
          rw [← hlen]
          have : (List.range' 0 (Value.bytes y t' :: Value.bytes y2 t2 :: us).length 1).length = _ := List.length_range'
          simpa [Std.Legacy.Range.size] using hil
        have hge : (List.range' [:(Array.mk (Value.bytes y t' :: Value.bytes y2 t2 :: us)).size].start [:(Array.mk (Value.bytes y t' :: Value.bytes y2 t2 :: us)).size].size [:(Array.mk (Value.bytes y t' :: Value.bytes y2 t2 :: us)).size].step)[i] = i := by
          simp [List.getElem_range']
        rw [hge]
        refine wpAny_bind (seq ?_)
        obtain ⟨tx, ex⟩ := BytsAre.get hi i hil'
        have ex' : (Array.mk (Value.bytes y t' :: Value.bytes y2 t2 :: us)).getD i Value.none = .bytes ((y :: y2 :: zs).getD i #[]) tx := by
          rw [← ex]; simp [Array.getD_eq_getD_getElem?, List.getD_eq_getElem?_getD]
        have hany : (Bytes.Kind.bytes == Bytes.Kind.bytearray || taken.any fun x => x.fst.onHeap) = false := by
          rw [show (Bytes.Kind.bytes == Bytes.Kind.bytearray) = false from rfl, Bool.false_or, List.any_eq_false]
          intro p hp
          rw [(hT p hp).2]
          exact Bool.false_ne_true
        show wpAny _ _ (if (Bytes.Kind.bytes == Bytes.Kind.bytearray || taken.any fun x => x.fst.onHeap) = true then _ else _) _ _ s
        rw [hany, if_neg Bool.false_ne_true, ex']
        refine wpAny_bind (wpAny_holding (wpAny_of_eq take_eq ?_))
        refine wpAny_bind (seq ?_)
        show wpAny _ _ (if (_ != _) = true then _ else _) _ _ s
        rw [if_neg (by simp)]
        refine wpAny_pure ⟨rfl, _, rfl, ?_, ?_⟩
        · show ((y :: y2 :: zs).take (0 + i)).toArray.push ((y :: y2 :: zs).getD i #[]) = _
          rw [List.push_toArray, Nat.zero_add, List.take_add_one, List.getD_eq_getElem?_getD, List.getElem?_eq_getElem hil']
          rfl
        · intro p hp
          rcases List.mem_append.mp hp with hp | hp
          · exact hT p hp
          · rw [List.mem_singleton.mp hp]; exact ⟨rfl, rfl⟩
      · rintro ⟨parts, taken⟩ ⟨hp, hT⟩
        have hp' : parts = (y :: y2 :: zs).toArray := by
          rw [show parts = _ from hp]
          congr 1
          refine List.take_of_length_le ?_
          rw [← hlen, List.length_range']
          simp [Std.Legacy.Range.size]
        subst hp'
        refine wpAny_bind (wpAny_of_eq (a := #[]) rfl ?_)
        show wpAny _ _ (if Bytes.tooLong ((y :: y2 :: zs).toArray.foldl (fun a x => a + x.size) (#[].size * ((y :: y2 :: zs).toArray.size - 1))) = true then _ else _) _ _ s
        rw [foldSize, show (#[] : Array UInt8).size = 0 from rfl, Nat.zero_mul, Nat.zero_add, KBy.tooLong_not hok, if_neg Bool.false_ne_true]
        show wpAny _ _ (mkBytes (Bytes.joined #[] (y :: y2 :: zs)) >>= _) _ _ s
        rw [joined_nil]
        refine wpAny_bind (wpAny_mkBytes ?_ (by rw [foldApp_size, sizeLine_eq]; simpa using hok))
        refine wpAny_bind (wpAny_holding (wpAny_point ?_))
        exact wpAny_bind (letGos _ _ (fun p hp => (hT p hp).1) (wpAny_pure (h _ _)))
end
end Mine

/- part DzSub -/
namespace Mine
open PySem PySem.W PySem.Calls PyProof.Rows
open Builtin Builtin.Re

theorem plainAttrs_pat : PlainAttrs "re.Pattern" := ⟨look_pat_getattribute, look_pat_getattr⟩

/-- a compiled pattern without groups: its code and its kind -/
def Pat (h : Heap) (P : Addr) (cd : Array Nat) (kind : Nat) : Prop :=
  ∃ o fs T oT ws n, h.get? P = some o ∧ o.cls = .type "re.Pattern" ∧ o.dict = none ∧ o.data = .fields fs ∧ fs.getD 5 .none = .ref T ∧ h.get? T = some oT ∧ oT.data = .seq ws n ∧
    (ws.map reRawOf).map (fun x => x.toNat) = cd ∧ reRawNat (fs.getD 2 .none) = 0 ∧ reRawNat (fs.getD 6 .none) = kind
theorem Pat.keeps {h h' : Heap} {P : Addr} {cd : Array Nat} {kind : Nat} (x : Pat h P cd kind) (k : ∀ b o, h.get? b = some o → h'.get? b = some o) : Pat h' P cd kind := by
  obtain ⟨o, fs, T, oT, ws, n, h1, h2, h3, h4, h5, h6, h7⟩ := x
  exact ⟨o, fs, T, oT, ws, n, k _ _ h1, h2, h3, h4, h5, k _ _ h6, h7⟩
/-- the value of a text of that kind -/
def V : Nat → List Nat → Tok → Value
  | 0, p, t => .str ⟨p.toArray⟩ t
  | _, p, t => .bytes (p.map (·.toUInt8)).toArray t
/-- a subject: its signs -/
inductive Subj : Nat → Value → Array Nat → Prop
  | str (x : Str) (t : Tok) : Subj 0 (.str x t) x.cps
  | byt (b : Array UInt8) (t : Tok) : Subj 1 (.bytes b t) (b.map (·.toNat))

inductive Pcs (kind : Nat) : List Value → List (List Nat) → Prop
  | nil : Pcs kind [] []
  | cons (p : List Nat) (t : Tok) {vs ps} : Pcs kind vs ps → Pcs kind (V kind p t :: vs) (p :: ps)
theorem Pcs.append {kind : Nat} {vs us : List Value} {ys zs : List (List Nat)} (h : Pcs kind vs ys) (k : Pcs kind us zs) : Pcs kind (vs ++ us) (ys ++ zs) := by
  induction h with
  | nil => exact k
  | cons y t _ ih => exact .cons y t ih
theorem Pcs.length {kind : Nat} {vs : List Value} {ys : List (List Nat)} (h : Pcs kind vs ys) : vs.length = ys.length := by
  induction h with
  | nil => rfl
  | cons y t _ ih => simp [ih]
theorem Pcs.strs {vs : List Value} {ys : List (List Nat)} (h : Pcs 0 vs ys) : StrsAre vs (ys.map fun p => ⟨p.toArray⟩) := by
  induction h with
  | nil => exact .nil
  | cons y t _ ih => exact .cons _ t ih
theorem Pcs.byts {vs : List Value} {ys : List (List Nat)} (h : Pcs 1 vs ys) : BytsAre vs (ys.map fun p => (p.map (·.toUInt8)).toArray) := by
  induction h with
  | nil => exact .nil
  | cons y t _ ih => exact .cons _ t ih

theorem glued_nil (ys : List (List Nat)) : PySem.Txt.join ⟨#[]⟩ (ys.map fun p => (⟨p.toArray⟩ : Str)) = ⟨ys.flatten.toArray⟩ := by
  show Builtin.Str.glued ⟨#[]⟩ _ = _
  unfold Builtin.Str.glued
  cases ys with
  | nil => rfl
  | cons y ys =>
    simp only [List.map_cons, List.drop_succ_cons, List.drop_zero, List.headD_cons, Array.append_empty, List.flatten_cons]
    congr 1
    have g : ∀ (l : List (List Nat)) (o : List Nat), (l.map fun p => (⟨p.toArray⟩ : Str)).foldl (fun acc p => acc ++ p.cps) o.toArray = (o ++ l.flatten).toArray := by
      intro l
      induction l with
      | nil => intro o; simp
      | cons a l ih => intro o; simp only [List.map_cons, List.foldl_cons, List.append_toArray, ih, List.flatten_cons, List.append_assoc]
    exact g ys y
theorem foldApp_byts (ys : List (List Nat)) : (ys.map fun p => (p.map (·.toUInt8)).toArray).foldl (· ++ ·) #[] = (ys.flatten.map (·.toUInt8)).toArray := by
  have g : ∀ (l : List (List Nat)) (o : List UInt8), (l.map fun p => (p.map (·.toUInt8)).toArray).foldl (· ++ ·) o.toArray = (o ++ l.flatten.map (·.toUInt8)).toArray := by
    intro l
    induction l with
    | nil => intro o; simp
    | cons a l ih => intro o; simp only [List.map_cons, List.foldl_cons, List.append_toArray, ih, List.flatten_cons, List.map_append, List.append_assoc]
  exact g ys []

section
variable {prog : Program} {w : World} {A : Around} {E : Value → Shared → Prop} {s : Shared}

theorem textOf_ok {kind : Nat} {v : Value} {t : Array Nat} {Q : Array Nat × Nat → Shared → Prop} (hv : Subj kind v t) (h : Q (t, kind) s) : wpAny (model prog w) A (reTextOf v) Q E s := by
  cases hv with
  | str x t =>
    unfold reTextOf
    exact wpAny_bind (wpAny_of_eq (a := some x) rfl (wpAny_pure h))
  | byt b t =>
    unfold reTextOf
    refine wpAny_bind (wpAny_of_eq (a := none) rfl ?_)
    exact wpAny_bind (wpAny_of_eq KBy.quiet_eq (wpAny_pure h))

theorem noCollect_ok {kind : Nat} {v : Value} {t : Array Nat} {Q : Unit → Shared → Prop} (hv : Subj kind v t) (h : Q () s) : wpAny (model prog w) A (reNoCollectionInside v kind) Q E s := by
  cases hv with
  | str x t => exact wpAny_of_eq (a := ()) rfl h
  | byt b t =>
    unfold reNoCollectionInside
    rw [if_pos (by decide)]
    exact wpAny_bind (wpAny_of_eq KBy.isInstance_eq (wpAny_pure h))

theorem target_ok {kind : Nat} {v : Value} {t : Array Nat} {P : Addr} {cd : Array Nat} {Q : ReTarget → Shared → Prop} (hP : Pat s.heap P cd kind) (hv : Subj kind v t)
    (h : Q { pattern := .ref P, string := v, code := cd, text := t, kind := kind, groups := 0, pos := 0, lim := t.size } s) : wpAny (model prog w) A (reWholeTarget (.ref P) v) Q E s := by
  obtain ⟨o, fs, T, oT, ws, n, h1, h2, h3, h4, h5, h6, h7, h8, h9, h10⟩ := hP
  have hk : kind = 0 ∨ kind = 1 := by cases hv <;> simp
  unfold reWholeTarget
  refine wpAny_bind (wpAny_fieldsOf h1 h4 ?_)
  refine wpAny_bind (textOf_ok hv ?_)
  have c1 : (reRawNat (fs.getD 6 Value.none) == 0 && kind == 1) = false := by rw [h10]; rcases hk with rfl | rfl <;> rfl
  have c2 : (reRawNat (fs.getD 6 Value.none) == 1 && kind == 0) = false := by rw [h10]; rcases hk with rfl | rfl <;> rfl
  show wpAny _ _ (if (reRawNat (fs.getD 6 Value.none) == 0 && kind == 1) = true then _ else _) _ _ s
  rw [c1, if_neg Bool.false_ne_true]
  show wpAny _ _ (if (reRawNat (fs.getD 6 Value.none) == 1 && kind == 0) = true then _ else _) _ _ s
  rw [c2, if_neg Bool.false_ne_true]
  refine wpAny_bind (noCollect_ok hv ?_)
  rw [h5]
  refine wpAny_bind ?_
  unfold reRawItems
  refine wpAny_bind ?_
  unfold seqItems?
  refine wpAny_bind (wpAny_load h6 ?_)
  rw [h7]
  refine wpAny_pure (wpAny_pure ?_)
  refine wpAny_pure ?_
  rw [h9]
  show Q { pattern := .ref P, string := v, code := (ws.map reRawOf).map (fun x => x.toNat), text := t, kind := kind, groups := 0, pos := 0, lim := t.size } s
  rw [h8]
  exact h

theorem slice_ok {kind : Nat} {t : Array Nat} {b e : Nat} {Q : Value → Shared → Prop} (hk : kind = 0 ∨ kind = 1) (hsz : t.size ≤ 100000) (h : Q (V kind (t.extract b e).toList s.toks) { s with toks := s.toks + 1 }) :
    wpAny (model prog w) A (reSlice t kind b e) Q E s := by
  have hx : (t.extract b e).size ≤ 100000 := by rw [Array.size_extract]; omega
  rcases hk with rfl | rfl
  · show wpAny _ _ (mkStr ⟨t.extract b e⟩) _ _ s
    exact wpAny_mkStr h (by show (t.extract b e).size ≤ sizeLine; rw [sizeLine_eq]; omega)
  · show wpAny _ _ (mkBytes ((t.extract b e).map (·.toUInt8))) _ _ s
    refine wpAny_mkBytes ?_ (by rw [Array.size_map, sizeLine_eq]; omega)
    have e1 : (t.extract b e).map (·.toUInt8) = ((t.extract b e).toList.map (·.toUInt8)).toArray := by
      rw [← Array.toList_map, Array.toArray_toList]
    rw [e1]
    exact h

theorem join_ok {kind : Nat} {D : Addr} {vs : List Value} {ps : List (List Nat)} {t : Tok} {Q : Value → Shared → Prop} (hk : kind = 0 ∨ kind = 1) (hl : s.heap.IsList D vs.toArray) (hi : Pcs kind vs ps) (hne : ps ≠ [])
    (hsz : ps.flatten.length ≤ 1000000) (h : ∀ t' k, Q (V kind ps.flatten t') { s with toks := k }) : wpAny (model prog w) A (call (.builtin (if (kind == 0) = true then "str.join" else "bytes.join")) [V kind [] t, .ref D]) Q E s := by
  rcases hk with rfl | rfl
  · refine join_list (x := ⟨#[]⟩) hl hi.strs ?_ fun t' k => ?_
    · have e : ((ps.map fun p => (⟨p.toArray⟩ : Str)).map (·.length)).sum = ps.flatten.length := by
        rw [List.length_flatten, List.map_map]
        rfl
      rw [e, show Str.length ⟨#[]⟩ = 0 from rfl]
      omega
    · rw [glued_nil]; exact h t' k
  · refine call_bjoin hl hi.byts ?_ (by simpa using hne) fun t' k => ?_
    · have e : ((ps.map fun p => (p.map (·.toUInt8)).toArray).map (·.size)).sum = ps.flatten.length := by
        rw [List.length_flatten, List.map_map]
        congr 1
        refine List.map_congr_left fun p _ => ?_
        simp
      rw [e]; omega
    · rw [foldApp_byts]; exact h t' k

theorem literal_ok {kind : Nat} {p : List Nat} {t : Tok} {Q : Unit → Shared → Prop} (hk : kind = 0 ∨ kind = 1) (h : Q () s) : wpAny (model prog w) A (reLiteralCannotBeTurned (V kind p t)) Q E s := by
  rcases hk with rfl | rfl
  · unfold reLiteralCannotBeTurned
    exact wpAny_bind (wpAny_of_eq (a := some ⟨p.toArray⟩) rfl (wpAny_pure h))
  · unfold reLiteralCannotBeTurned
    refine wpAny_bind (wpAny_of_eq (a := none) rfl ?_)
    rw [if_pos (by rfl)]
    exact wpAny_bind (wpAny_of_eq KBy.isInstance_eq (wpAny_pure h))

/-- a list that the loop fills -/
def PL (h : Heap) (D : Addr) (vs : List Value) : Prop := ∃ n, h.get? D = some { cls := .type "list", data := .seq vs.toArray n }
theorem PL.isList {h : Heap} {D : Addr} {vs : List Value} (x : PL h D vs) : h.IsList D vs.toArray := let ⟨n, e⟩ := x; ⟨_, e, rfl, n, rfl⟩
theorem push_ok {h₀ : Heap} {D : Addr} {vs : List Value} {x : Value} {Q : Unit → Shared → Prop} (hD : h₀.get? D = none) (hk : ∀ b o, h₀.get? b = some o → s.heap.get? b = some o) (hl : PL s.heap D vs) (hsz : vs.length ≤ 100000)
    (h : ∀ h', (∀ b o, h₀.get? b = some o → h'.get? b = some o) → PL h' D (vs ++ [x]) → Q () { s with heap := h' }) : wpAny (model prog w) A (updateSeq D fun a => a.push x) Q E s := by
  obtain ⟨n, e⟩ := hl
  refine wpAny_updateSeq e rfl (h _ (fun b o hb => (Heap.get?_update_ne _ _ _ _ fun q => ?_).trans (hk b o hb)) ⟨n + 1, ?_⟩) (by rw [List.size_toArray, sizeLine_eq]; omega) (by rw [Array.size_push, List.size_toArray, sizeLine_eq]; omega)
  · rw [q, hD] at hb; cases hb
  · rw [Heap.get?_update_self _ e rfl]
    simp [Obj.mapSeq]

/-- what the search finds from i on, and what the substitution makes of it -/
def Finds (cd t : Array Nat) (rp : List Nat) (F : Nat → List Nat) : Prop := ∀ i must, i ≤ t.size →
  (R.Leads 100000 (Sre.forSearch cd t 0 i t.size must) (fun m => m.outcome = some .failed) ∧ F i = (t.extract i t.size).toList) ∨
  (∃ b e, i ≤ b ∧ b < e ∧ e ≤ t.size ∧ R.Leads 100000 (Sre.forSearch cd t 0 i t.size must) (fun m => m.outcome = some .matched ∧ m.start = b ∧ m.handed = e) ∧ F i = (t.extract i b).toList ++ (rp ++ F e))

theorem tail_ok {h₀ : Heap} {D : Addr} {t : Array Nat} {kind : Nat} {vs : List Value} {ps : List (List Nat)} {X : Value → Sem PySem.Fin} {R : Result → Shared → Prop} {s : Shared} (hk : kind = 0 ∨ kind = 1) (hsz : t.size ≤ 10000)
    (keep : ∀ b o, h₀.get? b = some o → s.heap.get? b = some o) (hl : PL s.heap D vs) (hp : Pcs kind vs ps) (hz : ps.flatten.length ≤ 100000)
    (h : ∀ h' tk t', (∀ b o, h₀.get? b = some o → h'.get? b = some o) → R (.ok (.ret (V kind ps.flatten t'))) { s with heap := h', toks := tk }) :
    wpAny (model prog w) A.in1 (reSlice t kind 0 0 >>= fun joiner => seqItems? (.ref D) >>= fun l => if (l.getD #[]).isEmpty = true then (pure joiner >>= fun text => if false = true then X text else ret text)
      else (call (.builtin (if (kind == 0) = true then "str.join" else "bytes.join")) [joiner, .ref D] >>= fun text => if false = true then X text else ret text))
      (fun fin s' => match fin with | .done f => R (.ok f) s' | .again c' => c'.quiet = true ∧ codeAny (model prog w) A c' R s') (fun e s' => R (.error e) s') s := by
  refine wpAny_bind (slice_ok hk (by omega) ?_)
  obtain ⟨n, e⟩ := id hl
  refine wpAny_bind ?_
  unfold seqItems?
  refine wpAny_bind (wpAny_load e (wpAny_pure ?_))
  have e0 : (t.extract 0 0).toList = [] := by simp
  rw [e0]
  cases hp with
  | nil =>
    show wpAny _ _ (if (#[] : Array Value).isEmpty = true then _ else _) _ _ _
    rw [if_pos (show (#[] : Array Value).isEmpty = true from rfl)]
    exact wpAny_bind (wpAny_pure (wpAny_pure (h _ _ _ keep)))
  | cons p tp hr =>
    show wpAny _ _ (if (Array.isEmpty _) = true then _ else _) _ _ _
    rw [if_neg (by simp)]
    refine wpAny_bind (join_ok hk hl.isList (.cons p tp hr) (by simp) (by omega) fun t' k => ?_)
    exact wpAny_pure (h _ _ _ keep)

theorem loop_ok {h₀ : Heap} {P D : Addr} {cd t : Array Nat} {kind : Nat} {v : Value} {rp : List Nat} {tr : Tok} {F : Nat → List Nat} (hP : Pat h₀ P cd kind) (hD : h₀.get? D = none) (hv : Subj kind v t) (hsz : t.size ≤ 10000) (hrp : rp.length = 2) (hF : Finds cd t rp F) :
    ∀ (d i : Nat) (s : Shared) (n : Int) (must : Bool) (vs : List Value) (ps : List (List Nat)) (R : Result → Shared → Prop), t.size - i < d → i ≤ t.size → (∀ b o, h₀.get? b = some o → s.heap.get? b = some o) → PL s.heap D vs → Pcs kind vs ps →
      ps.flatten.length ≤ 2 * i → ps.length ≤ 2 * i →
      (∀ h' tk t', (∀ b o, h₀.get? b = some o → h'.get? b = some o) → R (.ok (.ret (V kind (ps.flatten ++ F i) t'))) { s with heap := h', toks := tk }) →
      codeAny (model prog w) A (.builtin "re.Pattern.sub.loop" ⟨[.ref P, v, V kind rp tr, rawInt 0, rawInt 0, rawInt n, rawInt (i : Nat), rawInt (i : Nat), .bool must, .ref D, .bool false], []⟩) R s := by
  have hk : kind = 0 ∨ kind = 1 := by cases hv <;> simp
  intro d
  induction d with
  | zero =>
    intro i s n must vs ps R hd
    exact absurd hd (by omega)
  | succ d ih =>
    intro i s n must vs ps R hd hi keep hl hp h1 h2 h
    refine codeAny_builtin entry_loop ?_
    rw [Around.under_plainId plain_loop]
    unfold «re.Pattern.sub.loop»
    show wpAny _ _ (reWholeTarget (.ref P) v >>= _) _ _ s
    refine wpAny_bind (target_ok (hP.keeps keep) hv ?_)
    show wpAny _ _ (if ((0 : Int) == 0) = true then _ else _) _ _ s
    rw [if_pos (by decide)]
    refine wpAny_bind (literal_ok hk ?_)
    show wpAny _ _ ((if ((0 : Int) != 0 && decide (n ≥ 0)) = true then pure none else reNextFound _ ((i : Nat) : Int).toNat must) >>= _) _ _ s
    rw [if_neg (by simp), Int.toNat_natCast]
    refine wpAny_bind ?_
    show wpAny _ _ (reRunToEnd (Sre.forSearch cd t 0 i t.size must)) _ _ s
    rcases hF i must hi with ⟨⟨k, hk1, hk2, hk3⟩, eF⟩ | ⟨b, e, hib, hbe, het, ⟨k, hk1, hk2, hk3, hk4, hk5⟩, eF⟩
    · refine Mine.R.toEnd_no (by omega) rfl hk3 ?_
      show wpAny _ _ (if i < t.size then _ else _) _ _ s
      by_cases hit : i < t.size
      · rw [if_pos hit]
        refine wpAny_bind (slice_ok (t := t) hk (by omega) ?_)
        have hlen := hp.length
        refine wpAny_bind (push_ok hD keep hl (by omega) fun h' keep' hl' => ?_)
        refine tail_ok (ps := ps ++ [(t.extract i t.size).toList]) hk hsz keep' hl' (hp.append (.cons _ _ .nil)) ?_ fun h' tk t' keep'' => ?_
        · simp only [List.flatten_append, List.flatten_cons, List.flatten_nil, List.append_nil, List.length_append, Array.length_toList, Array.size_extract]
          omega
        · have := h h' tk t' keep''
          rw [eF] at this
          simp only [List.flatten_append, List.flatten_cons, List.flatten_nil, List.append_nil]
          exact this
      · rw [if_neg hit]
        refine tail_ok hk hsz keep hl hp (by omega) fun h' tk t' keep' => ?_
        have := h h' tk t' keep'
        have e0 : (t.extract i t.size).toList = [] := by
          have : i = t.size := by omega
          simp [this]
        rw [eF, e0, List.append_nil] at this
        exact this
    · refine Mine.R.toEnd_ok (by omega) rfl hk3 ?_
      have hlen := hp.length
      have goon : ∀ (s₁ : Shared) (vs₁ : List Value) (ps₁ : List (List Nat)), s₁.gens = s.gens → s₁.drawn = s.drawn → s₁.os = s.os → (∀ b o, h₀.get? b = some o → s₁.heap.get? b = some o) → PL s₁.heap D vs₁ → Pcs kind vs₁ ps₁ →
          ps₁.flatten = ps.flatten ++ (t.extract i b).toList → ps₁.length ≤ ps.length + 1 →
          wpAny (model prog w) A.in1 (updateSeq D (fun x => x.push (V kind rp tr)) >>= fun _ => again (Code.builtin "re.Pattern.sub.loop"
            ⟨[Value.ref P, v, V kind rp tr, rawInt 0, rawInt 0, rawInt (n + 1), rawInt (e : Nat), rawInt (e : Nat), Value.bool (e == b), Value.ref D, Value.bool false], []⟩))
            (fun fin s' => match fin with | .done f => R (.ok f) s' | .again c' => c'.quiet = true ∧ codeAny (model prog w) A c' R s') (fun e s' => R (.error e) s') s₁ := by
        intro s₁ vs₁ ps₁ eg ed eo keep₁ hl₁ hp₁ ep el
        have hlen₁ := hp₁.length
        refine wpAny_bind (push_ok hD keep₁ hl₁ (by omega) fun h' keep' hl' => wpAny_pure ⟨plainId_quiet plain_loop _, ?_⟩)
        refine ih e _ (n + 1) (e == b) _ (ps₁ ++ [rp]) R (by omega) het keep' hl' (hp₁.append (.cons _ _ .nil)) ?_ ?_ fun h'' tk t' keep'' => ?_
        · simp only [List.flatten_append, List.flatten_cons, List.flatten_nil, List.append_nil, List.length_append, ep, Array.length_toList, Array.size_extract, hrp]
          omega
        · simp only [List.length_append, List.length_cons, List.length_nil]
          omega
        · have := h h'' tk t' keep''
          rw [eF] at this
          simp only [List.flatten_append, List.flatten_cons, List.flatten_nil, List.append_nil, ep]
          rw [List.append_assoc, List.append_assoc]
          show R _ { heap := h'', gens := s₁.gens, drawn := s₁.drawn, toks := tk, os := s₁.os }
          rw [eg, ed, eo]
          exact this
      have hitem : (V kind rp tr != Value.none) = true := by rcases hk with rfl | rfl <;> rfl
      show wpAny _ _ (if i < (Mine.R.iter k (Sre.forSearch cd t 0 i t.size must)).start then _ else _) _ _ s
      rw [hk4, hk5]
      by_cases hit : i < b
      · rw [if_pos hit]
        refine wpAny_bind (slice_ok (t := t) hk (by omega) ?_)
        refine wpAny_bind (push_ok hD keep hl (by omega) fun h' keep' hl' => ?_)
        show wpAny _ _ (if ((0 : Int) == 0) = true then _ else _) _ _ _
        rw [if_pos (by decide)]
        refine wpAny_bind (wpAny_pure ?_)
        show wpAny _ _ (if (V kind rp tr != Value.none) = true then _ else _) _ _ _
        rw [if_pos hitem]
        refine goon _ _ (ps ++ [(t.extract i b).toList]) rfl rfl rfl keep' hl' (hp.append (.cons _ _ .nil)) ?_ ?_
        · simp only [List.flatten_append, List.flatten_cons, List.flatten_nil, List.append_nil]
        · simp
      · rw [if_neg hit]
        show wpAny _ _ (if ((0 : Int) == 0) = true then _ else _) _ _ _
        rw [if_pos (by decide)]
        refine wpAny_bind (wpAny_pure ?_)
        show wpAny _ _ (if (V kind rp tr != Value.none) = true then _ else _) _ _ _
        rw [if_pos hitem]
        refine goon _ _ ps rfl rfl rfl keep hl hp ?_ (by omega)
        have : b = i := by omega
        simp [this]
end
end Mine

/- part DzSub2 -/
namespace Mine
open PySem PySem.W PySem.Calls PyProof.Rows
open Builtin Builtin.Re
section
variable {prog : Program} {w : World} {A : Around} {E : Value → Shared → Prop} {s : Shared}

theorem named_ok {a b : Value} : reNamed "re.Pattern.sub" "sub" ["repl", "string", "count"] 2 [a, b] [] = pure [some a, some b, none] := by rfl

theorem special_call {kind : Nat} {p : List Nat} {t : Tok} {Q : Option Value → Shared → Prop} (hk : kind = 0 ∨ kind = 1) (h : Q none s) : wpAny (model prog w) A (specialOf (V kind p t) "__call__") Q E s := by
  rcases hk with rfl | rfl
  · exact wpAny_specialOf (typeIs_str s _ _) look_str_call h
  · exact wpAny_specialOf (typeIs_bytes s _ _) look_bytes_call h

theorem call_sub {P : Addr} {cd t : Array Nat} {kind : Nat} {v : Value} {rp : List Nat} {tr : Tok} {F : Nat → List Nat} {Q : Value → Shared → Prop} (hP : Pat s.heap P cd kind) (hv : Subj kind v t) (hsz : t.size ≤ 10000) (hrp : rp.length = 2)
    (hn : 92 ∉ rp) (hlt : ∀ c ∈ rp, c < 92) (hF : Finds cd t rp F) (h : ∀ h' tk t', (∀ b o, s.heap.get? b = some o → h'.get? b = some o) → Q (V kind (F 0) t') { s with heap := h', toks := tk }) :
    wpAny (model prog w) A (call (.builtin "re.Pattern.sub") [.ref P, V kind rp tr, v]) Q E s := by
  have hk : kind = 0 ∨ kind = 1 := by cases hv <;> simp
  have hT : s.TypeIs (.ref P) "re.Pattern" := by
    obtain ⟨o, fs, T, oT, ws, n, h1, h2, _⟩ := hP
    exact ⟨o, h1, h2⟩
  refine wpAny_call (codeAny_call_builtin slot_sub.plain entry_sub (slot_sub.check _ _ _ _ _ _ _ _ hT (args_sub_3 _ _ _) ?_))
  show wpAny (model prog w) A.in1 (reSubstitute "re.Pattern.sub" "sub" false ⟨[.ref P, V kind rp tr, v], []⟩) _ _ s
  unfold reSubstitute
  show wpAny _ _ (reNamed "re.Pattern.sub" "sub" ["repl", "string", "count"] 2 [V kind rp tr, v] [] >>= _) _ _ s
  rw [named_ok]
  refine wpAny_bind (wpAny_pure ?_)
  show wpAny _ _ (pure 0 >>= _) _ _ s
  refine wpAny_bind (wpAny_pure ?_)
  refine wpAny_bind (special_call hk ?_)
  show wpAny _ _ (if false = true then _ else _) _ _ s
  rw [if_neg Bool.false_ne_true]
  have goon : wpAny (model prog w) A.in1 (holding [V kind rp tr] (reWholeTarget (.ref P) v) >>= fun _ => if ((0 : Int) == 1) = true then (reNotHeld "re.Pattern.sub" v >>= fun _ => newList [] >>= fun l => again (Code.builtin "re.Pattern.sub.loop"
      ⟨[.ref P, v, V kind rp tr, rawInt 0, rawInt 0, rawInt 0, rawInt 0, rawInt 0, .bool false, l, .bool false], []⟩)) else (newList [] >>= fun l => again (Code.builtin "re.Pattern.sub.loop"
      ⟨[.ref P, v, V kind rp tr, rawInt 0, rawInt 0, rawInt 0, rawInt 0, rawInt 0, .bool false, l, .bool false], []⟩)))
      (fun fin s' => match fin with | .done f => (match (Except.ok f : Result) with | .ok (.ret v) => Q v s' | .ok _ => False | .error e => E e s') | .again c' => c'.quiet = true ∧ codeAny (model prog w) A c' (fun r s' => match r with | .ok (.ret v) => Q v s' | .ok _ => False | .error e => E e s') s')
      (fun e s' => match (Except.error e : Result) with | .ok (.ret v) => Q v s' | .ok _ => False | .error e => E e s') s := by
    refine wpAny_bind (wpAny_holding (target_ok hP hv ?_))
    rw [if_neg (by decide)]
    refine wpAny_bind (wpAny_newObj_type ?_ (by show (#[] : Array Value).size ≤ sizeLine; rw [sizeLine_eq]; decide))
    refine wpAny_pure ⟨plainId_quiet plain_loop _, ?_⟩
    refine loop_ok (s := { s with heap := s.heap.push { cls := .type "list", data := .seq #[] } }) (h₀ := s.heap) (kind := kind) (F := F) (rp := rp) hP ?_ hv hsz hrp hF (t.size + 1) 0 0 false [] [] _ (by omega) (by omega) (fun b o e => Heap.get?_push_of_some _ e) ⟨0, Heap.get?_push_size _ rfl⟩ .nil (by simp) (by simp) fun h' tk t' keep => ?_
    · cases hq : s.heap.get? s.heap.objs.size with
      | none => rfl
      | some o => exact absurd (Heap.lt_size hq) (Nat.lt_irrefl _)
    · exact h h' tk t' keep
  rcases hk with rfl | rfl
  · refine wpAny_bind (wpAny_of_eq (a := some ⟨rp.toArray⟩) rfl ?_)
    show wpAny _ _ (pure (!Array.contains rp.toArray 92) >>= _) _ _ s
    have hc : (!Array.contains rp.toArray 92) = true := by simpa using hn
    rw [hc]
    refine wpAny_bind (wpAny_pure ?_)
    show wpAny _ _ (if false = true then _ else _) _ _ s
    rw [if_neg Bool.false_ne_true, if_pos rfl]
    exact wpAny_bind (wpAny_pure goon)
  · refine wpAny_bind (wpAny_of_eq (a := none) rfl ?_)
    refine wpAny_bind (wpAny_of_eq KBy.quiet_eq ?_)
    show wpAny _ _ (pure (!Array.contains (rp.map (·.toUInt8)).toArray 92) >>= _) _ _ s
    have hc : (!Array.contains (rp.map (·.toUInt8)).toArray 92) = true := by
      have : ¬ (92 : UInt8) ∈ rp.map (·.toUInt8) := fun hm => by
        obtain ⟨c, hc, e⟩ := List.mem_map.mp hm
        have h1 := hlt c hc
        have h2 : (c.toUInt8).toNat = 92 := by rw [e]; rfl
        rw [show c.toUInt8 = UInt8.ofNat c from rfl, UInt8.toNat_ofNat'] at h2
        omega
      simpa using this
    rw [hc]
    refine wpAny_bind (wpAny_pure ?_)
    show wpAny _ _ (if false = true then _ else _) _ _ s
    rw [if_neg Bool.false_ne_true, if_pos rfl]
    exact wpAny_bind (wpAny_pure goon)

theorem method_sub {P : Addr} {cd : Array Nat} {kind : Nat} {pl : Sem Bool} {Q : Value × List Value → Shared → Prop} (hP : Pat s.heap P cd kind) (h : Q (.builtin "re.Pattern.sub", [.ref P]) s) : wpAny (model prog w) A (getMethod (.ref P) "sub" pl) Q E s := by
  obtain ⟨o, fs, T, oT, ws, n, h1, h2, h3, _⟩ := hP
  exact getMethod_builtin (T := "re.Pattern") ⟨o, h1, h2⟩ plainAttrs_pat slot_sub type_sub (fun a e => by cases e; exact ⟨o, h1, h3⟩) h
end
end Mine

/- part DzLaw -/
namespace Mine
open PySem

def fixF : Bool → List Nat → List Nat
  | _, [] => []
  | cr, c :: r => if c == 10 && cr then fixF false r else if c == 13 || c == 10 then 13 :: 10 :: fixF (c == 13) r else c :: fixF false r
def quote : Bool → List Nat → List Nat
  | _, [] => []
  | bol, c :: r => (if bol && c == 46 then [46, 46] else [c]) ++ quote (c == 10) r
def rowsF : Bool → List Nat → List Nat → List (List Nat)
  | _, row, [] => [row]
  | cr, row, c :: r => if c == 10 && cr then rowsF false row r else if c == 13 || c == 10 then row :: rowsF (c == 13) [] r else rowsF false (row ++ [c]) r
def crlf : List Nat := [13, 10]
def joinL : List (List Nat) → List Nat
  | [] => []
  | [r] => r
  | r :: q :: rs => r ++ 13 :: 10 :: joinL (q :: rs)
def dot (row : List Nat) : List Nat := if row.take 1 = [46] then 46 :: row else row

theorem fixF_cons (cr : Bool) (c : Nat) (r : List Nat) : fixF cr (c :: r) = if c == 10 && cr then fixF false r else if c == 13 || c == 10 then 13 :: 10 :: fixF (c == 13) r else c :: fixF false r := rfl
theorem quote_cons (bol : Bool) (c : Nat) (r : List Nat) : quote bol (c :: r) = (if bol && c == 46 then [46, 46] else [c]) ++ quote (c == 10) r := rfl
theorem clean_nil : ∀ c ∈ ([] : List Nat), c ≠ 10 ∧ c ≠ 13 := by intro c hc; cases hc

theorem rowsF_ne (cr : Bool) (row t : List Nat) : ∃ a l, rowsF cr row t = a :: l := by
  induction t generalizing cr row with
  | nil => exact ⟨_, _, rfl⟩
  | cons c r ih =>
    unfold rowsF
    split
    · exact ih _ _
    · split
      · exact ⟨_, _, rfl⟩
      · exact ih _ _
theorem joinL_cons (r : List Nat) {l : List (List Nat)} (h : ∃ a k, l = a :: k) : joinL (r :: l) = r ++ 13 :: 10 :: joinL l := by
  obtain ⟨a, k, rfl⟩ := h; rfl
theorem join_rows (cr : Bool) (row t : List Nat) : joinL (rowsF cr row t) = row ++ fixF cr t := by
  induction t generalizing cr row with
  | nil => simp [rowsF, joinL, fixF]
  | cons c r ih =>
    unfold rowsF fixF
    split
    · exact ih _ _
    · split
      · rw [joinL_cons _ (rowsF_ne _ _ _), ih]; simp
      · rw [ih]; simp

def clean (row : List Nat) : Prop := ∀ c ∈ row, c ≠ 10 ∧ c ≠ 13
theorem rowsF_clean (cr : Bool) (row t : List Nat) (h : clean row) : ∀ q ∈ rowsF cr row t, clean q := by
  induction t generalizing cr row with
  | nil => intro q hq; rw [List.mem_singleton.mp hq]; exact h
  | cons c r ih =>
    unfold rowsF
    split
    · exact ih _ _ h
    · split
      · intro q hq
        rcases List.mem_cons.mp hq with rfl | hq
        · exact h
        · exact ih _ _ clean_nil q hq
      · rename_i h1 h2
        refine ih _ _ fun x hx => ?_
        rcases List.mem_append.mp hx with hx | hx
        · exact h x hx
        · rw [List.mem_singleton.mp hx]
          simp only [Bool.or_eq_true, beq_iff_eq, not_or] at h2
          exact ⟨h2.2, h2.1⟩

theorem fixF_row (row r : List Nat) (h : clean row) : fixF false (row ++ r) = row ++ fixF false r := by
  induction row with
  | nil => rfl
  | cons c row ih =>
    have hc := h c (.head _)
    show fixF false (c :: (row ++ r)) = _
    rw [fixF_cons, if_neg (by simp), if_neg (by simp [hc.1, hc.2]), ih fun x hx => h x (.tail _ hx)]
    rfl
theorem fixF_join : ∀ (rows : List (List Nat)), (∀ q ∈ rows, clean q) → fixF false (joinL rows) = joinL rows
  | [], _ => rfl
  | [r], h => by
    show fixF false r = r
    have := fixF_row r [] (h r (.head _))
    simpa [fixF] using this
  | r :: q :: rs, h => by
    show fixF false (r ++ 13 :: 10 :: joinL (q :: rs)) = r ++ 13 :: 10 :: joinL (q :: rs)
    rw [fixF_row _ _ (h r (.head _))]
    have e : fixF false (13 :: 10 :: joinL (q :: rs)) = 13 :: 10 :: fixF false (joinL (q :: rs)) := rfl
    rw [e, fixF_join (q :: rs) fun x hx => h x (.tail _ hx)]

theorem quote_row (row r : List Nat) (h : clean row) : quote false (row ++ 13 :: r) = row ++ 13 :: quote false r := by
  induction row with
  | nil => rfl
  | cons c row ih =>
    have hc := h c (.head _)
    show quote false (c :: (row ++ 13 :: r)) = _
    rw [quote_cons, show (c == 10) = false from by simp [hc.1], ih fun x hx => h x (.tail _ hx)]
    simp
theorem quote_last (row : List Nat) (h : clean row) : quote false row = row := by
  induction row with
  | nil => rfl
  | cons c row ih =>
    have hc := h c (.head _)
    rw [quote_cons, show (c == 10) = false from by simp [hc.1], ih fun x hx => h x (.tail _ hx)]
    simp
theorem quote_bol (row r : List Nat) (h : clean row) : quote true (row ++ 13 :: r) = dot row ++ 13 :: quote false r := by
  cases row with
  | nil => rfl
  | cons c row =>
    have hc := h c (.head _)
    show quote true (c :: (row ++ 13 :: r)) = _
    rw [quote_cons, show (c == 10) = false from by simp [hc.1], quote_row _ _ fun x hx => h x (.tail _ hx)]
    by_cases h46 : c = 46
    · subst h46; simp [dot]
    · simp [dot, h46]
theorem quote_end (row : List Nat) (h : clean row) : quote true row = dot row := by
  cases row with
  | nil => rfl
  | cons c row =>
    have hc := h c (.head _)
    rw [quote_cons, show (c == 10) = false from by simp [hc.1], quote_last _ fun x hx => h x (.tail _ hx)]
    by_cases h46 : c = 46
    · subst h46; simp [dot]
    · simp [dot, h46]
theorem quote_join : ∀ (rows : List (List Nat)), (∀ q ∈ rows, clean q) → quote true (joinL rows) = joinL (rows.map dot)
  | [], _ => rfl
  | [r], h => quote_end r (h r (.head _))
  | r :: q :: rs, h => by
    show quote true (r ++ 13 :: 10 :: joinL (q :: rs)) = dot r ++ 13 :: 10 :: joinL ((q :: rs).map dot)
    rw [quote_bol _ _ (h r (.head _))]
    have e : quote false (10 :: joinL (q :: rs)) = 10 :: quote true (joinL (q :: rs)) := rfl
    rw [e, quote_join (q :: rs) fun x hx => h x (.tail _ hx)]

def rows (t : List Nat) : List (List Nat) := rowsF false [] t
def fixed (t : List Nat) : List Nat := joinL (rows t)
def due (t : List Nat) : List Nat := joinL ((rows t).map dot)
theorem fix_eq (t : List Nat) : fixF false t = fixed t := by
  unfold fixed rows; rw [join_rows]; rfl
theorem clean_rows (t : List Nat) : ∀ q ∈ rows t, clean q := rowsF_clean _ _ _ clean_nil
theorem quote_fix (t : List Nat) : quote true (fixF false t) = due t := by rw [fix_eq]; exact quote_join _ (clean_rows t)
theorem fix_fixed (t : List Nat) : fixF false (fixed t) = fixed t := fixF_join _ (clean_rows t)
theorem quote_fix_fixed (t : List Nat) : quote true (fixF false (fixed t)) = due t := by rw [fix_fixed]; exact quote_join _ (clean_rows t)
end Mine

/- part DzFinds -/
namespace Mine
open PySem

theorem first_of (p : Nat → Bool) (n : Nat) : ∀ (d i : Nat), i + d = n → ∃ b, i ≤ b ∧ b ≤ n ∧ (∀ j, i ≤ j → j < b → p j = false) ∧ (b = n ∨ p b = true)
  | 0, i, e => ⟨i, Nat.le_refl _, by omega, fun j h1 h2 => absurd h1 (by omega), .inl (by omega)⟩
  | d + 1, i, e => by
    cases h : p i with
    | true => exact ⟨i, Nat.le_refl _, by omega, fun j h1 h2 => absurd h1 (by omega), .inr h⟩
    | false =>
      obtain ⟨b, h1, h2, h3, h4⟩ := first_of p n d (i + 1) (by omega)
      refine ⟨b, by omega, h2, fun j hj hjb => ?_, h4⟩
      by_cases e : j = i
      · rw [e]; exact h
      · exact h3 j (by omega) hjb

theorem drop_at {t : Array Nat} {i : Nat} (h : i < t.size) : t.toList.drop i = t.getD i 0 :: t.toList.drop (i + 1) := by
  rw [List.drop_eq_getElem_cons (by simpa using h)]
  simp [Array.getD, h]
theorem extract_at {t : Array Nat} {i b : Nat} (h : i < b) (hb : b ≤ t.size) : (t.extract i b).toList = t.getD i 0 :: (t.extract (i + 1) b).toList := by
  rw [Array.toList_extract, Array.toList_extract, List.extract_eq_take_drop, List.extract_eq_take_drop, drop_at (by omega), show b - i = (b - (i + 1)) + 1 by omega, List.take_succ_cons]
theorem extract_nil {t : Array Nat} {i : Nat} : (t.extract i i).toList = [] := by simp
theorem drop_end {t : Array Nat} : t.toList.drop t.size = [] := by simp

theorem fix_skip {t : Array Nat} : ∀ (d i b : Nat), i + d = b → b ≤ t.size → (∀ j, i ≤ j → j < b → R.eol (t.getD j 0) = false) → fixF false (t.toList.drop i) = (t.extract i b).toList ++ fixF false (t.toList.drop b)
  | 0, i, b, e, hb, h => by
    obtain rfl : i = b := e
    rw [extract_nil]; rfl
  | d + 1, i, b, e, hb, h => by
    have hc := h i (Nat.le_refl _) (by omega)
    rw [drop_at (by omega), extract_at (by omega) hb, fixF_cons, if_neg (by simp), if_neg, fix_skip d (i + 1) b (by omega) hb fun j h1 h2 => h j (by omega) h2]
    · rfl
    · rw [Bool.or_comm]
      exact ne_true_of_eq_false hc
theorem fixF_true {l : List Nat} (h : ∀ r, l ≠ 10 :: r) : fixF true l = fixF false l := by
  cases l with
  | nil => rfl
  | cons c r =>
    have hc : (c == 10) = false := by
      cases e : c == 10 with
      | false => rfl
      | true => exact absurd (by rw [eq_of_beq e]) (h r)
    rw [fixF_cons, fixF_cons, hc]
    rfl

theorem finds3 (t : Array Nat) (hsz : t.size ≤ 10000) : Finds R.code3 t [13, 10] (fun i => fixF false (t.toList.drop i)) := by
  intro i must hi
  obtain ⟨b, h1, h2, h3, h4⟩ := first_of (fun j => R.eol (t.getD j 0)) t.size (t.size - i) i (by omega)
  have hs := fix_skip (b - i) i b (by omega) h2 h3
  by_cases hb : b < t.size
  · have hx : R.eol (t.getD b 0) = true := h4.resolve_left (by omega)
    have hy := (R.search3_yes (must := must) h1 hb hx h3).le (K' := 100000) (by omega)
    have hd : fixF false (t.toList.drop b) = 13 :: 10 :: fixF (t.getD b 0 == 13) (t.toList.drop (b + 1)) := by
      rw [drop_at hb, fixF_cons, if_neg (by simp), if_pos (by rw [Bool.or_comm]; exact hx)]
    by_cases hc : t.getD b 0 = 13 ∧ t.getD (b + 1) 0 = 10 ∧ b + 1 < t.size
    · rw [show R.eolEnd t b = b + 2 from if_pos hc] at hy
      refine .inr ⟨b, b + 2, h1, by omega, by omega, hy, ?_⟩
      show fixF false (t.toList.drop i) = (t.extract i b).toList ++ (13 :: 10 :: fixF false (t.toList.drop (b + 2)))
      rw [hs, hd, hc.1, drop_at hc.2.2, hc.2.1]
      rfl
    · rw [show R.eolEnd t b = b + 1 from if_neg hc] at hy
      refine .inr ⟨b, b + 1, h1, by omega, by omega, hy, ?_⟩
      show fixF false (t.toList.drop i) = (t.extract i b).toList ++ (13 :: 10 :: fixF false (t.toList.drop (b + 1)))
      rw [hs, hd]
      by_cases h13 : t.getD b 0 = 13
      · rw [h13, show ((13 : Nat) == 13) = true from rfl, fixF_true fun r e => hc ⟨h13, ?_⟩]
        by_cases hbs : b + 1 < t.size
        · rw [drop_at hbs] at e
          exact ⟨(List.cons.inj e).1, hbs⟩
        · rw [List.drop_eq_nil_of_le (by simpa using hbs)] at e; cases e
      · rw [show (t.getD b 0 == 13) = false from by simpa using h13]
  · obtain rfl : b = t.size := by omega
    refine .inl ⟨(R.search3_no hi h3).le (by omega), ?_⟩
    show fixF false (t.toList.drop i) = _
    rw [hs, drop_end]
    simp [fixF]

def bol (t : Array Nat) (i : Nat) : Bool := i == 0 || t.getD (i - 1) 0 == 10
theorem bol_succ (t : Array Nat) (i : Nat) : bol t (i + 1) = (t.getD i 0 == 10) := by simp [bol]
theorem quote_skip {t : Array Nat} : ∀ (d i b : Nat), i + d = b → b ≤ t.size → (∀ j, i ≤ j → j < b → R.hit t j = false) → quote (bol t i) (t.toList.drop i) = (t.extract i b).toList ++ quote (bol t b) (t.toList.drop b)
  | 0, i, b, e, hb, h => by
    obtain rfl : i = b := e
    rw [extract_nil]; rfl
  | d + 1, i, b, e, hb, h => by
    have hc : (bol t i && t.getD i 0 == 46) = false := h i (Nat.le_refl _) (by omega)
    rw [drop_at (by omega), extract_at (by omega) hb, quote_cons, hc, if_neg Bool.false_ne_true, ← bol_succ, quote_skip d (i + 1) b (by omega) hb fun j h1 h2 => h j (by omega) h2]
    rfl
theorem finds1 (t : Array Nat) (hsz : t.size ≤ 10000) : Finds R.code1 t [46, 46] (fun i => quote (bol t i) (t.toList.drop i)) := by
  intro i must hi
  obtain ⟨b, h1, h2, h3, h4⟩ := first_of (fun j => R.hit t j) t.size (t.size - i) i (by omega)
  have hs := quote_skip (b - i) i b (by omega) h2 h3
  by_cases hb : b < t.size
  · have hx : R.hit t b = true := h4.resolve_left (by omega)
    refine .inr ⟨b, b + 1, h1, by omega, by omega, (R.search1_yes h1 hb hx h3).le (by omega), ?_⟩
    show quote (bol t i) (t.toList.drop i) = _
    rw [hs]
    congr 1
    rw [drop_at hb, quote_cons, if_pos (show (bol t b && t.getD b 0 == 46) = true from hx), ← bol_succ]
  · obtain rfl : b = t.size := by omega
    refine .inl ⟨(R.search1_no hi h3).le (by omega), ?_⟩
    show quote (bol t i) (t.toList.drop i) = _
    rw [hs, drop_end]
    simp [quote]
end Mine

/- part DzRules -/
namespace Mine
open PySem PySem.W PySem.Calls PyProof.Rows
set_option maxRecDepth 100000

def fixS (x : Str) : Str := ⟨(fixF false x.cps.toList).toArray⟩
def quoteS (x : Str) : Str := ⟨(quote true x.cps.toList).toArray⟩
def quoteB (b : Array UInt8) : Array UInt8 := ((quote true (b.map (·.toNat)).toList).map (·.toUInt8)).toArray

theorem fr_keeps {h₀ h h' : Heap} {L : Addr} {m : Str → Option Value} (F : Fr h₀ L h m) (k : ∀ b o, h.get? b = some o → h'.get? b = some o) : Fr h₀ L h' m := ⟨F.ns.keeps k, fun b o e => k b o (F.keep b o e), F.above⟩
theorem news_keeps {h₀ h h' : Heap} {L : Addr} {news : List (Addr × Obj)} (N : News h₀ L h news) (k : ∀ b o, h.get? b = some o → h'.get? b = some o) : News h₀ L h' news := fun p hp => ⟨k _ _ (N p hp).1, (N p hp).2⟩

theorem pat1 {P : Params} {h : Heap} (X : (hd.heap_39 P).In h) : Pat h 36 R.code1 0 :=
  ⟨_, _, _, _, _, _, X 36 _ (by with_unfolding_all rfl), rfl, rfl, rfl, rfl, X 35 _ (by with_unfolding_all rfl), rfl, by decide +kernel, rfl, rfl⟩
theorem pat2 {P : Params} {h : Heap} (X : (hd.heap_39 P).In h) : Pat h 41 R.code1 1 :=
  ⟨_, _, _, _, _, _, X 41 _ (by with_unfolding_all rfl), rfl, rfl, rfl, rfl, X 40 _ (by with_unfolding_all rfl), rfl, by decide +kernel, rfl, rfl⟩
theorem pat3 {P : Params} {h : Heap} (X : (hd.heap_39 P).In h) : Pat h 46 R.code3 0 :=
  ⟨_, _, _, _, _, _, X 46 _ (by with_unfolding_all rfl), rfl, rfl, rfl, rfl, X 45 _ (by with_unfolding_all rfl), rfl, by decide +kernel, rfl, rfl⟩

theorem crlf_str : Str.ofString "\u000d\n" = ⟨#[13, 10]⟩ := by decide +kernel
theorem dots_str : Str.ofString ".." = ⟨#[46, 46]⟩ := by decide +kernel

section
variable {prog : Program} {w : World} {A : Around} {E : Value → Shared → Prop} {s : Shared} {h₀ : Heap} {L : Addr} {m : Str → Option Value} {news : List (Addr × Obj)} {P : Params} {Q : Value → Shared → Prop}

theorem sub3 {x : Str} {t tr : Tok} (F : Fr h₀ L s.heap m) (N : News h₀ L s.heap news) (X₀ : (hd.heap_39 P).In h₀) (hx : x.length ≤ 10000)
    (h : ∀ h' tk t', Fr h₀ L h' m → News h₀ L h' news → Q (.str (fixS x) t') { s with heap := h', toks := tk }) :
    wpAny (model prog w) A (call (.builtin "re.Pattern.sub") [.ref 46, .str (Str.ofString "\u000d\n") tr, .str x t]) Q E s := by
  rw [crlf_str]
  exact call_sub (kind := 0) (rp := [13, 10]) (pat3 (X₀.keeps F.keep)) (.str x t) hx rfl (by decide) (by decide) (finds3 x.cps hx) fun h' tk t' k => h h' tk t' (fr_keeps F k) (news_keeps N k)
theorem sub1 {x : Str} {t tr : Tok} (F : Fr h₀ L s.heap m) (N : News h₀ L s.heap news) (X₀ : (hd.heap_39 P).In h₀) (hx : x.length ≤ 10000)
    (h : ∀ h' tk t', Fr h₀ L h' m → News h₀ L h' news → Q (.str (quoteS x) t') { s with heap := h', toks := tk }) :
    wpAny (model prog w) A (call (.builtin "re.Pattern.sub") [.ref 36, .str (Str.ofString "..") tr, .str x t]) Q E s := by
  rw [dots_str]
  exact call_sub (kind := 0) (rp := [46, 46]) (pat1 (X₀.keeps F.keep)) (.str x t) hx rfl (by decide) (by decide) (finds1 x.cps hx) fun h' tk t' k => h h' tk t' (fr_keeps F k) (news_keeps N k)
theorem sub2 {b : Array UInt8} {t tr : Tok} (F : Fr h₀ L s.heap m) (N : News h₀ L s.heap news) (X₀ : (hd.heap_39 P).In h₀) (hx : b.size ≤ 10000)
    (h : ∀ h' tk t', Fr h₀ L h' m → News h₀ L h' news → Q (.bytes (quoteB b) t') { s with heap := h', toks := tk }) :
    wpAny (model prog w) A (call (.builtin "re.Pattern.sub") [.ref 41, .bytes #[46, 46] tr, .bytes b t]) Q E s :=
  call_sub (kind := 1) (rp := [46, 46]) (pat2 (X₀.keeps F.keep)) (.byt b t) (by rw [Array.size_map]; exact hx) rfl (by decide) (by decide) (finds1 _ (by rw [Array.size_map]; exact hx)) fun h' tk t' k => h h' tk t' (fr_keeps F k) (news_keeps N k)
theorem meth1 {pl : Sem Bool} {Q : Value × List Value → Shared → Prop} (F : Fr h₀ L s.heap m) (X₀ : (hd.heap_39 P).In h₀) (h : Q (.builtin "re.Pattern.sub", [.ref 36]) s) : wpAny (model prog w) A (getMethod (.ref 36) (Str.ofString "sub") pl) Q E s :=
  method_sub (pat1 (X₀.keeps F.keep)) h
theorem meth2 {pl : Sem Bool} {Q : Value × List Value → Shared → Prop} (F : Fr h₀ L s.heap m) (X₀ : (hd.heap_39 P).In h₀) (h : Q (.builtin "re.Pattern.sub", [.ref 41]) s) : wpAny (model prog w) A (getMethod (.ref 41) (Str.ofString "sub") pl) Q E s :=
  method_sub (pat2 (X₀.keeps F.keep)) h
theorem meth3 {pl : Sem Bool} {Q : Value × List Value → Shared → Prop} (F : Fr h₀ L s.heap m) (X₀ : (hd.heap_39 P).In h₀) (h : Q (.builtin "re.Pattern.sub", [.ref 46]) s) : wpAny (model prog w) A (getMethod (.ref 46) (Str.ofString "sub") pl) Q E s :=
  method_sub (pat3 (X₀.keeps F.keep)) h
end
end Mine

/- part DzRules2 -/
namespace Mine
open PySem PySem.W PySem.Calls PyProof.Rows
set_option maxRecDepth 100000
theorem sum_ones : ∀ (l : List Str), (∀ y ∈ l, y.length = 1) → (l.map (·.length)).sum = l.length
  | [], _ => rfl
  | a :: l, h => by simp only [List.map_cons, List.sum_cons, List.length_cons]; rw [h a (.head _), sum_ones l fun y hy => h y (.tail _ hy)]; omega
section
variable {prog : Program} {w : World} {A : Around} {E : Value → Shared → Prop} {s : Shared} {h₀ : Heap} {L : Addr} {m : Str → Option Value} {news : List (Addr × Obj)} {P : Params} {Q : Value → Shared → Prop}
theorem join_signs {D : Addr} {vs : List Value} {ys : List Str} {n : Nat} {t : Tok} (N : News h₀ L s.heap news) (hm : (D, listOf vs.toArray n) ∈ news) (hi : StrsAre vs ys) (h1 : ∀ y ∈ ys, y.length = 1) (hl : ys.length ≤ 24)
    (h : ∀ (y : Str) t' k, y.length ≤ 24 → Q (.str y t') { s with toks := k }) : wpAny (model prog w) A (call (.builtin "str.join") [.str (Str.ofString "") t, .ref D]) Q E s := by
  have e : Str.ofString "" = ⟨#[]⟩ := by decide +kernel
  refine join_list (x := Str.ofString "") (News.isList N hm) hi ?_ fun t' k => h _ t' k ?_
  · rw [sum_ones ys h1, e, show Str.length ⟨#[]⟩ = 0 from rfl]; omega
  · show (Builtin.Str.glued _ _).length ≤ 24
    rw [size_glued, sum_ones ys h1, e, show Str.length ⟨#[]⟩ = 0 from rfl]; omega
theorem add_text {x : Str} {t u : Tok} (hx : x.length ≤ 24) (h : ∀ (y : Str) t' k, y.length ≤ 33 → Q (.str y t') { s with toks := k }) :
    wpAny (model prog w) A (binaryOp .Add (.str x t) (.str (Str.ofString ".\u000d.\n..\u000d\na") u)) Q E s := by
  have e : (Str.ofString ".\u000d.\n..\u000d\na").length = 9 := by decide +kernel
  exact add_str (fun t' k => h _ t' k (by rw [Str.length_append, e]; omega)) (by rw [e, sizeLine_eq]; omega)
end
end Mine

/- part DzRules2 -/
namespace Mine
open PySem PySem.W PySem.Calls PyProof.Rows
section
variable {prog : Program} {w : World} {A : Around} {E : Value → Shared → Prop} {s : Shared} {env : Env} {h₀ : Heap} {x : Str} {body : List Stmt} {Q : Flow → Shared → Prop}
/-- a loop over range(b) that keeps nothing -/
theorem range_free {r : Addr} {b₀ : Int} {t₀ u₀ v₀ : Tok} {m₀ : Str → Option Value} {news : List (Addr × Obj)} (stored : List Str)
    (hh : A.handled = none) (hr : IsRange s.heap r 0 b₀ 1 t₀ u₀ v₀) (h0 : 0 ≤ b₀) (h1 : b₀ ≤ 1000) (F : Fr h₀ env.locals s.heap m₀) (_N : News h₀ env.locals s.heap news)
    (turn : ∀ (k : Int) t (u : Str → Option Value) h tk own, 0 ≤ k → k < b₀ →
      Fr h₀ env.locals h (fun y => if y = x then some (.int k t) else if stored.contains y then u y else m₀ y) → News h₀ env.locals h own →
      wpAny (model prog w) A (execs body env) (InvPostN h₀ env.locals (fun m nx => nx = [] ∧ ∀ z, z ≠ x → stored.contains z = false → m z = m₀ z) own [] { s with heap := h, toks := tk } Q) E { s with heap := h, toks := tk })
    (done : ∀ (u : Str → Option Value) h tk, Fr h₀ env.locals h (fun y => if y = x then u y else if stored.contains y then u y else m₀ y) → Q .next { s with heap := h, toks := tk }) :
    wpAny (model prog w) A (pyIter (.ref r)) (fun it s₂ => LoopAtV prog w A h₀ env x body Q E it s₂) E s := by
  refine kst_range (σ := Unit) (n := b₀.toNat) (fun _ => []) (fun _ => []) (fun _ => True) stored (fun _ _ => True) () hh hr (small_one (by omega) (by omega) (by omega) (by omega)) (by rw [rangeSize_nat]; congr 1; omega) F (fun _ hp => nomatch hp) trivial (fun _ hp => nomatch hp) trivial ?_ ?_
  · intro _ pre k t u h tk own hk hlt _ _ _ F' N'
    refine wpAny_mono (turn k t u h tk own (by omega) (by omega) F' N') (fun f s₂ p => ?_) fun _ _ e => e
    have up : InvEndN h₀ env.locals (fun m nx => nx = [] ∧ ∀ z, z ≠ x → stored.contains z = false → m z = m₀ z) own [] { s with heap := h, toks := tk } s₂ →
        InvEndN h₀ env.locals (KstS (σ := Unit) (fun _ => []) (fun _ => []) (fun _ => True) x stored m₀ (fun _ _ => True) (pre ++ [k])) own [] { s with heap := h, toks := tk } s₂ := by
      rintro ⟨h', tk', m', news', nx, e, F', N', hn, ho, ha, rfl, hm⟩
      exact ⟨h', tk', m', news', [], e, F', N', hn, ho, ha, (), rfl, trivial, (fun _ hp => nomatch hp), fun z h1 _ h3 => hm z h1 h3, trivial⟩
    cases f with
    | ret v => exact p
    | brk => exact p
    | next => exact up p
    | cont => exact up p
  · intro _ u h tk _ _ F' _
    exact done u h tk F'
end
end Mine

/- part DzTxt -/
namespace Mine
open PySem PySem.W PyProof.Rows
open Builtin.Str

theorem str_beq {a b : Str} : (a == b) = decide (a.cps.toList = b.cps.toList) := by
  by_cases h : a = b
  · subst h; simp
  · have : ¬ a.cps.toList = b.cps.toList := fun e => h (Str.ext' (Array.toList_inj.mp e))
    rw [decide_eq_false this]
    exact beq_eq_false_iff_ne.mpr h
theorem str_cr : (Str.ofString "\u000d").cps.toList = [13] := by decide +kernel
theorem str_lf : (Str.ofString "\n").cps.toList = [10] := by decide +kernel
theorem str_dot : (Str.ofString ".").cps.toList = [46] := by decide +kernel
theorem str_nil : (Str.ofString "").cps.toList = [] := by decide +kernel

theorem slice_zero (x : Str) : (Txt.slice x (some ((0 : Nat) - 1 : Int)) (some ((0 : Nat) : Int))).length = 0 := by
  have e : strSliceIndices (some ((0 : Nat) - 1 : Int)) (some ((0 : Nat) : Int)) 1 x.length = [] := by
    unfold strSliceIndices sliceRange
    simp only [show (1 : Int) > 0 by decide, if_true, show ((0 : Nat) : Int) - 1 < 0 by omega, show ¬ ((0 : Nat) : Int) < 0 by omega, if_false]
    rw [if_neg (by omega)]
    rfl
  unfold Txt.slice
  rw [e]
  split
  · rename_i h
    simp at h
    omega
  · rfl
def cr (x : Str) (i : Nat) : Bool := decide (0 < i ∧ x.cps.getD (i - 1) 0 = 13)
theorem cr_succ (x : Str) (i : Nat) : cr x (i + 1) = (x.cps.getD i 0 == 13) := by
  rw [cr, show i + 1 - 1 = i from rfl]
  by_cases h : x.cps.getD i 0 = 13
  · rw [h]; simp
  · rw [decide_eq_false (fun a => h a.2)]; simpa using h
theorem slice_prev {x : Str} {i : Nat} (h : i ≤ x.length) : (Txt.slice x (some ((i : Int) - 1)) (some (i : Int)) == Str.ofString "\u000d") = cr x i := by
  rw [str_beq, str_cr]
  cases i with
  | zero =>
    have h0 := slice_zero x
    have : (Txt.slice x (some ((0 : Nat) - 1 : Int)) (some ((0 : Nat) : Int))).cps.toList = [] := by
      apply List.eq_nil_of_length_eq_zero
      simpa [Str.length] using h0
    rw [this]
    simp [cr]
  | succ i =>
    have hi : i < x.cps.size := h
    have e := StrLaws.sliceText_plain (x := x) (i := ((i + 1 : Nat) : Int) - 1) (j := ((i + 1 : Nat) : Int)) ⟨by omega, by omega, by simp [Str.length] at h ⊢; omega⟩
    show decide ((StrLaws.sliceText x (some (((i + 1 : Nat) : Int) - 1)) (some ((i + 1 : Nat) : Int))).cps.toList = [13]) = cr x (i + 1)
    rw [e, cr_succ]
    rw [show (((i + 1 : Nat) : Int) - 1).toNat = i by omega, show (((i + 1 : Nat) : Int) - (((i + 1 : Nat) : Int) - 1)).toNat = 1 by omega]
    show decide (((x.cps.toList.drop i).take 1) = [13]) = _
    rw [drop_at hi, List.take_succ_cons, List.take_zero]
    by_cases hc : x.cps.getD i 0 = 13
    · rw [hc]; rfl
    · rw [decide_eq_false (by simpa using hc)]; simpa using hc
theorem slice_first (x : Str) : (Txt.slice x none (some 1) == Str.ofString ".") = decide (x.cps.toList.take 1 = [46]) := by
  rw [str_beq, str_dot]
  by_cases h : 1 ≤ x.length
  · have e := StrLaws.sliceText_to (x := x) (j := 1) ⟨by omega, by simp [Str.length] at h ⊢; omega⟩
    show decide ((StrLaws.sliceText x none (some 1)).cps.toList = [46]) = _
    rw [e]
    rfl
  · have hx : x.cps.toList = [] := by
      apply List.eq_nil_of_length_eq_zero
      simp [Str.length] at h ⊢
      omega
    have hl := Txt.slice_le x none (some 1)
    have hs : (Txt.slice x none (some 1)).cps.toList = [] := by
      apply List.eq_nil_of_length_eq_zero
      rw [Array.length_toList]
      unfold Str.length at h hl
      omega
    rw [hs, hx]
    rfl

def rowsS (x : Str) : List Str := (rows x.cps.toList).map fun r => ⟨r.toArray⟩
def RI (x : Str) (i : Nat) (ys : List Str) (row : Str) : Prop := rowsS x = ys ++ (rowsF (cr x i) row.cps.toList (x.cps.toList.drop i)).map fun r => ⟨r.toArray⟩
theorem RI.start (x : Str) : RI x 0 [] (Str.ofString "") := by
  unfold RI rowsS rows
  rw [str_nil]
  simp [cr]
theorem RI.skip {x : Str} {i : Nat} {ys : List Str} {row : Str} (h : RI x i ys row) (hi : i < x.cps.size) (hc : x.cps.getD i 0 = 10) (hp : cr x i = true) : RI x (i + 1) ys row := by
  unfold RI at h ⊢
  rw [h, drop_at hi, rowsF, hc, hp, if_pos (by decide), cr_succ, hc]
  rfl
theorem RI.ends {x : Str} {i : Nat} {ys : List Str} {row : Str} (h : RI x i ys row) (hi : i < x.cps.size) (hc : x.cps.getD i 0 = 13 ∨ x.cps.getD i 0 = 10) (hp : ¬ (x.cps.getD i 0 = 10 ∧ cr x i = true)) : RI x (i + 1) (ys ++ [row]) (Str.ofString "") := by
  unfold RI at h ⊢
  rw [h, drop_at hi, rowsF, if_neg (by simpa using hp), if_pos (by rcases hc with e | e <;> rw [e] <;> rfl), cr_succ, str_nil]
  simp
theorem RI.adds {x : Str} {i : Nat} {ys : List Str} {row : Str} (h : RI x i ys row) (hi : i < x.cps.size) (h13 : x.cps.getD i 0 ≠ 13) (h10 : x.cps.getD i 0 ≠ 10) : RI x (i + 1) ys (row ++ ⟨#[x.cps.getD i 0]⟩) := by
  unfold RI at h ⊢
  have e10 : (x.cps.getD i 0 == 10) = false := beq_eq_false_iff_ne.mpr h10
  have e13 : (x.cps.getD i 0 == 13) = false := beq_eq_false_iff_ne.mpr h13
  rw [h, drop_at hi, rowsF, if_neg (by rw [e10]; exact Bool.false_ne_true), if_neg (by rw [e10, e13]; exact Bool.false_ne_true), cr_succ, e13]
  rw [Str.cps_append]
  simp
theorem RI.done {x : Str} {ys : List Str} {row : Str} (h : RI x x.cps.size ys row) : rowsS x = ys ++ [row] := by
  unfold RI at h
  rw [h, drop_end]
  simp [rowsF]
end Mine

/- part DzRows -/
namespace Mine
open PySem PySem.W PyProof.Rows
set_option maxRecDepth 100000
set_option maxHeartbeats 8000000
theorem fr_say2 {h₀ h : Heap} {L : Addr} {m : Str → Option Value} {a b : Str} {va vb : Option Value} {ps : List (Str × Value)} (hp : ∀ p ∈ ps, m p.1 = some p.2) (F : Fr h₀ L h (fun y => if y = a then va else if y = b then vb else m y)) :
    Fr h₀ L h (fun y => if y = a then va else if y = b then vb else kstB m ps y) := by
  have e : kstB m ps = m := funext fun z => kstB_eq hp fun _ => rfl
  rw [e]; exact F
theorem fr_say {h₀ h : Heap} {L : Addr} {m : Str → Option Value} {ps : List (Str × Value)} (hp : ∀ p ∈ ps, m p.1 = some p.2) (F : Fr h₀ L h m) : Fr h₀ L h (kstB m ps) := by
  have e : kstB m ps = m := funext fun z => kstB_eq hp fun _ => rfl
  rw [e]; exact F

theorem abst {α : Type} {M : Model} {A : Around} {t : Sem α} {Q : α → Shared → Prop} {E : Value → Shared → Prop} {s : Shared} (C : (α → Shared → Prop) → Prop) (hC : C Q) (h : ∀ Qs, C Qs → wpAny M A t Qs E s) : wpAny M A t Q E s := h Q hC
theorem news_swap {h₀ h : Heap} {L : Addr} {own rest : List (Addr × Obj)} {q : Addr × Obj} (N : News h₀ L h (own ++ q :: rest)) : News h₀ L h (q :: (own ++ rest)) := fun p hp => N p (by
  rcases List.mem_cons.mp hp with rfl | hp
  · exact List.mem_append_right _ (.head _)
  · rcases List.mem_append.mp hp with hp | hp
    · exact List.mem_append_left _ hp
    · exact List.mem_append_right _ (.tail _ hp))
theorem len_nil : (Str.ofString "").length = 0 := by decide +kernel
theorem append_head {prog : Program} {w : World} {A : Around} {E : Value → Shared → Prop} {s : Shared} {h₀ : Heap} {L l : Addr} {m : Str → Option Value} {rest : List (Addr × Obj)} {vs : List Value} {n : Nat} {v : Value} {Q : Value → Shared → Prop}
    (F : Fr h₀ L s.heap m) (N : News h₀ L s.heap ((l, listOf vs.toArray n) :: rest)) (hne : ∀ p ∈ rest, p.1 ≠ l) (hsz : vs.length ≤ 1000)
    (h : ∀ h', Fr h₀ L h' m → News h₀ L h' ((l, listOf (vs ++ [v]).toArray (n + 1)) :: rest) → Q .none { s with heap := h' }) : wpAny (model prog w) A (call (.builtin "list.append") [.ref l, v]) Q E s := by
  refine append_K F N (Upd.head hne) (fun h' F' N' => h h' F' ?_) (by rw [List.size_toArray, sizeLine_eq]; omega)
  rw [List.push_toArray] at N'
  exact N'
theorem StrsAre.snoc {vs : List Value} {ys : List Str} (h : StrsAre vs ys) (y : Str) (t : Tok) : StrsAre (vs ++ [.str y t]) (ys ++ [y]) := by
  induction h with
  | nil => exact .cons y t .nil
  | cons a u _ ih => exact .cons a u ih
theorem StrsAre.len {vs : List Value} {ys : List Str} (h : StrsAre vs ys) : vs.length = ys.length := by
  induction h with
  | nil => rfl
  | cons a u _ ih => simp [ih]
theorem sign_beq (c d : Nat) {y : Str} (hy : y.cps.toList = [d]) : ((⟨#[c]⟩ : Str) == y) = decide (c = d) := by
  rw [str_beq, hy]; simp
local macro_rules | `(tactic| walk_at "call builtin:list.append") => `(tactic| (k_here; k_dflt (refine' append_head ?k1 ?k2 ?k3 ?k4 ?_; (case k1 => k_asm); (case k2 => k_asm); (case k3 => assumption); (case k4 => omega); k_whole); intro h' F' N'; (try k_sweep)))
local macro_rules | `(tactic| walk_at "inplaceOp Add str str") => `(tactic| (k_here; refine iadd_str (fun t' tk' => ?_) (by rw [sizeLine_eq]; simp only [show Str.length ⟨#[_]⟩ = 1 from rfl]; omega)))
section
variable {w : World} {E : Value → Shared → Prop} {s : Shared} {base h₀ : Heap} {L fa : Addr} {m mg mb : Str → Option Value} {news : List (Addr × Obj)} {mean : ExcName → Option Value} {nm : Str} {sc : Scope} {cd : Value} {Q : Value → Shared → Prop}

theorem rows_call {x : Str} {t : Tok} (B : Below callerA base [] h₀) (F : Fr h₀ L s.heap m) (X₀ : (hd.heap_39 w.params).In h₀) (N : News h₀ L s.heap news)
    (T : Top hd.view_39 (looseW hd.view_39 [Str.ofString "_twin_re_1", Str.ofString "_twin_re_2", Str.ofString "_twin_re_3"]) mean mg mb h₀) (hk : sc.kind = .function) (hx : x.length ≤ 40)
    (h : ∀ D vs n h' tk, Fr h₀ L h' m → News h₀ L h' ((D, listOf (List.toArray vs) n) :: news) → StrsAre vs (rowsS x) → Q (.ref D) { s with heap := h', toks := tk }) :
    wpAny (model Challenge.rw_dz0106_01.row.prog w) (callerA.deeper (envOf nm sc L fa cd)) (call (.ref 74) [.str x t]) Q E s := by
  revert X₀
  k_fill
  intro X₀
  w_on
  w_top on
  refine wpAny_call ?_
  refine' code_def B F X₀ N T ?kA ?kF ?kK ?k6 ?k7 ?k8 ?k9 ?kB ?_ ?c2 ?c3 ?c4 ?c5
  case kA => exact rfl
  case kF => exact rfl
  case kK => exact hk
  case k6 => k_is
  case k7 => k_is
  case k8 => k_room
  case k9 => exact BindsTo.of_eq rfl
  case c5 => decide
  case kB => exact locs rfl
  case c2 => exact rfl
  case c3 => exact rfl
  case c4 => exact rfl
  intro g' L' h' FG' F' N' B' X' T'
  try dsimp only
  try k_fold
  k_steps
  rename_i l0 h3 hl0 h2 h1 F0 N0 h0 e0 F1 N1 src
  refine src.at _ rfl _ _ _ _ (fun i m₁ news₁ => ∃ vs ys row tr n, news₁ = (l0, listOf (List.toArray vs) n) :: news ∧ (∀ p ∈ [(Str.ofString "row", Value.str row tr), (Str.ofString "rows", Value.ref l0), (Str.ofString "text", Value.str x t)], m₁ p.1 = some p.2) ∧
      StrsAre vs ys ∧ ys.length ≤ i ∧ row.length ≤ i ∧ RI x i ys row) ?start ?step ?done
  case start => exact ⟨[], [], Str.ofString "", _, 0, rfl, by (intro p hp; simp only [List.mem_cons, List.not_mem_nil, or_false] at hp; rcases hp with rfl | rfl | rfl <;> rfl), .nil, Nat.le_refl _, by rw [len_nil]; exact Nat.le_refl _, RI.start x⟩
  case step =>
    rintro i a ti v m₁ news₁ s₁ own ⟨hh, tkk, rfl⟩ ha ⟨u, rfl⟩ ⟨vs, ys, row, tr, n, rfl, hm, hS, hys, hrow, hR⟩ hadr hoff F₂ N₂
    have hlt : i < x.cps.size := by
      have := (List.getElem?_eq_some_iff.mp ha).1
      rw [signs_length] at this; exact this
    have ea : a = ⟨#[x.cps.getD i 0]⟩ := by
      have h1 := signs_get (y := x) (i := i) (c := x.cps.getD i 0) (by simp [Array.getD, hlt])
      rw [h1] at ha; exact (Option.some.inj ha).symm
    subst ea
    replace F₂ := fr_say2 hm F₂
    dsimp only [kstB] at F₂
    replace F₂ : Fr g' L' hh _ := F₂
    have hne : ∀ p ∈ own ++ news, p.1 ≠ l0 := fun p hp => by
      rcases List.mem_append.mp hp with hp | hp
      · exact hoff p hp (l0, _) (.head _)
      · exact Nat.ne_of_lt (hl0 p hp)
    replace N₂ : News g' L' hh ((l0, listOf (List.toArray vs) n) :: (own ++ news)) := news_swap N₂
    have hlen := StrsAre.len hS
    have hsz : x.length = x.cps.size := rfl
    have hpv := slice_prev (x := x) (i := i) (by omega)
    have b10 := sign_beq (x.cps.getD i 0) 10 str_lf
    have b13 := sign_beq (x.cps.getD i 0) 13 str_cr
    refine abst (fun Qs => ∀ f h' tk m' vs' ys' row' tr' n', f = Flow.next ∨ f = Flow.cont → Fr g' L' h' m' → News g' L' h' ((l0, listOf (List.toArray vs') n') :: (own ++ news)) →
        (∀ p ∈ [(Str.ofString "row", Value.str row' tr'), (Str.ofString "rows", Value.ref l0), (Str.ofString "text", Value.str x t)], m' p.1 = some p.2) → StrsAre vs' ys' → ys'.length ≤ i + 1 → row'.length ≤ i + 1 → RI x (i + 1) ys' row' →
        Qs f { s with heap := h', toks := tk }) ?hC ?key
    case hC =>
      intro f h' tk m' vs' ys' row' tr' n' hf F' N' hm' hS' hy' hr' hR'
      have st : LoopStep2 g' L' own ((l0, listOf (List.toArray vs) n) :: news) (fun m₁ news₁ => ∃ vs ys row tr n, news₁ = (l0, listOf (List.toArray vs) n) :: news ∧ (∀ p ∈ [(Str.ofString "row", Value.str row tr), (Str.ofString "rows", Value.ref l0), (Str.ofString "text", Value.str x t)], m₁ p.1 = some p.2) ∧
          StrsAre vs ys ∧ ys.length ≤ i + 1 ∧ row.length ≤ i + 1 ∧ RI x (i + 1) ys row) { s with heap := hh, toks := tkk } .next { s with heap := h', toks := tk } :=
        ⟨rfl, h', tk, m', (l0, listOf (List.toArray vs') n') :: news, rfl, F', fun p hp => N' p (by
          rcases List.mem_append.mp hp with hp | hp
          · exact .tail _ (List.mem_append_left _ hp)
          · rcases List.mem_cons.mp hp with rfl | hp
            · exact .head _
            · exact .tail _ (List.mem_append_right _ hp)), rfl, vs', ys', row', tr', n', rfl, hm', hS', hy', hr', hR'⟩
      rcases hf with rfl | rfl
      · exact st
      · exact st
    case key =>
      intro Qs H
      have t10 : ((⟨#[x.cps.getD i 0]⟩ : Str) == Str.ofString "\n") = true → x.cps.getD i 0 = 10 := fun h => by rw [b10] at h; exact of_decide_eq_true h
      have f10 : ((⟨#[x.cps.getD i 0]⟩ : Str) == Str.ofString "\n") = false → x.cps.getD i 0 ≠ 10 := fun h => by rw [b10] at h; exact of_decide_eq_false h
      have t13 : ((⟨#[x.cps.getD i 0]⟩ : Str) == Str.ofString "\u000d") = true → x.cps.getD i 0 = 13 := fun h => by rw [b13] at h; exact of_decide_eq_true h
      have f13 : ((⟨#[x.cps.getD i 0]⟩ : Str) == Str.ofString "\u000d") = false → x.cps.getD i 0 ≠ 13 := fun h => by rw [b13] at h; exact of_decide_eq_false h
      have tp : (Txt.slice x (some ((i : Int) - 1)) (some (i : Int)) == Str.ofString "\u000d") = true → cr x i = true := fun h => by rw [hpv] at h; exact h
      have fp : (Txt.slice x (some ((i : Int) - 1)) (some (i : Int)) == Str.ofString "\u000d") = false → ¬ cr x i = true := fun h => by rw [hpv] at h; rw [h]; exact Bool.false_ne_true
      clear b10 b13 hpv
      k_steps
      all_goals (try dsimp only)
      all_goals (first
        | exact H .cont _ _ _ vs ys row tr n (.inr rfl) (by assumption) (by assumption) (by (intro p hp; simp only [List.mem_cons, List.not_mem_nil, or_false] at hp; rcases hp with rfl | rfl | rfl <;> rfl)) hS (by omega) (by omega) (hR.skip hlt (t10 (by assumption)) (tp (by assumption)))
        | exact H .next _ _ _ (vs ++ [.str row tr]) (ys ++ [row]) (Str.ofString "") _ _ (.inl rfl) (by assumption) (by assumption) (by (intro p hp; simp only [List.mem_cons, List.not_mem_nil, or_false] at hp; rcases hp with rfl | rfl | rfl <;> rfl)) (StrsAre.snoc hS row tr) (by rw [List.length_append, List.length_singleton]; omega) (by rw [len_nil]; omega) (hR.ends hlt (by first | exact .inl (t13 (by assumption)) | exact .inr (t10 (by assumption))) (by first | exact fun h => f10 (by assumption) h.1 | exact fun h => fp (by assumption) h.2))
        | exact H .next _ _ _ vs ys (row ++ ⟨#[x.cps.getD i 0]⟩) _ n (.inl rfl) (by assumption) (by assumption) (by (intro p hp; simp only [List.mem_cons, List.not_mem_nil, or_false] at hp; rcases hp with rfl | rfl | rfl <;> rfl)) hS (by omega) (by rw [Str.length_append, show Str.length ⟨#[x.cps.getD i 0]⟩ = 1 from rfl]; omega) (hR.adds hlt (f13 (by assumption)) (f10 (by assumption)))
        | fail "rows: an end")
  case done =>
    rintro h' tk m' news' F' N' - ⟨vs, ys, row, tr, n, rfl, hm, hS, hys, hrow, hR⟩
    rw [signs_length] at hR hys hrow
    have hrs := RI.done hR
    replace F' := fr_say hm F'
    dsimp only [kstB] at F'
    replace F' : Fr g' L' h' _ := F'
    replace N' : News g' L' h' ((l0, listOf (List.toArray vs) n) :: news) := N'
    dsimp only
    k_steps
    rename_i l2 h5 F5 N5 hl5
    have hlen := StrsAre.len hS
    refine add_lists (vs := vs) (ws := [.str row tr]) F5 N5 (News.isList N5 (.tail _ (.head _))) (News.isList N5 (.head _)) (fun h6 F6 N6 => ?_) (by rw [sizeLine_eq, List.length_singleton]; omega)
    show LeaveK h₀ L m g' _ _ _
    refine leaveK_ F6 N6 fun kF kN => ?_
    refine h _ (vs ++ [.str row tr]) 0 _ _ kF (fun p hp => kN p ?_) (hrs ▸ StrsAre.snoc hS row tr)
    rcases List.mem_cons.mp hp with rfl | hp
    · exact .head _
    · exact .tail _ (.tail _ (.tail _ hp))
end
end Mine

/- part DzOct -/
namespace Mine
open PySem PySem.W PyProof.Rows
set_option maxRecDepth 100000
set_option maxHeartbeats 8000000
theorem fr_say1 {h₀ h : Heap} {L : Addr} {m : Str → Option Value} {a : Str} {va : Option Value} {ps : List (Str × Value)} (hp : ∀ p ∈ ps, m p.1 = some p.2) (F : Fr h₀ L h (fun y => if y = a then va else m y)) :
    Fr h₀ L h (fun y => if y = a then va else kstB m ps y) := by
  have e : kstB m ps = m := funext fun z => kstB_eq hp fun _ => rfl
  rw [e]; exact F
def OI (ns : List Int) (i : Nat) (ks : List Int) (a : Int) : Prop := quote true (ns.map Int.toNat) = ks.map Int.toNat ++ quote (decide (a = 10)) ((ns.map Int.toNat).drop i)
theorem OI.start (ns : List Int) : OI ns 0 [] 10 := rfl
theorem toNat_beq {n : Int} {k : Nat} (h : 0 ≤ n) : (n.toNat == k) = decide (n = k) := by
  by_cases e : n = k
  · subst e; simp
  · have : ¬ n.toNat = k := by omega
    rw [decide_eq_false e]; simpa using this
theorem drop_ints {ns : List Int} {i : Nat} {n : Int} (h : ns[i]? = some n) : (ns.map Int.toNat).drop i = n.toNat :: (ns.map Int.toNat).drop (i + 1) := by
  obtain ⟨hi, e⟩ := List.getElem?_eq_some_iff.mp h
  rw [List.drop_eq_getElem_cons (by simpa using hi)]
  simp [e]
theorem OI.dot {ns ks : List Int} {i : Nat} {a n : Int} (h : OI ns i ks a) (hn : ns[i]? = some n) (h46 : n = 46) (ha : a = 10) : OI ns (i + 1) ((ks ++ [46]) ++ [n]) n := by
  unfold OI at h ⊢
  subst h46 ha
  rw [h, drop_ints hn, quote_cons]
  simp
theorem OI.other {ns ks : List Int} {i : Nat} {a n : Int} (h : OI ns i ks a) (hn : ns[i]? = some n) (h0 : 0 ≤ n) (hh : ¬ (n = 46 ∧ a = 10)) : OI ns (i + 1) (ks ++ [n]) n := by
  unfold OI at h ⊢
  rw [h, drop_ints hn, quote_cons, if_neg]
  · rw [show (n.toNat == 10) = decide (n = 10) from toNat_beq h0]
    simp
  · rw [show (n.toNat == 46) = decide (n = 46) from toNat_beq h0]
    simp only [Bool.and_eq_true, decide_eq_true_eq]
    exact fun h => hh ⟨h.2, h.1⟩
theorem OI.done {ns ks : List Int} {a : Int} (h : OI ns ns.length ks a) : quote true (ns.map Int.toNat) = ks.map Int.toNat := by
  unfold OI at h
  rw [h, List.drop_eq_nil_of_le (by simp)]
  simp [quote]
theorem range_snoc {ks : List Int} (h : ∀ k ∈ ks, 0 ≤ k ∧ k < 256) {n : Int} (hn : 0 ≤ n ∧ n < 256) : ∀ k ∈ ks ++ [n], 0 ≤ k ∧ k < 256 := fun k hk => by
  rcases List.mem_append.mp hk with hk | hk
  · exact h k hk
  · rw [List.mem_singleton.mp hk]; exact hn
theorem IntsAre.snoc {vs : List Value} {ys : List Int} (h : IntsAre vs ys) (y : Int) (t : Tok) : IntsAre (vs ++ [.int y t]) (ys ++ [y]) := h.append (.cons y t .nil)
local macro_rules | `(tactic| walk_at "call builtin:list.append") => `(tactic| (k_here; k_dflt (refine' append_head ?k1 ?k2 ?k3 ?k4 ?_; (case k1 => k_asm); (case k2 => k_asm); (case k3 => assumption); (case k4 => ((try simp only [List.length_append, List.length_cons, List.length_nil]); omega)); k_whole); intro h' F' N'; (try k_sweep)))
section
variable {w : World} {E : Value → Shared → Prop} {s : Shared} {base h₀ : Heap} {L fa : Addr} {m mg mb : Str → Option Value} {news : List (Addr × Obj)} {mean : ExcName → Option Value} {nm : Str} {sc : Scope} {cd : Value} {Q : Value → Shared → Prop}

theorem oct_call {D : Addr} {vs : List Value} {ns : List Int} {nn : Nat} (B : Below callerA base [] h₀) (F : Fr h₀ L s.heap m) (X₀ : (hd.heap_39 w.params).In h₀) (N : News h₀ L s.heap news)
    (T : Top hd.view_39 (looseW hd.view_39 [Str.ofString "_twin_re_1", Str.ofString "_twin_re_2", Str.ofString "_twin_re_3"]) mean mg mb h₀) (hk : sc.kind = .function)
    (hD : (D, listOf (List.toArray vs) nn) ∈ news) (hi : IntsAre vs ns) (hr : ∀ n ∈ ns, 0 ≤ n ∧ n < 256) (hx : ns.length ≤ 40)
    (h : ∀ h' tk t', Fr h₀ L h' m → News h₀ L h' news → Q (.bytes ((quote true (ns.map Int.toNat)).map (·.toUInt8)).toArray t') { s with heap := h', toks := tk }) :
    wpAny (model Challenge.rw_dz0106_01.row.prog w) (callerA.deeper (envOf nm sc L fa cd)) (call (.ref 81) [.ref D]) Q E s := by
  revert X₀
  k_fill
  intro X₀
  w_on
  w_top on
  refine wpAny_call ?_
  refine' code_def B F X₀ N T ?kA ?kF ?kK ?k6 ?k7 ?k8 ?k9 ?kB ?_ ?c2 ?c3 ?c4 ?c5
  case kA => exact rfl
  case kF => exact rfl
  case kK => exact hk
  case k6 => k_is
  case k7 => k_is
  case k8 => k_room
  case k9 => exact BindsTo.of_eq rfl
  case c5 => decide
  case kB => exact locs rfl
  case c2 => exact rfl
  case c3 => exact rfl
  case c4 => exact rfl
  intro g' L' h' FG' F' N' B' X' T'
  try dsimp only
  try k_fold
  repeat' ((fail_if_success (with_reducible show wpAny _ _ (exec (Stmt.For _ _ _ _ _) _) _ _ _)); (first | (k_unfold; (try dsimp only)) | (k_end; wrow_close) | walk1 | (dsimp only; walk1) | (leave1; walk_say "STEP leave1"; try dsimp only) | fail "no step"))
  (rename Fr _ _ _ _ => lF'); (rename News _ _ _ _ => lN')
  refine For_invVF lF' rfl rfl ?_
  walk1
  rename_i l0 h2 hl0 h1 h0
  refine iter_invNL (fun i m₁ news₁ => ∃ us ks n' a ta, news₁ = (l0, listOf (List.toArray us) n') :: news ∧ (∀ p ∈ [(Str.ofString "told", Value.ref l0), (Str.ofString "ahead", Value.int a ta)], m₁ p.1 = some p.2) ∧
      IntsAre us ks ∧ ks.length ≤ 2 * i ∧ OI ns i ks a ∧ ∀ k ∈ ks, 0 ≤ k ∧ k < 256) rfl (.tail _ hD) hi lF' lN' ?start ?step ?done
  case start => exact ⟨[], [], 0, 10, _, rfl, by (intro p hp; simp only [List.mem_cons, List.not_mem_nil, or_false] at hp; rcases hp with rfl | rfl <;> rfl), .nil, Nat.zero_le _, OI.start ns, fun k hk => nomatch hk⟩
  case step =>
    clear lF' lN'
    rintro i n t m₁ news₁ hh tkk own hn hadr hoff hmem ⟨us, ks, n', a, ta, rfl, hm, hI, hks, hO, hkr⟩ F₂ N₂
    have hlt : i < ns.length := (List.getElem?_eq_some_iff.mp hn).1
    have hnr := hr n (List.mem_of_getElem? hn)
    replace F₂ := fr_say1 hm F₂
    dsimp only [kstB] at F₂
    replace F₂ : Fr g' L' hh _ := F₂
    replace N₂ : News g' L' hh ((l0, listOf (List.toArray us) n') :: (news ++ own)) := N₂
    have hne : ∀ p ∈ news ++ own, p.1 ≠ l0 := fun p hp => by
      rcases List.mem_append.mp hp with hp | hp
      · exact Nat.ne_of_lt (hl0 p hp)
      · exact hoff p hp l0 (.head _)
    have hlen := hI.length
    refine abst (fun Qs => ∀ h' tk m' us' ks' n'' a' ta', Fr g' L' h' m' → News g' L' h' ((l0, listOf (List.toArray us') n'') :: (news ++ own)) →
        (∀ p ∈ [(Str.ofString "told", Value.ref l0), (Str.ofString "ahead", Value.int a' ta')], m' p.1 = some p.2) → IntsAre us' ks' → ks'.length ≤ 2 * (i + 1) → OI ns (i + 1) ks' a' → (∀ k ∈ ks', 0 ≤ k ∧ k < 256) →
        Qs Flow.next { s with heap := h', toks := tk }) ?hC ?key
    case hC =>
      intro h' tk m' us' ks' n'' a' ta' F' N' hm' hI' hk' hO' hkr'
      refine ⟨h', tk, m', _, (l0, listOf (List.toArray us') n'') :: news, rfl, F', N', ?_, ?_, rfl, .tail _ hD, us', ks', n'', a', ta', rfl, hm', hI', hk', hO', hkr'⟩
      · intro p hp
        rcases List.mem_cons.mp hp with rfl | hp
        · exact .head _
        · exact .tail _ (List.mem_append_left _ hp)
      · exact fun p hp => .tail _ (List.mem_append_right _ hp)
    case key =>
      intro Qs H
      k_steps
      all_goals (try dsimp only)
      all_goals (first
        | exact H _ _ _ ((us ++ [.int 46 _]) ++ [.int n t]) ((ks ++ [46]) ++ [n]) _ n t (by assumption) (by assumption) (by (intro p hp; simp only [List.mem_cons, List.not_mem_nil, or_false] at hp; rcases hp with rfl | rfl <;> rfl)) (IntsAre.snoc (IntsAre.snoc hI 46 _) n t) (by simp only [List.length_append, List.length_cons, List.length_nil]; omega) (hO.dot hn (by assumption) (by assumption)) (range_snoc (range_snoc hkr (by decide)) hnr)
        | exact H _ _ _ (us ++ [.int n t]) (ks ++ [n]) _ n t (by assumption) (by assumption) (by (intro p hp; simp only [List.mem_cons, List.not_mem_nil, or_false] at hp; rcases hp with rfl | rfl <;> rfl)) (IntsAre.snoc hI n t) (by simp only [List.length_append, List.length_cons, List.length_nil]; omega) (hO.other hn hnr.1 (by omega)) (range_snoc hkr hnr)
        | fail "oct: an end")
  case done =>
    clear lF' lN'
    rintro m₁ news₁ hh tkk - ⟨us, ks, n', a, ta, rfl, hm, hI, hks, hO, hkr⟩ F₂ N₂
    have hO' := OI.done hO
    replace F₂ := fr_say hm F₂
    dsimp only [kstB] at F₂
    replace F₂ : Fr g' L' hh _ := F₂
    replace N₂ : News g' L' hh ((l0, listOf (List.toArray us) n') :: news) := N₂
    dsimp only
    k_steps
    have e : byteArr ks = ((quote true (ns.map Int.toNat)).map (·.toUInt8)).toArray := by
      rw [hO', List.map_map]; rfl
    rw [e]
    rename_i kF kN _ _
    exact h _ _ _ kF fun p hp => kN p (.tail _ hp)
end
end Mine

/- part DzJoin -/
namespace Mine
open PySem PySem.W PySem.Calls PyProof.Rows
def mkS (r : List Nat) : Str := ⟨r.toArray⟩
theorem mkS_length (r : List Nat) : (mkS r).length = r.length := by simp [mkS, Str.length]
theorem glued_crlf (ys : List (List Nat)) : PySem.Txt.join (Str.ofString "\u000d\n") (ys.map mkS) = mkS (joinL ys) := by
  rw [crlf_str]
  show Builtin.Str.glued ⟨#[13, 10]⟩ _ = _
  unfold Builtin.Str.glued
  cases ys with
  | nil => rfl
  | cons y ys =>
    simp only [List.map_cons, List.drop_succ_cons, List.drop_zero, List.headD_cons]
    unfold mkS
    congr 1
    have g : ∀ (l : List (List Nat)) (o : List Nat), (l.map fun r => (⟨r.toArray⟩ : Str)).foldl (fun acc p => acc ++ #[13, 10] ++ p.cps) o.toArray = (joinL (o :: l)).toArray := by
      intro l
      induction l with
      | nil => intro o; simp [joinL]
      | cons a l ih =>
        intro o
        rw [joinL_cons _ ⟨a, l, rfl⟩]
        have e : (o.toArray ++ #[13, 10] ++ (⟨a.toArray⟩ : Str).cps) = (o ++ 13 :: 10 :: a).toArray := by simp
        rw [List.map_cons, List.foldl_cons, e, ih]
        cases l with
        | nil => simp [joinL]
        | cons b l => simp [joinL]
    exact g ys y
theorem rowsF_sum (cr : Bool) (row t : List Nat) : ((rowsF cr row t).map List.length).sum ≤ row.length + t.length ∧ (rowsF cr row t).length ≤ t.length + 1 := by
  induction t generalizing cr row with
  | nil => simp [rowsF]
  | cons c r ih =>
    unfold rowsF
    split
    · have := ih false row; simp only [List.length_cons]; omega
    · split
      · have := ih (c == 13) []
        simp only [List.length_cons, List.map_cons, List.sum_cons, List.length_nil] at this ⊢; omega
      · have := ih false (row ++ [c])
        simp only [List.length_cons, List.length_append, List.length_nil] at this ⊢; omega
theorem rows_sum (x : Str) : ((rows x.cps.toList).map List.length).sum ≤ x.length ∧ (rows x.cps.toList).length ≤ x.length + 1 := by
  have := rowsF_sum false [] x.cps.toList
  simp only [List.length_nil, Array.length_toList] at this
  unfold rows
  have e : x.length = x.cps.size := rfl
  omega
theorem sum_mkS (l : List (List Nat)) : ((l.map mkS).map (·.length)).sum = (l.map List.length).sum := by
  rw [List.map_map]
  have e : (fun (y : Str) => y.length) ∘ mkS = List.length := funext fun r => mkS_length r
  rw [e]
def fixedS (x : Str) : Str := mkS (fixed x.cps.toList)
def dueS (x : Str) : Str := mkS (due x.cps.toList)
theorem rowsS_eq (x : Str) : rowsS x = (rows x.cps.toList).map mkS := rfl
def dotS (row : Str) : Str := if (Txt.slice row none (some 1) == Str.ofString ".") = true then Str.ofString "." ++ row else row
theorem dotS_mk (r : List Nat) : dotS (mkS r) = mkS (dot r) := by
  unfold dotS dot
  rw [slice_first]
  by_cases h : r.take 1 = [46]
  · rw [if_pos (decide_eq_true (show (mkS r).cps.toList.take 1 = [46] from h)), if_pos h]
    apply Str.ext'
    rw [Str.cps_append]
    have : (Str.ofString ".").cps = #[46] := by decide +kernel
    rw [this]
    simp [mkS]
  · rw [if_neg (by rw [decide_eq_false (show ¬ (mkS r).cps.toList.take 1 = [46] from h)]; exact Bool.false_ne_true), if_neg h]
theorem dots_eq (x : Str) : (rowsS x).map dotS = ((rows x.cps.toList).map dot).map mkS := by
  rw [rowsS_eq, List.map_map, List.map_map]
  exact List.map_congr_left fun r _ => dotS_mk r
theorem dot_length (r : List Nat) : (dot r).length ≤ r.length + 1 := by
  unfold dot; split <;> simp
theorem dots_sum : ∀ (l : List (List Nat)), ((l.map dot).map List.length).sum ≤ (l.map List.length).sum + l.length
  | [] => by simp
  | a :: l => by
    have := dots_sum l
    have h2 := dot_length a
    simp only [List.map_cons, List.sum_cons, List.length_cons] at this ⊢
    omega
theorem joinL_length : ∀ (l : List (List Nat)), (joinL l).length ≤ (l.map List.length).sum + 2 * l.length
  | [] => by simp [joinL]
  | [r] => by simp [joinL]
  | r :: q :: rs => by
    have := joinL_length (q :: rs)
    rw [joinL_cons r ⟨q, rs, rfl⟩]
    simp only [List.map_cons, List.sum_cons, List.length_cons, List.length_append] at this ⊢
    omega
theorem fixedS_length (x : Str) : (fixedS x).length ≤ 3 * x.length + 2 := by
  have h1 := rows_sum x
  have h2 := joinL_length (rows x.cps.toList)
  unfold fixedS fixed
  rw [mkS_length]
  omega
theorem crlf_len : (Str.ofString "\u000d\n").length = 2 := by decide +kernel
section
variable {prog : Program} {w : World} {A : Around} {E : Value → Shared → Prop} {s : Shared} {h₀ : Heap} {L : Addr} {m : Str → Option Value} {news : List (Addr × Obj)} {Q : Value → Shared → Prop}
theorem join_fixed {x : Str} {D : Addr} {vs : List Value} {n : Nat} {t : Tok} (N : News h₀ L s.heap news) (hm : (D, listOf vs.toArray n) ∈ news) (hS : StrsAre vs (rowsS x)) (hx : x.length ≤ 40)
    (h : ∀ t' k, Q (.str (fixedS x) t') { s with toks := k }) : wpAny (model prog w) A (call (.builtin "str.join") [.str (Str.ofString "\u000d\n") t, .ref D]) Q E s := by
  have h1 := rows_sum x
  refine join_list (News.isList N hm) hS ?_ fun t' k => ?_
  · rw [rowsS_eq, sum_mkS, List.length_map, crlf_len]; omega
  · rw [rowsS_eq, glued_crlf]; exact h t' k
theorem join_due {x : Str} {D : Addr} {vs : List Value} {n : Nat} {t : Tok} (N : News h₀ L s.heap news) (hm : (D, listOf vs.toArray n) ∈ news) (hS : StrsAre vs ((rowsS x).map dotS)) (hx : x.length ≤ 40)
    (h : ∀ t' k, Q (.str (dueS x) t') { s with toks := k }) : wpAny (model prog w) A (call (.builtin "str.join") [.str (Str.ofString "\u000d\n") t, .ref D]) Q E s := by
  have h1 := rows_sum x
  have h2 := dots_sum (rows x.cps.toList)
  refine join_list (News.isList N hm) hS ?_ fun t' k => ?_
  · rw [dots_eq, sum_mkS, List.length_map, List.length_map, crlf_len]; omega
  · rw [dots_eq, glued_crlf]; exact h t' k
end
theorem fixS_eq (x : Str) : fixS x = fixedS x := by unfold fixS fixedS; rw [fix_eq]; rfl
theorem quote_fixS (x : Str) : quoteS (fixS x) = dueS x := by
  unfold quoteS fixS dueS mkS
  rw [← quote_fix]
theorem quote_fixS_fixed (x : Str) : quoteS (fixS (fixedS x)) = dueS x := by
  unfold quoteS fixS dueS mkS fixedS mkS
  rw [← quote_fix_fixed]
end Mine

/- part DzComp -/
namespace Mine
open PySem PySem.W PySem.Calls PyProof.Rows
section
variable {prog : Program} {w : World} {A : Around} {E : Value → Shared → Prop} {s : Shared} {h₀ : Heap} {L : Addr} {m : Str → Option Value} {env : Env} {elt : Expr} {x : Str} {scope : Scope} {cl : List (Str × Addr)} {S : List (Addr × Obj) → Prop} {P : Nat → Value → Prop} {Fin : List Value → List (Addr × Obj) → Prop} {news : List (Addr × Obj)}

/-- a comprehension whose element is a function of the item alone -/
theorem rest_gen {α β : Type} {n : Nat} {xs : List α} (isX : α → Value → Prop) (isY : β → Value → Prop) (g : α → β) (R : List Value → List β → Prop) (hn : xs.length = n) (hP : ∀ i v, i < n → P i v → ∃ a, xs[i]? = some a ∧ isX a v)
    (R0 : R [] []) (Rs : ∀ ys bs u b, R ys bs → isY b u → R (ys ++ [u]) (bs ++ [b]))
    (turn : ∀ a v I oI C oC D ys m₂ h tk (E' : Value → Shared → Prop), a ∈ xs → isX a v → LCg.NsObj oC m₂ → m₂ x = some v → Fr h₀ L h m → News h₀ L h ((I, oI) :: (C, oC) :: (D, LCg.lst ys) :: news) → ∀ Qv : Value → Shared → Prop,
      (∀ u h' tk', isY (g a) u → Fr h₀ L h' m → News h₀ L h' ((I, oI) :: (C, oC) :: (D, LCg.lst ys) :: news) → Qv u { s with heap := h', toks := tk' }) →
      wpAny (model prog w) A (eval elt (compEnvC scope cl C env)) Qv E' { s with heap := h, toks := tk })
    (hS : S news) (fin : ∀ ys, R ys (xs.map g) → Fin ys news) : LCg.CompRest prog w A h₀ L m env elt x scope cl s S P Fin n 0 [] news := by
  have key : ∀ (j i : Nat) (ys : List Value), i + j = n → R ys ((xs.take i).map g) → LCg.CompRest prog w A h₀ L m env elt x scope cl s S P Fin j i ys news := by
    intro j
    induction j with
    | zero =>
      intro i ys hi hy
      obtain rfl : i = xs.length := by omega
      rw [List.take_length] at hy
      exact LCg.CompRest.zero (fin ys hy)
    | succ j ih =>
      intro i ys hi hy
      refine LCg.CompRest.succ ?_
      intro v I oI C oC D m₂ h tk E' hv hC hx F N off ne
      obtain ⟨a, ha, hav⟩ := hP i v (by omega) hv
      refine turn a v I oI C oC D ys m₂ h tk E' (List.mem_of_getElem? ha) hav hC hx F N _ fun u h' tk' hu F' N' => ?_
      refine ⟨h', tk', news, rfl, F', N', off, hS, ?_⟩
      refine ih (i + 1) _ (by omega) ?_
      rw [List.take_add_one, ha]
      simpa using Rs _ _ u (g a) hy hu
  exact key n 0 [] (by omega) (by simpa using R0)

def isStr (y : Str) (v : Value) : Prop := ∃ t, v = .str y t
def isInt (n : Int) (v : Value) : Prop := ∃ t, v = .int n t
theorem strsAre_get {vs : List Value} {ys : List Str} (h : StrsAre vs ys) : ∀ (i : Nat) v, vs[i]? = some v → ∃ y, ys[i]? = some y ∧ isStr y v := by
  induction h with
  | nil => intro i v h; cases i <;> cases h
  | cons y t _ ih =>
    intro i v h
    cases i with
    | zero => exact ⟨y, rfl, t, (Option.some.inj h).symm⟩
    | succ i => exact ih i v h
theorem walks_str (hh : A.handled = none) (I : Addr) (tx : Str) (t : Tok) : Walks prog w A I [I] [I] tx.cps.size (SignAt tx) (fun i h => h.IsStrIter I (strIterType tx) tx t i) := by
  unfold strIterType
  cases ha : tx.cps.all (· < 128)
  · rw [if_neg Bool.false_ne_true]; exact Walks.strWide hh I tx t
  · rw [if_pos rfl]; exact Walks.strAscii hh I tx t

/-- codes = [.. for sign in text] -/
theorem Assign_comp_str {iter : Expr} {y : Str} {px py : Pos} {pos spos : Pos} {tx : Str} {t : Tok} {Q : Flow → Shared → Prop} (F : Fr h₀ env.locals s.heap m) (N : News h₀ env.locals s.heap news) (hh : A.handled = none) (hsz : tx.length ≤ 1000)
    (hsw : swapsWith (.ListComp elt [⟨.Name x px, iter, [], 0⟩] scope pos) (some (.Name y py)) spos.line env = pure true)
    (hclos : closureFor scope env = pure cl) (hcell : ∀ z ∈ scope.names, z.2 ≠ .cell) (hkind : scope.kind = .function)
    (hnames : ∀ z ∈ scope.names, z.2 = .local → scope.names.lookup z.1 = some .local) (hx : scope.names.lookup x = some .local)
    (hy : env.kindOf y = some .local) (hp : (env.scope.kind == .class || (env.scope.kind == .module && env.locals != env.globals)) = false)
    (hi : ∀ Q' : Value → Shared → Prop, Q' (.str tx t) s → wpAny (model prog w) A (eval iter env) Q' E s)
    (h : ∀ g, LCg.CompRest prog w A h₀ env.locals m env elt x scope cl { s with heap := g } (fun _ => True) (SignAt tx) (LCg.FinA h₀ env.locals m { s with heap := g } y Q) tx.cps.size 0 [] news)
    (hs : ∀ x, foldedSetIterable iter env x = pure x) :
    wpAny (model prog w) A (exec (.Assign [.Name y py] (.ListComp elt [⟨.Name x px, iter, [], 0⟩] scope pos) spos) env) Q E s := by
  rw [exec_Assign_Name_used _ _ _ _ hsw]
  refine wpAny_bind (wpAny_standAt (wpAny_bind ?_))
  show wpAny _ A (do let _ ← comprehension (.ListComp elt [⟨.Name x px, iter, [], 0⟩] scope pos) scope env _ (newList []) false (eval iter env) (some (assign (.Name y py) env))) _ _ s
  refine wpAny_bind (wpAny_mono (wpAny_comprehension_free (use := some (assign (.Name y py) env)) (Q := fun _ s' => Q .next s') rfl hs hclos hkind hnames (hi _ ?_)) (fun _ s' hq => wpAny_pure (wpAny_pure hq)) fun _ _ e => e)
  refine wpAny_pyIter_strU ?_
  have up : ∀ b o, s.heap.get? b = some o → (s.heap.push { cls := .type (strIterType tx), data := .fields #[.str tx t, .int 0 0] }).get? b = some o := fun b o e => Heap.get?_push_of_some _ e
  refine LCg.block_U (S := fun _ => True) (walks_str hh s.heap.objs.size tx t) (by show tx.length ≤ sizeLine; rw [sizeLine_eq]; omega) (fun i h st => by obtain ⟨o, e, _⟩ := st; exact ⟨o, e⟩)
    (fun i h h' o nw st e e' _ _ _ => by obtain ⟨o', q, r⟩ := st; rw [e] at q; cases q; exact ⟨o, e', r⟩) hcell hkind hx ⟨_, Heap.get?_push_size _ rfl, rfl, rfl⟩ (fun b hb => ?_)
    (fr_keeps F up) (news_keeps N up) (Nat.ne_of_lt F.ns.lt) (next_is_new F) (fun p hp => Nat.ne_of_lt (Heap.lt_size (N p hp).1)) trivial (h _) ?_
  · rw [List.mem_singleton.mp hb]
    show s.heap.objs.size < (s.heap.push _).objs.size
    rw [Heap.size_push]; exact Nat.lt_succ_self _
  · intro D C h' tk m' ys news' F' N' o1 hn hC₀ hD₀ hCL hDL hCD offC fin
    show wpAny _ A (assign (.Name y py) env (.ref D)) _ _ _
    refine wpAny_assign_Name (wpAny_storeName_local hy F'.ns (fun h₂ hn₂ hs₂ => ?_) hp)
    refine ⟨m', hn.sameBut hs₂ hCL, fun h'' hs'' => fin D h'' _ ((F'.set hn₂ hs₂).change hs'' hCL hC₀) (fun p hp => ?_) o1⟩
    refine ⟨hs''.extBut _ _ ?_ (hs₂.extBut _ _ (N' p hp).2.1 (N' p hp).1), (N' p hp).2⟩
    rcases List.mem_cons.mp hp with rfl | hp
    · exact Ne.symm hCD
    · exact offC p hp
end
end Mine

/- part DzSubR -/
namespace Mine
open PySem PySem.W PySem.Calls PyProof.Rows
theorem fixS_fixed (x : Str) : fixS (fixedS x) = fixedS x := by
  unfold fixS fixedS mkS
  rw [fix_fixed]
theorem quoteS_fixed (x : Str) : quoteS (fixedS x) = dueS x := by
  unfold quoteS fixedS dueS mkS
  rw [show due x.cps.toList = quote true (fixed x.cps.toList) from (quote_join _ (clean_rows _)).symm]
section
variable {prog : Program} {w : World} {A : Around} {E : Value → Shared → Prop} {s : Shared} {h₀ : Heap} {L : Addr} {m : Str → Option Value} {news : List (Addr × Obj)} {P : Params} {Q : Value → Shared → Prop}
theorem sub3_fixed {x : Str} {t tr : Tok} (F : Fr h₀ L s.heap m) (N : News h₀ L s.heap news) (X₀ : (hd.heap_39 P).In h₀) (hx : x.length ≤ 40)
    (h : ∀ h' tk t', Fr h₀ L h' m → News h₀ L h' news → Q (.str (fixedS x) t') { s with heap := h', toks := tk }) :
    wpAny (model prog w) A (call (.builtin "re.Pattern.sub") [.ref 46, .str (Str.ofString "\u000d\n") tr, .str (fixedS x) t]) Q E s :=
  sub3 F N X₀ (by have := fixedS_length x; omega) fun h' tk t' F' N' => by rw [fixS_fixed]; exact h h' tk t' F' N'
theorem sub3_part {x : Str} {t tr : Tok} (F : Fr h₀ L s.heap m) (N : News h₀ L s.heap news) (X₀ : (hd.heap_39 P).In h₀) (hx : x.length ≤ 40)
    (h : ∀ h' tk t', Fr h₀ L h' m → News h₀ L h' news → Q (.str (fixedS x) t') { s with heap := h', toks := tk }) :
    wpAny (model prog w) A (call (.builtin "re.Pattern.sub") [.ref 46, .str (Str.ofString "\u000d\n") tr, .str x t]) Q E s :=
  sub3 F N X₀ (by omega) fun h' tk t' F' N' => by rw [fixS_eq]; exact h h' tk t' F' N'
theorem sub1_fixed {x : Str} {t tr : Tok} (F : Fr h₀ L s.heap m) (N : News h₀ L s.heap news) (X₀ : (hd.heap_39 P).In h₀) (hx : x.length ≤ 40)
    (h : ∀ h' tk t', Fr h₀ L h' m → News h₀ L h' news → Q (.str (dueS x) t') { s with heap := h', toks := tk }) :
    wpAny (model prog w) A (call (.builtin "re.Pattern.sub") [.ref 36, .str (Str.ofString "..") tr, .str (fixedS x) t]) Q E s :=
  sub1 F N X₀ (by have := fixedS_length x; omega) fun h' tk t' F' N' => by rw [quoteS_fixed]; exact h h' tk t' F' N'
theorem ne_same {x : Str} {t u : Tok} (h : Q (.bool false) s) : wpAny (model prog w) A (compareOp .NotEq (.str x t) (.str x u)) Q E s := by
  refine PyProof.Rows.ne_str ?_
  rw [show (x != x) = false from by simp]
  exact h
theorem ne_same_bytes {x y : Array UInt8} {t u : Tok} (e : x = y) (h : Q (.bool false) s) : wpAny (model prog w) A (compareOp .NotEq (.bytes x t) (.bytes y u)) Q E s := by
  subst e
  refine PySem.W.ne_bytes ?_
  rw [show (x.toList != x.toList) = false from by simp]
  exact h
end
end Mine

/- part DzInner -/
namespace Mine
open PySem PySem.W PyProof.Rows
set_option maxRecDepth 100000
set_option maxHeartbeats 8000000
def bodyOf : Stmt → List Stmt
  | .FunctionDef _ _ b _ _ _ _ _ _ _ => b
  | .For _ _ b _ _ => b
  | _ => []
def scopeOf : Stmt → Scope
  | .FunctionDef _ _ _ _ _ _ sc _ _ _ => sc
  | _ => default
def lawDef : Stmt := Challenge.pw_dz0106_01.main.body.getD 12 default
def innerBody : List Stmt := bodyOf ((bodyOf ((bodyOf lawDef).getD 3 default)).getD 0 default)
def lawScope : Scope := scopeOf lawDef

local macro_rules | `(tactic| walk_at "call builtin:str.join") => `(tactic| (k_here; k_dflt (first
  | (refine' join_fixed ?k1 ?k2 ?k3 ?k4 ?_; (case k1 => k_asm); (case k2 => k_memK); (case k3 => assumption); (case k4 => omega); k_whole)
  | (refine' join_due ?k1 ?k2 ?k3 ?k4 ?_; (case k1 => k_asm); (case k2 => k_memK); (case k3 => assumption); (case k4 => omega); k_whole)); intro t' k'))
local macro_rules | `(tactic| walk_at "compareOp NotEq str str") => `(tactic| refine ne_same ?_)
local macro_rules | `(tactic| walk_at "call ref") => `(tactic| (k_here; (with_reducible show wpAny _ _ (call (Value.ref 74) [Value.str _ _]) _ _ _); k_dflt (refine' rows_call ?k1 ?k2 ?k3 ?k4 ?k5 ?k6 ?k7 ?_; (case k1 => assumption); (case k2 => assumption); (case k3 => assumption); (case k4 => assumption); (case k5 => assumption); (case k6 => rfl); (case k7 => omega); k_whole); intro D' vs' n' h' tk' F' N' hS'; (try k_sweep)))
local macro_rules | `(tactic| walk_at "getMethod ref") => `(tactic| (k_here; k_dflt (first | refine meth1 (by k_asm) (by k_asm) ?_ | refine meth2 (by k_asm) (by k_asm) ?_ | refine meth3 (by k_asm) (by k_asm) ?_)))

local macro_rules | `(tactic| k_steps) => `(tactic| repeat' ((fail_if_success (with_reducible show wpAny _ _ (eval (Expr.ListComp _ _ _ _) _) _ _ _)); (fail_if_success (with_reducible show wpAny _ _ (exec (Stmt.Assign _ (Expr.ListComp _ _ _ _) _) _) _ _ _)); (first | (k_unfold; (try dsimp only)) | (k_end; wrow_close) | walk1 | (dsimp only; walk1) | (leave1; walk_say "STEP leave1"; try dsimp only) | fail "no step")))
theorem is_dot_yes {y : Str} {t : Tok} (h : (Txt.slice y none (some 1) == Str.ofString ".") = true) : isStr (dotS y) (.str (Str.ofString "." ++ y) t) := ⟨t, by unfold dotS; rw [if_pos h]⟩
theorem is_dot_no {y : Str} {t : Tok} (h : (Txt.slice y none (some 1) == Str.ofString ".") = false) : isStr (dotS y) (.str y t) := ⟨t, by unfold dotS; rw [if_neg (ne_true_of_eq_false h)]⟩
def code (c : Nat) : Int := Int.fmod (c : Int) 256
theorem code_range (c : Nat) : 0 ≤ code c ∧ code c < 256 := ⟨fmod_lo _ (by decide), fmod_hi _ (by decide)⟩
def codes (x : Str) : List Int := x.cps.toList.map code
theorem codes_range (x : Str) : ∀ n ∈ codes x, 0 ≤ n ∧ n < 256 := fun n hn => by
  obtain ⟨c, _, rfl⟩ := List.mem_map.mp hn
  exact code_range c
theorem codes_length (x : Str) : (codes x).length = x.length := by simp [codes, Str.length]
theorem quoteB_bytes {ns : List Int} (h : ∀ n ∈ ns, 0 ≤ n ∧ n < 256) : quoteB (byteArr ns) = ((quote true (ns.map Int.toNat)).map (·.toUInt8)).toArray := by
  unfold quoteB
  congr 3
  unfold byteArr
  rw [List.map_toArray, List.map_map, List.map_congr_left]
  intro n hn
  have := h n hn
  show (n.toNat.toUInt8).toNat = n.toNat
  rw [show n.toNat.toUInt8 = UInt8.ofNat n.toNat from rfl, UInt8.toNat_ofNat']
  omega
local macro_rules | `(tactic| walk_at "call ref") => `(tactic| (k_here; (with_reducible show wpAny _ _ (call (Value.ref 81) [Value.ref _]) _ _ _); k_dflt (refine' oct_call ?k1 ?k2 ?k3 ?k4 ?k5 ?k6 ?k7 ?k8 ?k9 ?k10 ?_; (case k1 => assumption); (case k2 => assumption); (case k3 => assumption); (case k4 => assumption); (case k5 => assumption); (case k6 => rfl); (case k7 => k_memK); (case k8 => assumption); (case k9 => exact codes_range _); (case k10 => (rw [codes_length]; omega)); k_whole); intro h' tk' t' F' N'; (try k_sweep)))
local macro_rules | `(tactic| walk_at "call builtin:re.Pattern.sub") => `(tactic| (k_here; k_dflt (first
  | (refine' sub3_fixed ?k1 ?k2 ?k3 ?k4 ?_; (case k1 => k_asm); (case k2 => k_asm); (case k3 => k_asm); (case k4 => omega); k_whole)
  | (refine' sub3_part ?k1 ?k2 ?k3 ?k4 ?_; (case k1 => k_asm); (case k2 => k_asm); (case k3 => k_asm); (case k4 => omega); k_whole)
  | (refine' sub1_fixed ?k1 ?k2 ?k3 ?k4 ?_; (case k1 => k_asm); (case k2 => k_asm); (case k3 => k_asm); (case k4 => omega); k_whole)
  | (refine' sub2 ?k1 ?k2 ?k3 ?k4 ?_; (case k1 => k_asm); (case k2 => k_asm); (case k3 => k_asm); (case k4 => (rw [byteArr_size, codes_length]; omega)); k_whole)); intro h' tk' t' F' N'; (try k_sweep)))
theorem bytes_codes {prog : Program} {w : World} {A : Around} {E : Value → Shared → Prop} {s : Shared} {h₀ : Heap} {L D : Addr} {m : Str → Option Value} {news : List (Addr × Obj)} {vs : List Value} {x : Str} {n : Nat} {Q : Value → Shared → Prop}
    (F : Fr h₀ L s.heap m) (N : News h₀ L s.heap news) (hm : (D, listOf (List.toArray vs) n) ∈ news) (hi : IntsAre vs (codes x)) (hx : x.length ≤ 40) (hh : A.handled = none)
    (h : ∀ h' t k, Fr h₀ L h' m → News h₀ L h' news → Q (.bytes (byteArr (codes x)) t) { s with heap := h', toks := k }) : wpAny (model prog w) A (call (.type "bytes") [.ref D]) Q E s :=
  bytes_K F N (News.isList N hm) hi (codes_range x) (by have := hi.length; rw [codes_length] at this; rw [sizeLine_eq]; omega) hh fun h' t k F' N' _ => h h' t k F' N'
local macro_rules | `(tactic| walk_at "call type:bytes") => `(tactic| (k_here; k_dflt (refine' bytes_codes ?k1 ?k2 ?k3 ?k4 ?k5 ?k6 ?_; (case k1 => k_asm); (case k2 => k_asm); (case k3 => k_memK); (case k4 => assumption); (case k5 => omega); (case k6 => rfl); k_whole); intro h' t' k' F' N'; (try k_sweep)))
local macro_rules | `(tactic| walk_at "compareOp NotEq bytes bytes") => `(tactic| refine ne_same_bytes (quoteB_bytes (codes_range _)) ?_)
theorem le_sum_of_mem {l : List Nat} {a : Nat} (h : a ∈ l) : a ≤ l.sum := by
  induction l with
  | nil => cases h
  | cons b l ih =>
    rw [List.sum_cons]
    rcases List.mem_cons.mp h with rfl | h
    · omega
    · have := ih h; omega
theorem rowsS_le {x y : Str} (h : y ∈ rowsS x) : y.length ≤ x.length := by
  rw [rowsS_eq] at h
  obtain ⟨r, hr, rfl⟩ := List.mem_map.mp h
  rw [mkS_length]
  exact Nat.le_trans (le_sum_of_mem (List.mem_map_of_mem hr)) (rows_sum x).1
section
variable {w : World} {E : Value → Shared → Prop} {s : Shared} {base h₀ : Heap} {L fa : Addr} {m mg mb : Str → Option Value} {news : List (Addr × Obj)} {mean : ExcName → Option Value} {sc : Scope} {cd : Value} {body : List Stmt}

theorem inner_ok {x : Str} {t : Tok} (B : Below callerA base [] h₀) (X₀ : (hd.heap_39 w.params).In h₀)
    (T : Top hd.view_39 (looseW hd.view_39 [Str.ofString "_twin_re_1", Str.ofString "_twin_re_2", Str.ofString "_twin_re_3"]) mean mg mb h₀)
    (hsc : sc = lawScope) (hbo : body = innerBody) (hx : x.length ≤ 33) (F : Fr h₀ L s.heap (fun y => if y = Str.ofString "part" then some (.str x t) else m y)) (N : News h₀ L s.heap news)
    (Q : Flow → Shared → Prop)
    (h : ∀ h' tk m', Fr h₀ L h' m' → News h₀ L h' news → (∀ z, [Str.ofString "part", Str.ofString "rows", Str.ofString "fixed", Str.ofString "due", Str.ofString "codes"].contains z = false → m' z = m z) → Q .next { s with heap := h', toks := tk }) :
    wpAny (model Challenge.rw_dz0106_01.row.prog w) (callerA.deeper (envOf (Str.ofString "law") sc L fa cd)) (execs body (envOf (Str.ofString "law") sc L fa cd)) Q E s := by
  revert X₀
  k_fill
  intro X₀
  w_on
  w_top on
  subst hsc hbo
  conv =>
    pattern innerBody
    whnf
  conv =>
    pattern (occs := *) lawScope
    all_goals whnf
  k_steps
  (rename StrsAre _ _ => hS1); (rename Fr _ _ _ _ => F1); (rename News _ _ _ _ => N1)
  have hlen := StrsAre.len hS1
  have hrl := (rows_sum x).2
  have hlr : (rowsS x).length = (rows x.cps.toList).length := by rw [rowsS_eq, List.length_map]
  refine LCg.ListComp_U (F₀ := F1) rfl (by decide) rfl (by decide) rfl ?_ (by intro _; rfl)
  walk1
  refine LCg.CompSrc.ledger rfl F1 N1 (.head _) (by rw [List.size_toArray, sizeLine_eq]; omega) fun g => ?_
  refine rest_gen (xs := rowsS x) isStr isStr dotS StrsAre (by rw [List.size_toArray]; omega) (fun i v _ hv => strsAre_get hS1 i v (by simpa using hv)) .nil (fun ys bs u b hR hu => by obtain ⟨t, rfl⟩ := hu; exact StrsAre.snoc hR b t) ?turn (.inr ⟨_, .head _, rfl, _, rfl⟩) ?fin
  case turn =>
    rintro y v I oI C oC D ys m₂ h2 tk2 E2 hy ⟨ty, rfl⟩ hC hx2 F2 N2 Qv H
    have hyl : y.length ≤ 33 := Nat.le_trans (rowsS_le hy) hx
    k_steps
    all_goals (first | exact H _ _ _ (is_dot_yes (by assumption)) (by assumption) (by assumption) | exact H _ _ _ (is_dot_no (by assumption)) (by assumption) (by assumption))
  case fin =>
    intro ys hR D h2 tk2 F2 N2 hoff
    k_steps
    (rename Fr _ _ _ _ => F3); (rename News _ _ _ _ => N3)
    refine Assign_comp_str (tx := x) (t := t) F3 N3 rfl (by omega) (by with_unfolding_all rfl) (by with_unfolding_all rfl) (by decide) rfl (by decide) rfl rfl rfl ?hi ?rest (by intro _; rfl)
    case hi =>
      intro Q' hq
      walk1
      exact hq
    case rest =>
      intro g3
      refine rest_gen (xs := x.cps.toList) (fun c v => ∃ u, v = .str ⟨#[c]⟩ u) isInt code IntsAre (by simp) (fun i v _ hv => by obtain ⟨c, u, hc, rfl⟩ := hv; exact ⟨c, by simpa using hc, u, rfl⟩) .nil (fun ys bs u b hR hu => by obtain ⟨t, rfl⟩ := hu; exact IntsAre.snoc hR b t) ?turn2 trivial ?fin2
      case turn2 =>
        rintro c v I oI C oC D4 ys4 m₂ h4 tk4 E4 hc ⟨u, rfl⟩ hC hx2 F4 N4 Qv H
        k_steps
        all_goals exact H _ _ _ ⟨_, rfl⟩ (by assumption) (by assumption)
      case fin2 =>
        intro ys4 hR4 D4 h4 tk4 F4 N4 hoff4
        replace hR4 : IntsAre ys4 (codes x) := hR4
        replace F4 : Fr h₀ L h4 _ := F4
        replace N4 : News h₀ L h4 ((D4, listOf (List.toArray ys4) ys4.length) :: _) := N4
        clear F3 N3
        k_steps
        (rename Fr _ _ _ _ => F9); (rename News _ _ _ _ => N9)
        refine h _ _ _ F9 (fun p hp => N9 p (.tail _ (.tail _ (.tail _ hp)))) fun z hz => ?_
        simp only [List.contains_cons, List.contains_nil, Bool.or_false, Bool.or_eq_false_iff, beq_eq_false_iff_ne, ne_eq] at hz
        obtain ⟨z1, z2, z3, z4, z5⟩ := hz
        simp only [if_neg z1, if_neg z2, if_neg z3, if_neg z4, if_neg z5]
end
end Mine

/- part DzLoop -/
namespace Mine
open PySem PySem.W PySem.Calls PyProof.Rows
section
variable {prog : Program} {w : World} {A : Around} {E : Value → Shared → Prop} {s : Shared} {env : Env} {h₀ : Heap} {x : Str} {body : List Stmt} {Q : Flow → Shared → Prop}
theorem list_free {l : Addr} {vs : List Value} {nn : Nat} {m₀ : Str → Option Value} {keep : List (Addr × Obj)} (stored : List Str) (P : Value → Prop) (hP : ∀ v ∈ vs, P v) (hh : A.handled = none)
    (F : Fr h₀ env.locals s.heap m₀) (N : News h₀ env.locals s.heap ((l, listOf (List.toArray vs) nn) :: keep)) (hlt : ∀ p ∈ keep, p.1 ≠ l)
    (turn : ∀ v (u : Str → Option Value) h tk own, P v → Fr h₀ env.locals h (fun y => if y = x then some v else if stored.contains y then u y else m₀ y) → News h₀ env.locals h (keep ++ own) →
      wpAny (model prog w) A (execs body env) (InvPostN h₀ env.locals (fun m nx => nx = keep ∧ ∀ z, z ≠ x → stored.contains z = false → m z = m₀ z) own (keep.map (·.1)) { s with heap := h, toks := tk } Q) E { s with heap := h, toks := tk })
    (done : ∀ (u : Str → Option Value) h tk, Fr h₀ env.locals h (fun y => if y = x then u y else if stored.contains y then u y else m₀ y) → News h₀ env.locals h keep → Q .next { s with heap := h, toks := tk }) :
    wpAny (model prog w) A (pyIter (.ref l)) (fun it s₂ => LoopAtV prog w A h₀ env x body Q E it s₂) E s := by
  have hol := (N _ (.head _)).1
  have hls : s.heap.IsList l vs.toArray := ⟨_, hol, rfl, nn, rfl⟩
  have hne : l ≠ s.heap.objs.size := Nat.ne_of_lt (Heap.lt_size hol)
  refine wpAny_pyIter_list hls ?_
  have up : ∀ b o, s.heap.get? b = some o → (s.heap.push { cls := .type "list_iterator", data := .fields #[.ref l, .int 0 0] }).get? b = some o := fun b o e => Heap.get?_push_of_some _ e
  refine loop_invN (s := { s with heap := s.heap.push { cls := .type "list_iterator", data := .fields #[.ref l, .int 0 0] } }) (news := keep) (fun i m nx => nx = keep ∧ ∀ z, z ≠ x → stored.contains z = false → m z = m₀ z) (Walks.list hh s.heap.objs.size l hne vs.toArray) ?_ ?_ ?_ ?_
    ⟨⟨_, Heap.get?_push_size _ rfl, rfl, rfl⟩, hls.at fun o e => up _ _ e⟩ (fr_keeps F up) (news_keeps (fun p hp => N p (.tail _ hp)) up) ⟨rfl, fun _ _ _ => rfl⟩ ?_ ?_
  · intro hm
    rcases List.mem_cons.mp hm with e | hm
    · exact absurd F.ns.lt (e ▸ Nat.lt_irrefl _)
    · exact (N _ (.head _)).2.1 (List.mem_singleton.mp hm).symm
  · intro b hb
    rw [List.mem_singleton.mp hb]
    exact next_is_new F
  · intro p hp hI
    exact absurd (Heap.lt_size (N p (.tail _ hp)).1) ((List.mem_singleton.mp hI) ▸ Nat.lt_irrefl _)
  · intro p hp hI
    rcases List.mem_cons.mp hI with e | hm
    · exact absurd (Heap.lt_size (N p (.tail _ hp)).1) (e ▸ Nat.lt_irrefl _)
    · exact hlt p hp (List.mem_singleton.mp hm)
  · rintro i v m₁ news₁ h tk own hi hv _ _ ⟨rfl, hm⟩ F₁ N₁
    have hvm : v ∈ vs := by
      have : vs[i]? = some v := by simpa using hv
      exact List.mem_of_getElem? this
    refine turn v m₁ h tk own (hP v hvm) ?_ N₁
    have e : (fun y => if y = x then some v else if stored.contains y then m₁ y else m₀ y) = fun y => if y = x then some v else m₁ y := by
      funext y
      by_cases h1 : y = x
      · rw [if_pos h1, if_pos h1]
      · rw [if_neg h1, if_neg h1]
        cases h2 : stored.contains y with
        | true => simp
        | false => simp only [Bool.false_eq_true, if_false]; exact (hm y h1 h2).symm
    rw [e]
    exact F₁
  · rintro m₁ news₁ h tk ⟨rfl, hm⟩ F₁ N₁
    refine done m₁ h tk ?_ N₁
    have e : (fun y => if y = x then m₁ y else if stored.contains y then m₁ y else m₀ y) = m₁ := by
      funext y
      by_cases h1 : y = x
      · rw [if_pos h1]
      · rw [if_neg h1]
        cases h2 : stored.contains y with
        | true => simp
        | false => simp only [Bool.false_eq_true, if_false]; exact (hm y h1 h2).symm
    rw [e]
    exact F₁
end
end Mine

/- part DzMain -/
namespace Mine
open PySem PySem.W PyProof.Rows
set_option maxRecDepth 100000
set_option maxHeartbeats 8000000
local macro_rules | `(tactic| walk_at "call builtin:str.join") => `(tactic| (k_here; (with_reducible show wpAny _ _ (call (Value.builtin "str.join") [Value.str _ _, Value.ref _]) _ _ _); (refine' join_signs ?k1 ?k2 ?k3 ?k4 ?k5 ?_; (case k1 => assumption); (case k2 => k_memK); (case k3 => assumption); (case k4 => assumption); (case k5 => omega); k_whole); intro y' t' k' hY'))
local macro_rules | `(tactic| walk_at "binaryOp Add str str") => `(tactic| (k_here; (refine' add_text ?k1 ?_; (case k1 => assumption); k_whole); intro y' t' k' hY'))
local macro_rules | `(tactic| k_steps) => `(tactic| repeat' ((fail_if_success ((with_reducible show wpAny _ _ (pyIter (Value.ref _)) (fun it s₂ => LoopAtV _ _ _ _ _ _ _ _ _ it s₂) _ _); (k_of "k" "part" => skip))); (first | (k_unfold; (try dsimp only)) | (k_end; wrow_close) | walk1 | (dsimp only; walk1) | (leave1; walk_say "STEP leave1"; try dsimp only) | fail "no step")))
theorem sig_step {ys : List Str} {pre post ns : List Int} {n : Int} {y : Str} (h1 : ys.length = pre.length) (h3 : ∀ s ∈ ys, PySem.Str.length s = 1) (hL : (ns.take 24).length = pre.length + (post.length + 1)) (hy : y.length = 1) :
    (ys ++ [y]).length = (pre ++ [n]).length ∧ (pre ++ [n]).length ≤ 24 ∧ ∀ s ∈ ys ++ [y], PySem.Str.length s = 1 := by
  have h24 : (ns.take 24).length ≤ 24 := by rw [List.length_take]; omega
  refine ⟨by simp [h1], by rw [List.length_append, List.length_singleton]; omega, fun s hs => ?_⟩
  rcases List.mem_append.mp hs with hs | hs
  · exact h3 s hs
  · rw [List.mem_singleton.mp hs]; exact hy
theorem main : PySem.Challenge.rw_dz0106_01.Holds := by
  k_with "pyIter ref" => (k_of "number" => k_state (fun pre signs => signs.length = pre.length ∧ pre.length ≤ 24 ∧ ∀ s ∈ signs, PySem.Str.length s = 1) "signs$")
  k_with "state" => exact sig_step (by assumption) (by assumption) (by assumption) (by first | assumption | rfl)
  refine hd ?_
  k_go0
  all_goals try k_fold
  k_steps
  (rename Fr _ _ _ _ => lF'); (rename News _ _ _ _ => lN'); (rename IsRange _ _ _ _ _ _ _ _ => rgX)
  refine range_free [Str.ofString "part", Str.ofString "rows", Str.ofString "fixed", Str.ofString "due", Str.ofString "codes"] rfl rgX (by omega) (by omega) lF' lN' ?turn ?done
  case done =>
    clear lF' lN'
    intro u h tk F
    k_steps
  case turn =>
    clear lF' lN'
    intro k t u h tk own hk0 hk1 F N
    k_steps
    rename_i ha tA kA hsA hb tB kB hsB l3 h3 F3 N3 hl3
    refine list_free [Str.ofString "rows", Str.ofString "fixed", Str.ofString "due", Str.ofString "codes"] (fun v => ∃ x t, v = .str x t ∧ x.length ≤ 33) ?P rfl F3 N3 (fun p hp => Nat.ne_of_lt (hl3 p hp)) ?turn2 ?done2
    case P =>
      intro v hv
      rcases List.mem_cons.mp hv with rfl | hv
      · exact ⟨_, _, rfl, by omega⟩
      · rw [List.mem_singleton.mp hv]
        exact ⟨_, _, rfl, by omega⟩
    case turn2 =>
      clear F3 N3
      rintro v u2 h4 tk4 own2 ⟨x, t2, rfl, hx⟩ F4 N4
      refine inner_ok (by assumption) (by assumption) (by assumption) rfl rfl hx F4 N4 _ fun h5 tk5 m5 F5 N5 hm => ?_
      refine ⟨h5, tk5, m5, _, own, rfl, F5, N5, fun p hp => List.mem_append_left _ hp, fun p hp => List.mem_append_right _ hp, rfl, rfl, fun z z1 z2 => ?_⟩
      rw [hm z (by rw [List.contains_cons, z2, Bool.or_false]; exact beq_eq_false_iff_ne.mpr z1), z2, if_neg Bool.false_ne_true]
    case done2 =>
      clear F3 N3
      intro u3 h6 tk6 F6 N6
      dsimp only
      refine wpAny_execs_nil ?_
      refine ⟨h6, tk6, _, own, [], rfl, F6, N6, fun _ hp => (nomatch hp), fun p hp => hp, rfl, rfl, fun z z1 z2 => ?_⟩
      have z3 : ¬ z = Str.ofString "part" := fun e => by rw [e, List.contains_cons, beq_self_eq_true, Bool.true_or] at z2; cases z2
      have z4 : [Str.ofString "rows", Str.ofString "fixed", Str.ofString "due", Str.ofString "codes"].contains z = false := by
        rw [List.contains_cons] at z2
        exact (Bool.or_eq_false_iff.mp z2).2
      dsimp only
      rw [if_neg z3, z4, if_neg Bool.false_ne_true, if_neg z1, z2, if_neg Bool.false_ne_true]
end Mine

theorem PySem.Challenge.cw_dz0106_01_holds : PySem.Challenge.rw_dz0106_01.Holds :=
  Mine.main

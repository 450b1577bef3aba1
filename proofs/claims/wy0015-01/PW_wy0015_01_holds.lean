import PyProof.Rows.All
import Wide.All
import OpenK.AllK
import Wide.FinOn
import PySem.Challenge.RW_wy0015_01
set_option Elab.async false
set_option compiler.extract_closed false

-- part R1
namespace Mine
open PySem

def qcode : Array Nat := #[14, 8, 1, 2, 4294967295, 1, 1, 34, 0, 16, 34, 28, 22, 0, 4294967295, 7, 11, 13, 7, 21, 16, 34, 16, 92, 0, 15, 8, 6, 16, 92, 2, 15, 2, 0, 1, 16, 34, 1]

/-- the machine's state, all that the pattern never turns left out -/
abbrev St (text : Array Nat) (ls st pc pos hd : Nat) (om : Bool) (loops : Array Sre.Loop) (inner : Option Nat) (frames : List Sre.Frame) (wt : Nat) (ans : Option Bool) (seen : Sre.Seen) (oc : Option Sre.Outcome) : Sre.M :=
  { code := qcode, text := text, lim := text.size, start := st, lastStart := ls, wholeText := false, mustAdvance := false, pc := pc, pos := pos, handed := hd, outermost := om,
    marks := #[], lastmark := -1, lastindex := -1, loops := loops, inner := inner, frames := frames, weight := wt, answer := ans, seen := seen, outcome := oc }

abbrev kt : Sre.Kept := { lastmark := -1, lastindex := -1, whole := true, marks := #[] }
abbrev fN (s : Nat) (first : Bool) : Sre.Frame := { wait := .nextStart, pc := 9, pos := s, outermost := first }
abbrev fP (h : Nat) (c : Nat) (first : Bool) : Sre.Frame := { wait := .possMore, pc := 11, pos := h, outermost := first, count := (c : Int), kept := kt, loop := 0 }
abbrev fB (pc h : Nat) : Sre.Frame := { wait := .nextBranch, pc := pc, pos := h, outermost := false, kept := kt }
abbrev lp : Sre.Loop := { pc := 0, outer := none }

theorem runFor_succ {m : Sre.M} {n : Nat} (h : m.outcome = none) : m.runFor (n + 1) = (m.step).runFor n := by
  conv => lhs; unfold Sre.M.runFor
  rw [h]; rfl

/-- one step, seen left open -/
def One (m : Sre.M) (f : Sre.Seen → Sre.M) : Prop := ∃ z, m.step = f z


theorem off_R1 : True := by w_top off; trivial


local macro_rules | `(tactic| walk_at "mine:one") => `(tactic| (apply Exists.intro; unfold Sre.M.step; simp [Sre.M.exec, Sre.M.word, qcode, Sre.ops, Sre.accepts, Sre.itemWidth, Sre.inSet, Sre.M.say, Sre.M.possessive, Sre.M.attempt, Sre.M.frame, Sre.M.keep, Sre.M.alternative, Sre.maxRepeat, Sre.M.loopAt, Sre.M.putBack, Sre.M.resume, *]; rfl))

section
variable {text : Array Nat} {ls st pos hd c : Nat} {om : Bool} {lps : Array Sre.Loop} {inn : Option Nat} {fr : List Sre.Frame} {wt : Nat} {seen : Sre.Seen}

theorem one_9y (h : ¬ text.size ≤ pos) (hc : text.getD pos 0 = 34) :
    One (St text ls st 9 pos hd om lps inn fr wt none seen none) (fun z => St text ls st 11 (pos + 1) hd om lps inn fr wt none z none) := by walk_at "mine:one"
theorem one_9n (h : ¬ text.size ≤ pos) (he : text.getD pos 0 = c) (hc : (c == 34) = false) :
    One (St text ls st 9 pos hd om lps inn fr wt none seen none) (fun z => St text ls st 9 pos hd om lps inn fr wt (some false) z none) := by walk_at "mine:one"
theorem one_9e (h : text.size ≤ pos) :
    One (St text ls st 9 pos hd om lps inn fr wt none seen none) (fun z => St text ls st 9 pos hd om lps inn fr wt (some false) z none) := by
  apply Exists.intro; unfold Sre.M.step; simp [Sre.M.exec, Sre.M.word, qcode, Sre.ops, Sre.M.say, h]; rfl
/-- the possessive repeat is entered -/
theorem one_11 (hw : ¬ 16777216 < wt + 1) :
    One (St text ls st 11 pos hd om #[] none fr wt none seen none) (fun z => St text ls st 15 pos pos false #[lp] (some 0) (fP pos 0 om :: fr) (wt + 1) none z none) := by walk_at "mine:one"
/-- the branch -/
theorem one_15 (hw : ¬ 16777216 < wt + 1) :
    One (St text ls st 15 pos hd false #[lp] (some 0) fr wt none seen none) (fun z => St text ls st 17 pos pos false #[lp] (some 0) (fB 16 pos :: fr) (wt + 1) none z none) := by walk_at "mine:one"
theorem one_17y (h : ¬ text.size ≤ pos) (he : text.getD pos 0 = c) (h1 : (c == 34) = false) (h2 : (c == 92) = false) :
    One (St text ls st 17 pos hd om lps inn fr wt none seen none) (fun z => St text ls st 25 (pos + 1) hd om lps inn fr wt none z none) := by walk_at "mine:one"
theorem one_17n (h : ¬ text.size ≤ pos) (h1 : text.getD pos 0 = 34) :
    One (St text ls st 17 pos hd om lps inn fr wt none seen none) (fun z => St text ls st 17 pos hd om lps inn fr wt (some false) z none) := by walk_at "mine:one"
theorem one_17b (h : ¬ text.size ≤ pos) (h1 : text.getD pos 0 = 92) :
    One (St text ls st 17 pos hd om lps inn fr wt none seen none) (fun z => St text ls st 17 pos hd om lps inn fr wt (some false) z none) := by walk_at "mine:one"
theorem one_17e (h : text.size ≤ pos) :
    One (St text ls st 17 pos hd om lps inn fr wt none seen none) (fun z => St text ls st 17 pos hd om lps inn fr wt (some false) z none) := by
  apply Exists.intro; unfold Sre.M.step; simp [Sre.M.exec, Sre.M.word, qcode, Sre.ops, Sre.M.say, h]; rfl
theorem one_25 : One (St text ls st 25 pos hd om lps inn fr wt none seen none) (fun z => St text ls st 34 pos hd om lps inn fr wt none z none) := by walk_at "mine:one"
theorem one_31 : One (St text ls st 31 pos hd om lps inn fr wt none seen none) (fun z => St text ls st 34 pos hd om lps inn fr wt none z none) := by walk_at "mine:one"
theorem one_34 : One (St text ls st 34 pos hd false lps inn fr wt none seen none) (fun z => St text ls st 34 pos pos false lps inn fr wt (some true) z none) := by walk_at "mine:one"
theorem one_28y (h : ¬ text.size ≤ pos) (h1 : text.getD pos 0 = 92) :
    One (St text ls st 28 pos hd om lps inn fr wt none seen none) (fun z => St text ls st 30 (pos + 1) hd om lps inn fr wt none z none) := by walk_at "mine:one"
theorem one_28n (h : ¬ text.size ≤ pos) (he : text.getD pos 0 = c) (h1 : (c == 92) = false) :
    One (St text ls st 28 pos hd om lps inn fr wt none seen none) (fun z => St text ls st 28 pos hd om lps inn fr wt (some false) z none) := by walk_at "mine:one"
theorem one_28e (h : text.size ≤ pos) :
    One (St text ls st 28 pos hd om lps inn fr wt none seen none) (fun z => St text ls st 28 pos hd om lps inn fr wt (some false) z none) := by
  apply Exists.intro; unfold Sre.M.step; simp [Sre.M.exec, Sre.M.word, qcode, Sre.ops, Sre.M.say, h]; rfl
theorem one_30y (h : ¬ text.size ≤ pos) (he : text.getD pos 0 = c) (h1 : (c != 10) = true) :
    One (St text ls st 30 pos hd om lps inn fr wt none seen none) (fun z => St text ls st 31 (pos + 1) hd om lps inn fr wt none z none) := by walk_at "mine:one"
theorem one_30n (h : ¬ text.size ≤ pos) (h1 : text.getD pos 0 = 10) :
    One (St text ls st 30 pos hd om lps inn fr wt none seen none) (fun z => St text ls st 30 pos hd om lps inn fr wt (some false) z none) := by walk_at "mine:one"
theorem one_30e (h : text.size ≤ pos) :
    One (St text ls st 30 pos hd om lps inn fr wt none seen none) (fun z => St text ls st 30 pos hd om lps inn fr wt (some false) z none) := by
  apply Exists.intro; unfold Sre.M.step; simp [Sre.M.exec, Sre.M.word, qcode, Sre.ops, Sre.M.say, h]; rfl
theorem one_35y (h : ¬ text.size ≤ pos) (h1 : text.getD pos 0 = 34) :
    One (St text ls st 35 pos hd om lps inn fr wt none seen none) (fun z => St text ls st 37 (pos + 1) hd om lps inn fr wt none z none) := by walk_at "mine:one"
theorem one_35n (h : ¬ text.size ≤ pos) (he : text.getD pos 0 = c) (h1 : (c == 34) = false) :
    One (St text ls st 35 pos hd om lps inn fr wt none seen none) (fun z => St text ls st 35 pos hd om lps inn fr wt (some false) z none) := by walk_at "mine:one"
theorem one_35e (h : text.size ≤ pos) :
    One (St text ls st 35 pos hd om lps inn fr wt none seen none) (fun z => St text ls st 35 pos hd om lps inn fr wt (some false) z none) := by
  apply Exists.intro; unfold Sre.M.step; simp [Sre.M.exec, Sre.M.word, qcode, Sre.ops, Sre.M.say, h]; rfl
theorem one_37 : One (St text ls st 37 pos hd om lps inn fr wt none seen none) (fun z => St text ls st 37 pos pos om lps inn fr wt (some true) z none) := by walk_at "mine:one"
/-- the branch's frame hears yes -/
theorem one_By {b p0 h0 : Nat} {o0 : Bool} :
    One (St text ls st p0 h0 hd o0 lps inn (fB b pos :: fr) wt (some true) seen none) (fun z => St text ls st b pos hd false lps inn fr (wt - 1) (some true) z none) := by walk_at "mine:one"
/-- the first branch hears no: the second -/
theorem one_Bn1 {p0 h0 : Nat} {o0 : Bool} (hw : ¬ 16777216 < wt - 1 + 1) :
    One (St text ls st p0 h0 hd o0 #[lp] (some 0) (fB 16 pos :: fr) wt (some false) seen none) (fun z => St text ls st 28 pos pos false #[lp] (some 0) (fB 27 pos :: fr) (wt - 1 + 1) none z none) := by walk_at "mine:one"
/-- the second branch hears no: no branch is left -/
theorem one_Bn2 {p0 h0 : Nat} {o0 : Bool} :
    One (St text ls st p0 h0 hd o0 #[lp] (some 0) (fB 27 pos :: fr) wt (some false) seen none) (fun z => St text ls st 27 pos hd false #[lp] (some 0) fr (wt - 1) (some false) z none) := by walk_at "mine:one"
/-- the repeat hears yes, and has moved -/
theorem one_Py {p0 h0 c : Nat} {o0 : Bool} (hne : pos ≠ hd) (hw : ¬ 16777216 < wt - 1 + 1) :
    One (St text ls st p0 h0 hd o0 #[lp] (some 0) (fP pos c om :: fr) wt (some true) seen none) (fun z => St text ls st 15 hd hd false #[lp] (some 0) (fP hd (c + 1) om :: fr) (wt - 1 + 1) none z none) := by walk_at "mine:one"
/-- the repeat hears no: it ends where it stood -/
theorem one_Pn {p0 h0 c : Nat} {o0 : Bool} :
    One (St text ls st p0 h0 hd o0 #[lp] (some 0) (fP pos c om :: fr) wt (some false) seen none) (fun z => St text ls st 35 pos pos om #[] none fr (wt - 1) none z none) := by walk_at "mine:one"
/-- the start's frame hears yes -/
theorem one_Ny {p0 h0 s0 : Nat} {o0 : Bool} :
    One (St text ls st p0 h0 hd o0 lps inn (fN s0 om :: fr) wt (some true) seen none) (fun z => St text ls st 9 s0 hd om lps inn fr (wt - 1) (some true) z none) := by walk_at "mine:one"
theorem one_Nn {p0 h0 s0 : Nat} {o0 : Bool} (hl : s0 < ls) (hw : ¬ 16777216 < wt - 1 + 1) :
    One (St text ls st p0 h0 hd o0 lps inn (fN s0 om :: fr) wt (some false) seen none) (fun z => St text ls (s0 + 1) 9 (s0 + 1) (s0 + 1) false lps inn (fN (s0 + 1) false :: fr) (wt - 1 + 1) none z none) := by
  apply Exists.intro
  unfold Sre.M.step
  simp [Sre.M.resume, Sre.M.attemptFrom, Sre.M.hasFirstSet, Sre.M.attemptAt, Sre.M.attempt, Sre.M.putBack, qcode, Sre.ops, hl, hw]
  rfl
theorem one_Ne {p0 h0 s0 : Nat} {o0 : Bool} (hl : ¬ s0 < ls) :
    One (St text ls st p0 h0 hd o0 lps inn (fN s0 om :: fr) wt (some false) seen none) (fun z => St text ls st 9 s0 hd om lps inn fr (wt - 1) (some false) z none) := by walk_at "mine:one"
theorem one_end {p0 h0 : Nat} {o0 b : Bool} :
    One (St text ls st p0 h0 hd o0 lps inn [] wt (some b) seen none) (fun z => St text ls st p0 h0 hd o0 lps inn [] wt (some b) z (some (if b then .matched else .failed))) := by
  exact ⟨seen, rfl⟩
end

theorem runFor_done {m : Sre.M} (h : m.outcome.isSome = true) : ∀ n, m.runFor n = m
  | 0 => rfl
  | n + 1 => by unfold Sre.M.runFor; rw [if_pos h]
theorem runFor_step (m : Sre.M) (n : Nat) : m.runFor (n + 1) = (m.step).runFor n := by
  cases h : m.outcome.isSome with
  | true =>
    have e : m.step = m := by unfold Sre.M.step; rw [if_pos h]
    rw [e, runFor_done h, runFor_done h]
  | false =>
    conv => lhs; unfold Sre.M.runFor
    rw [h]; rfl
theorem runFor_add (m : Sre.M) (a b : Nat) : m.runFor (a + b) = (m.runFor a).runFor b := by
  induction a generalizing m with
  | zero => rw [Nat.zero_add]; rfl
  | succ a ih => rw [Nat.succ_add, runFor_step, ih, ← runFor_step]

def Rn (k : Nat) (m : Sre.M) (f : Sre.Seen → Sre.M) : Prop := ∃ z, m.runFor k = f z
theorem Rn.zero (f : Sre.Seen → Sre.M) (z : Sre.Seen) : Rn 0 (f z) f := ⟨z, rfl⟩
theorem Rn.step {m : Sre.M} {f g : Sre.Seen → Sre.M} {k : Nat} (h : One m f) (r : ∀ z, Rn k (f z) g) : Rn (k + 1) m g := by
  obtain ⟨z, h⟩ := h
  obtain ⟨y, r⟩ := r z
  exact ⟨y, by rw [runFor_step, h, r]⟩
theorem Rn.trans {m : Sre.M} {f g : Sre.Seen → Sre.M} {a b : Nat} (h : Rn a m f) (r : ∀ z, Rn b (f z) g) : Rn (a + b) m g := by
  obtain ⟨z, h⟩ := h
  obtain ⟨y, r⟩ := r z
  exact ⟨y, by rw [runFor_add, h, r]⟩

section
variable (text : Array Nat) (ls s : Nat) (om : Bool)

/-- at the repeat's body: the text is read up to h -/
abbrev Bd (h c : Nat) (z : Sre.Seen) : Sre.M := St text ls s 15 h h false #[lp] (some 0) [fP h c om, fN s om] 2 none z none
/-- behind the repeat -/
abbrev Xt (h : Nat) (z : Sre.Seen) : Sre.M := St text ls s 35 h h om #[] none [fN s om] 1 none z none
/-- at a place where a match may begin -/
abbrev At (z : Sre.Seen) : Sre.M := St text ls s 9 s s om #[] none [fN s om] 1 none z none
abbrev Yes (h : Nat) (z : Sre.Seen) : Sre.M := St text ls s 9 s h om #[] none [] 0 (some true) z (some .matched)
abbrev No (h : Nat) (z : Sre.Seen) : Sre.M := St text ls s 9 s h om #[] none [] 0 (some false) z (some .failed)
end
section
variable {text : Array Nat} {ls s : Nat} {om : Bool} {h c x : Nat} {z : Sre.Seen}

theorem turn_plain (hp : ¬ text.size ≤ h) (he : text.getD h 0 = x) (h1 : (x == 34) = false) (h2 : (x == 92) = false) :
    Rn 6 (Bd text ls s om h c z) (Bd text ls s om (h + 1) (c + 1)) :=
  .step (one_15 (by decide)) fun _ =>
  .step (one_17y hp he h1 h2) fun _ =>
  .step one_25 fun _ =>
  .step one_34 fun _ =>
  .step one_By fun _ =>
  .step (one_Py (by omega) (by decide)) fun z => Rn.zero (Bd text ls s om (h + 1) (c + 1)) z

theorem turn_back (hp : ¬ text.size ≤ h) (h1 : text.getD h 0 = 92) (hp2 : ¬ text.size ≤ h + 1) (he : text.getD (h + 1) 0 = x) (h2 : (x != 10) = true) :
    Rn 9 (Bd text ls s om h c z) (Bd text ls s om (h + 2) (c + 1)) :=
  .step (one_15 (by decide)) fun _ =>
  .step (one_17b hp h1) fun _ =>
  .step (one_Bn1 (by decide)) fun _ =>
  .step (one_28y hp h1) fun _ =>
  .step (one_30y hp2 he h2) fun _ =>
  .step one_31 fun _ =>
  .step one_34 fun _ =>
  .step one_By fun _ =>
  .step (one_Py (by omega) (by decide)) fun z => Rn.zero (Bd text ls s om (h + 2) (c + 1)) z

/-- no turn more: the text is at its end -/
theorem stop_end (hp : text.size ≤ h) : Rn 6 (Bd text ls s om h c z) (Xt text ls s om h) :=
  .step (one_15 (by decide)) fun _ =>
  .step (one_17e hp) fun _ =>
  .step (one_Bn1 (by decide)) fun _ =>
  .step (one_28e hp) fun _ =>
  .step one_Bn2 fun _ =>
  .step one_Pn fun z => Rn.zero (Xt text ls s om h) z
/-- no turn more: a mark -/
theorem stop_mark (hp : ¬ text.size ≤ h) (he : text.getD h 0 = 34) : Rn 6 (Bd text ls s om h c z) (Xt text ls s om h) :=
  .step (one_15 (by decide)) fun _ =>
  .step (one_17n hp he) fun _ =>
  .step (one_Bn1 (by decide)) fun _ =>
  .step (one_28n hp he (by decide)) fun _ =>
  .step one_Bn2 fun _ =>
  .step one_Pn fun z => Rn.zero (Xt text ls s om h) z
/-- no turn more: a backslash at the text's end -/
theorem stop_back (hp : ¬ text.size ≤ h) (h1 : text.getD h 0 = 92) (hp2 : text.size ≤ h + 1) : Rn 7 (Bd text ls s om h c z) (Xt text ls s om h) :=
  .step (one_15 (by decide)) fun _ =>
  .step (one_17b hp h1) fun _ =>
  .step (one_Bn1 (by decide)) fun _ =>
  .step (one_28y hp h1) fun _ =>
  .step (one_30e hp2) fun _ =>
  .step one_Bn2 fun _ =>
  .step one_Pn fun z => Rn.zero (Xt text ls s om h) z
/-- no turn more: a backslash ahead of a line's end -/
theorem stop_line (hp : ¬ text.size ≤ h) (h1 : text.getD h 0 = 92) (hp2 : ¬ text.size ≤ h + 1) (h2 : text.getD (h + 1) 0 = 10) : Rn 7 (Bd text ls s om h c z) (Xt text ls s om h) :=
  .step (one_15 (by decide)) fun _ =>
  .step (one_17b hp h1) fun _ =>
  .step (one_Bn1 (by decide)) fun _ =>
  .step (one_28y hp h1) fun _ =>
  .step (one_30n hp2 h2) fun _ =>
  .step one_Bn2 fun _ =>
  .step one_Pn fun z => Rn.zero (Xt text ls s om h) z

/-- the closing mark stands there: a match -/
theorem exit_yes (hp : ¬ text.size ≤ h) (he : text.getD h 0 = 34) : Rn 4 (Xt text ls s om h z) (Yes text ls s om (h + 1)) :=
  .step (one_35y hp he) fun _ =>
  .step one_37 fun _ =>
  .step one_Ny fun _ =>
  .step one_end fun z => Rn.zero (Yes text ls s om (h + 1)) z
/-- it does not: the next place -/
theorem exit_no (hb : text.size ≤ h ∨ ∃ x, text.getD h 0 = x ∧ (x == 34) = false) (hl : s < ls) : Rn 2 (Xt text ls s om h z) (At text ls (s + 1) false) := by
  by_cases hp : text.size ≤ h
  · exact .step (one_35e hp) fun _ => .step (one_Nn hl (by decide)) fun z => Rn.zero (At text ls (s + 1) false) z
  · rcases hb with hb | ⟨x, he, h1⟩
    · exact absurd hb hp
    · exact .step (one_35n hp he h1) fun _ => .step (one_Nn hl (by decide)) fun z => Rn.zero (At text ls (s + 1) false) z
/-- a mark: the repeat begins -/
theorem at_mark (hp : ¬ text.size ≤ s) (he : text.getD s 0 = 34) : Rn 2 (At text ls s om z) (Bd text ls s om (s + 1) 0) :=
  .step (one_9y hp he) fun _ =>
  .step (one_11 (by decide)) fun z => Rn.zero (Bd text ls s om (s + 1) 0) z
/-- no mark: the next place -/
theorem at_other (hp : ¬ text.size ≤ s) (he : text.getD s 0 = x) (h1 : (x == 34) = false) (hl : s < ls) : Rn 2 (At text ls s om z) (At text ls (s + 1) false) :=
  .step (one_9n hp he h1) fun _ => .step (one_Nn hl (by decide)) fun z => Rn.zero (At text ls (s + 1) false) z
/-- the text's end: none -/
theorem at_end (hp : text.size ≤ s) (hl : ¬ s < ls) : Rn 3 (At text ls s om z) (No text ls s om s) :=
  .step (one_9e hp) fun _ => .step (one_Ne hl) fun _ => .step one_end fun z => Rn.zero (No text ls s om s) z
end
end Mine

-- part R2
namespace Mine
open PySem

/-- how far the signs within the marks reach -/
def body : List Nat → Nat
  | [] => 0
  | [x] => if x = 34 then 0 else if x = 92 then 0 else 1
  | x :: y :: r => if x = 34 then 0 else if x = 92 then (if y = 10 then 0 else body r + 2) else body (y :: r) + 1
/-- the first match: where, how long -/
def find : List Nat → Option (Nat × Nat)
  | [] => none
  | x :: r => if x = 34 ∧ r[body r]? = some 34 then some (0, body r + 2) else (find r).map fun p => (p.1 + 1, p.2)

theorem ne_beq {a b : Nat} (h : ¬ a = b) : (a == b) = false := by simpa using h
theorem ne_bne {a b : Nat} (h : ¬ a = b) : (a != b) = true := by simpa using h

theorem drop_at {text : Array Nat} {h : Nat} (hp : ¬ text.size ≤ h) : text.toList.drop h = text.getD h 0 :: text.toList.drop (h + 1) := by
  have hl : h < text.toList.length := by simpa using hp
  rw [List.drop_eq_getElem_cons hl]
  congr 1
  simp [Array.getD, Nat.lt_of_not_le hp]
theorem drop_end {text : Array Nat} {h : Nat} (hp : text.size ≤ h) : text.toList.drop h = [] := by
  simp [List.drop_eq_nil_iff, hp]
theorem get_at {text : Array Nat} {h : Nat} (hp : ¬ text.size ≤ h) : text.toList[h]? = some (text.getD h 0) := by
  have hl : h < text.size := by omega
  simp [Array.getD, hl]

def Rb (N : Nat) (m : Sre.M) (f : Sre.Seen → Sre.M) : Prop := ∃ k, k ≤ N ∧ Rn k m f
theorem Rn.b {k : Nat} {m : Sre.M} {f : Sre.Seen → Sre.M} (h : Rn k m f) : Rb k m f := ⟨k, Nat.le_refl _, h⟩
theorem Rb.trans {m : Sre.M} {f g : Sre.Seen → Sre.M} {a b : Nat} (h : Rb a m f) (r : ∀ z, Rb b (f z) g) : Rb (a + b) m g := by
  obtain ⟨k, hk, z, h⟩ := h
  obtain ⟨k', hk', y, r⟩ := r z
  exact ⟨k + k', by omega, y, by rw [runFor_add, h, r]⟩
theorem Rb.le {m : Sre.M} {f : Sre.Seen → Sre.M} {a b : Nat} (h : Rb a m f) (e : a ≤ b) : Rb b m f := by
  obtain ⟨k, hk, r⟩ := h
  exact ⟨k, by omega, r⟩

theorem body_run {text : Array Nat} {ls s : Nat} {om : Bool} : ∀ (n h c : Nat) (z : Sre.Seen), text.size - h ≤ n → Rb (9 * n + 7) (Bd text ls s om h c z) (Xt text ls s om (h + body (text.toList.drop h))) := by
  intro n
  induction n using Nat.strongRecOn with
  | ind n ih =>
    intro h c z hn
    by_cases hp : text.size ≤ h
    · rw [drop_end hp]
      exact (stop_end hp).b.le (by omega)
    · rw [drop_at hp]
      by_cases h34 : text.getD h 0 = 34
      · have e : body (text.getD h 0 :: text.toList.drop (h + 1)) = 0 := by
          rw [h34]; cases text.toList.drop (h + 1) <;> simp [body]
        rw [e]
        exact (stop_mark hp h34).b.le (by omega)
      · by_cases h92 : text.getD h 0 = 92
        · by_cases hp2 : text.size ≤ h + 1
          · have e : body (text.getD h 0 :: text.toList.drop (h + 1)) = 0 := by
              rw [drop_end hp2, h92]; simp [body]
            rw [e]
            exact (stop_back hp h92 hp2).b.le (by omega)
          · rw [drop_at hp2]
            by_cases h10 : text.getD (h + 1) 0 = 10
            · have e : body (text.getD h 0 :: text.getD (h + 1) 0 :: text.toList.drop (h + 1 + 1)) = 0 := by
                rw [h92, h10]; simp [body]
              rw [e]
              exact (stop_line hp h92 hp2 h10).b.le (by omega)
            · have e : h + body (text.getD h 0 :: text.getD (h + 1) 0 :: text.toList.drop (h + 1 + 1)) = h + 2 + body (text.toList.drop (h + 2)) := by
                rw [h92]; simp only [body, h10, if_false, if_true]
                have e3 : h + 1 + 1 = h + 2 := rfl
                rw [e3]; simp; omega
              rw [e]
              exact ((turn_back hp h92 hp2 rfl (ne_bne h10)).b.trans fun z => ih (n - 2) (by omega) (h + 2) (c + 1) z (by omega)).le (by omega)
        · have e : h + body (text.getD h 0 :: text.toList.drop (h + 1)) = h + 1 + body (text.toList.drop (h + 1)) := by
            cases text.toList.drop (h + 1) with
            | nil => simp only [body, if_neg h34, if_neg h92]
            | cons y r => simp only [body, if_neg h34, if_neg h92]; omega
          rw [e]
          exact ((turn_plain hp rfl (ne_beq h34) (ne_beq h92)).b.trans fun z => ih (n - 1) (by omega) (h + 1) (c + 1) z (by omega)).le (by omega)

theorem search_run {text : Array Nat} : ∀ (n s : Nat) (om : Bool) (z : Sre.Seen), text.size - s = n → s ≤ text.size →
    match find (text.toList.drop s) with
    | some (a, l) => ∃ o, Rb ((n + 1) * (9 * text.size + 20)) (At text text.size s om z) (Yes text text.size (s + a) o (s + a + l))
    | none => ∃ o h, Rb ((n + 1) * (9 * text.size + 20)) (At text text.size s om z) (No text text.size h o h) := by
  intro n
  induction n with
  | zero =>
    intro s om z hn hs
    have hp : text.size ≤ s := by omega
    rw [drop_end hp]
    exact ⟨om, s, (at_end hp (by omega)).b.le (by omega)⟩
  | succ n ih =>
    intro s om z hn hs
    have hp : ¬ text.size ≤ s := by omega
    have hb : (n + 1 + 1) * (9 * text.size + 20) = (n + 1) * (9 * text.size + 20) + (9 * text.size + 20) := by rw [Nat.succ_mul (n + 1)]
    rw [drop_at hp, hb]
    have next : (∃ k, k ≤ 9 * text.size + 20 ∧ ∀ z, Rb k (At text text.size s om z) (At text text.size (s + 1) false)) → (∀ p, find (text.getD s 0 :: text.toList.drop (s + 1)) = p → p = (find (text.toList.drop (s + 1))).map fun p => (p.1 + 1, p.2)) →
        match find (text.getD s 0 :: text.toList.drop (s + 1)) with
        | some (a, l) => ∃ o, Rb ((n + 1) * (9 * text.size + 20) + (9 * text.size + 20)) (At text text.size s om z) (Yes text text.size (s + a) o (s + a + l))
        | none => ∃ o h, Rb ((n + 1) * (9 * text.size + 20) + (9 * text.size + 20)) (At text text.size s om z) (No text text.size h o h) := by
      rintro ⟨k, hk, go⟩ e
      have e := e _ rfl
      rw [e]
      cases hf : find (text.toList.drop (s + 1)) with
      | none =>
        have i := ih (s + 1) false
        rw [hf] at i
        obtain ⟨k0, hk0, z0, r0⟩ := go z
        obtain ⟨o, h, r⟩ := i z0 (by omega) (by omega)
        exact ⟨o, h, ((Rb.trans (f := fun _ => At text text.size (s + 1) false z0) ⟨k0, hk0, z0, r0⟩ fun _ => r).le (by omega))⟩
      | some p =>
        obtain ⟨a, l⟩ := p
        have i := ih (s + 1) false
        rw [hf] at i
        obtain ⟨k0, hk0, z0, r0⟩ := go z
        obtain ⟨o, r⟩ := i z0 (by omega) (by omega)
        refine ⟨o, ?_⟩
        have e1 : s + (a + 1) = s + 1 + a := by omega
        show Rb _ _ (Yes text text.size (s + (a + 1)) o (s + (a + 1) + l))
        rw [e1]
        exact ((Rb.trans (f := fun _ => At text text.size (s + 1) false z0) ⟨k0, hk0, z0, r0⟩ fun _ => r).le (by omega))
    by_cases h34 : text.getD s 0 = 34
    · have B := fun z => body_run (ls := text.size) (s := s) (om := om) (text.size - (s + 1)) (s + 1) 0 z (Nat.le_refl _)
      have head : ∀ z, Rb (9 * text.size + 16) (At text text.size s om z) (Xt text text.size s om (s + 1 + body (text.toList.drop (s + 1)))) := fun z =>
        ((at_mark hp h34).b.trans B).le (by omega)
      generalize hbd : body (text.toList.drop (s + 1)) = b at head
      by_cases hc : (text.toList.drop (s + 1))[b]? = some 34
      · have hx : text.toList[s + 1 + b]? = some 34 := by rw [← hc, List.getElem?_drop]
        have hp' : ¬ text.size ≤ s + 1 + b := by
          intro q
          rw [List.getElem?_eq_none (by simpa using q)] at hx
          cases hx
        have hx' : text.getD (s + 1 + b) 0 = 34 := by
          rw [get_at hp'] at hx
          exact Option.some.inj hx
        have e : find (text.getD s 0 :: text.toList.drop (s + 1)) = some (0, b + 2) := by
          rw [find, hbd, if_pos ⟨h34, hc⟩]
        rw [e]
        refine ⟨om, ?_⟩
        have e2 : s + 0 + (b + 2) = s + 1 + b + 1 := by omega
        show Rb _ _ (Yes text text.size (s + 0) om (s + 0 + (b + 2)))
        rw [e2, Nat.add_zero]
        exact ((head z).trans fun z => (exit_yes hp' hx').b).le (by omega)
      · refine next ⟨9 * text.size + 18, by omega, fun z => (head z).trans fun z => (exit_no ?_ (by omega)).b⟩ fun p e => ?_
        · by_cases hq : text.size ≤ s + 1 + b
          · exact .inl hq
          · refine .inr ⟨_, rfl, ?_⟩
            have hx : text.toList[s + 1 + b]? ≠ some 34 := by rw [← List.getElem?_drop]; exact hc
            rw [get_at hq] at hx
            exact ne_beq fun q => hx (congrArg some q)
        · rw [← e, find, hbd, if_neg (fun x => hc x.2)]
    · refine next ⟨2, by omega, fun z => (at_other hp rfl (ne_beq h34) (by omega)).b⟩ fun p e => ?_
      rw [← e, find, if_neg (fun x => h34 x.1)]

theorem forSearch_eq (text : Array Nat) (s : Nat) : Sre.forSearch qcode text 0 s text.size false =
    if (decide (s > text.size) || decide (text.size - s < 2)) = true then St text 0 s 9 s s true #[] none [] 0 (some false) (({} : Sre.Seen).add 14) none
    else (St text text.size s 9 s s true #[] none [] 0 none (({} : Sre.Seen).add 14) none).attemptFrom s true := rfl
/-- the whole search -/
theorem forSearch_run {text : Array Nat} {s : Nat} (hs : s ≤ text.size) :
    match find (text.toList.drop s) with
    | some (a, l) => ∃ o, Rb ((text.size + 1) * (9 * text.size + 20)) (Sre.forSearch qcode text 0 s text.size false) (Yes text text.size (s + a) o (s + a + l))
    | none => ∃ m : Sre.M, m.outcome = some .failed ∧ Rb ((text.size + 1) * (9 * text.size + 20)) (Sre.forSearch qcode text 0 s text.size false) (fun _ => m) := by
  have hbb : (text.size - s + 1) * (9 * text.size + 20) ≤ (text.size + 1) * (9 * text.size + 20) := Nat.mul_le_mul_right _ (by omega)
  by_cases h2 : text.size - s < 2
  · have hf : find (text.toList.drop s) = none := by
      by_cases hp : text.size ≤ s
      · rw [drop_end hp]; rfl
      · rw [drop_at hp, drop_end (by omega)]
        simp [find]
    rw [hf]
    obtain ⟨z, hz⟩ : ∃ z, Sre.forSearch qcode text 0 s text.size false = St text 0 s 9 s s true #[] none [] 0 (some false) z none := by
      exact ⟨_, by rw [forSearch_eq, if_pos (by simp [h2])]⟩
    refine ⟨St text 0 s 9 s s true #[] none [] 0 (some false) z (some .failed), rfl, 1, Nat.succ_le_of_lt (Nat.mul_pos (by omega) (by omega)), z, ?_⟩
    rw [hz]; rfl
  · obtain ⟨z, hz⟩ : ∃ z, Sre.forSearch qcode text 0 s text.size false = At text text.size s true z := by
      refine ⟨({} : Sre.Seen).add 14, ?_⟩
      have h3 : ¬ text.size < s := by omega
      rw [forSearch_eq, if_neg (by simp [h2, h3])]
      rfl
    have r := search_run (text.size - s) s true z rfl hs
    rw [hz]
    cases hf : find (text.toList.drop s) with
    | none =>
      rw [hf] at r
      obtain ⟨o, h, k, hk, z, r⟩ := r
      exact ⟨_, rfl, k, by omega, z, r⟩
    | some p =>
      obtain ⟨a, l⟩ := p
      rw [hf] at r
      obtain ⟨o, r⟩ := r
      exact ⟨o, r.le hbb⟩
end Mine

-- part R3
namespace Mine
open PySem PySem.Builtin.Re

section
variable {M : Model} {A : Around} {E : Value → Shared → Prop} {s : Shared}

theorem wp_rules {α : Type} (f : α → Bool) (g : α → String) : ∀ (l : List α) {Q : PUnit → Shared → Prop} {s : Shared}, Q ⟨⟩ s →
    wpAny M A (forIn (m := Sem) l PUnit.unit fun i _ => if f i = true then (do rule (g i); pure (ForInStep.yield PUnit.unit)) else pure (ForInStep.yield PUnit.unit)) Q E s
  | [], Q, s, h => by
    simp only [List.forIn_nil]
    exact wpAny_pure h
  | a :: l, Q, s, h => by
    simp only [List.forIn_cons]
    refine wpAny_bind ?_
    cases hf : f a
    · exact wpAny_pure (wp_rules f g l h)
    · exact wpAny_bind (wpAny_rule (wpAny_pure (wp_rules f g l h)))

theorem runFor_same {m : Sre.M} {a b : Nat} (ha : (m.runFor a).outcome.isSome = true) (hb : (m.runFor b).outcome.isSome = true) : m.runFor a = m.runFor b := by
  rcases Nat.le_total a b with h | h
  · obtain ⟨c, rfl⟩ := Nat.le.dest h
    rw [runFor_add, runFor_done ha]
  · obtain ⟨c, rfl⟩ := Nat.le.dest h
    rw [runFor_add, runFor_done hb]

theorem wp_reDrive : ∀ (turns n : Nat) (m : Sre.M), n < 4 * turns → (m.runFor n).outcome.isSome = true → ∀ {Q : Sre.M → Shared → Prop}, Q (m.runFor n) s → wpAny M A (reDrive turns m) Q E s
  | 0, n, m, h, _, _, _ => absurd h (by omega)
  | turns + 1, n, m, h, ho, Q, hq => by
    unfold reDrive
    show wpAny M A (if (m.runFor 4).outcome.isSome = true then pure (m.runFor 4) else (do rule "sre.turn"; reDrive turns (m.runFor 4))) Q E s
    by_cases h4 : (m.runFor 4).outcome.isSome = true
    · rw [if_pos h4, runFor_same h4 ho]
      exact wpAny_pure hq
    · rw [if_neg h4]
      refine wpAny_bind (wpAny_rule ?_)
      have hn : 4 ≤ n := by
        rcases Nat.lt_or_ge n 4 with q | q
        · obtain ⟨c, e⟩ := Nat.le.dest (Nat.le_of_lt q)
          rw [← e, runFor_add, runFor_done ho] at h4
          exact absurd ho h4
        · exact q
      obtain ⟨c, rfl⟩ := Nat.le.dest hn
      rw [runFor_add] at ho hq
      exact wp_reDrive turns c (m.runFor 4) (by omega) ho hq

theorem wp_reRunToEnd {m m' : Sre.M} {n : Nat} {b : Bool} (hn : n < 4 * 2 ^ 64) (h : m.runFor n = m') (ho : m'.outcome = some (if b then .matched else .failed)) {Q : Option Sre.M → Shared → Prop}
    (hq : Q (if b then some m' else none) s) : wpAny M A (reRunToEnd m) Q E s := by
  unfold reRunToEnd
  refine wpAny_bind (wp_reDrive (2 ^ 64) n m hn (by rw [h, ho]; rfl) ?_)
  rw [h]
  refine wpAny_bind (wp_rules (fun i => m'.seen.has i) (fun i => Sre.names.getD i "") _ ?_)
  rw [ho]
  cases b <;> exact wpAny_pure hq

/-- the search of the pattern in a text that is short -/
theorem wp_next {t : ReTarget} {st : Nat} (hc : t.code = qcode) (hg : t.groups = 0) (hl : t.lim = t.text.size) (hs : st ≤ t.text.size) (hz : t.text.size ≤ 16777216) {Q : Option Sre.M → Shared → Prop}
    (h : match find (t.text.toList.drop st) with
      | some (a, l) => ∀ m : Sre.M, m.start = st + a → m.handed = st + a + l → Q (some m) s
      | none => Q none s) : wpAny M A (reNextFound t st false) Q E s := by
  have hn : (t.text.size + 1) * (9 * t.text.size + 20) < 4 * 2 ^ 64 := by
    have : (t.text.size + 1) * (9 * t.text.size + 20) ≤ 16777217 * 150995000 := Nat.mul_le_mul (by omega) (by omega)
    omega
  unfold reNextFound
  rw [hc, hg, hl]
  have r := forSearch_run hs
  cases hf : find (t.text.toList.drop st) with
  | none =>
    rw [hf] at r h
    obtain ⟨m, ho, k, hk, z, e⟩ := r
    exact wp_reRunToEnd (b := false) (by omega) e ho h
  | some p =>
    obtain ⟨a, l⟩ := p
    rw [hf] at r h
    obtain ⟨o, k, hk, z, e⟩ := r
    exact wp_reRunToEnd (b := true) (by omega) e rfl (h _ rfl rfl)
end
end Mine

-- part R4
namespace Mine
open PySem PySem.W PySem.Builtin.Re PyProof.Rows

/-- the pattern's object -/
structure PatAt (h : Heap) (P : Addr) : Prop where
  at_ : ∃ (C : Addr) (vs : Array Value) (o : Obj) (oc : Obj) (n : Nat), h.get? P = some o ∧ o.data = .fields vs ∧ vs.getD 5 .none = .ref C ∧ vs.getD 6 .none = .int 1 0 ∧ vs.getD 2 .none = .int 0 0 ∧
    h.get? C = some oc ∧ oc.data = .seq (qcode.map fun (x : Nat) => Value.int (x : Int) 0) n ∧ oc.cls = .type "tuple"

def tgt (P : Addr) (b : Array UInt8) (t : Tok) : ReTarget := { pattern := .ref P, string := .bytes b t, code := qcode, text := b.map (·.toNat), kind := 1, groups := 0, pos := 0, lim := b.size }

section
variable {M : Model} {A : Around} {E : Value → Shared → Prop} {s : Shared}
theorem wp_target {P : Addr} {b : Array UInt8} {t : Tok} (hP : PatAt s.heap P) {Q : ReTarget → Shared → Prop} (h : Q (tgt P b t) s) : wpAny M A (reWholeTarget (.ref P) (.bytes b t)) Q E s := by
  obtain ⟨C, vs, o, oc, n, ho, hd, h5, h6, h2, hoc, hdc, hcc⟩ := hP
  unfold reWholeTarget
  refine wpAny_bind (wpAny_fieldsOf ho hd ?_)
  have e1 : reTextOf (.bytes b t) = (do
    match ← Builtin.Bytes.bufferQuiet? "_sre" (.bytes b t) with
    | some b => pure (b.map (·.toNat), 1)
    | none => raiseError "TypeError" s!"expected string or bytes-like object, got '{← typeNameOf (.bytes b t)}'") := rfl
  rw [e1, KBy.quiet_eq]
  refine wpAny_bind (wpAny_bind (wpAny_pure (wpAny_pure ?_)))
  show wpAny M A (if (reRawNat (vs.getD 6 .none) == 0 && (1 : Nat) == 1) = true then _ else if (reRawNat (vs.getD 6 .none) == 1 && (1 : Nat) == 0) = true then _ else (do
    reNoCollectionInside (.bytes b t) 1
    let x ← reRawItems (vs.getD 5 .none)
    pure ({ pattern := .ref P, string := .bytes b t, code := x.map fun y => y.toNat, text := b.map (·.toNat), kind := 1, groups := reRawNat (vs.getD 2 .none), pos := 0, lim := (b.map (·.toNat)).size } : ReTarget))) Q E s
  rw [h6, h5, h2]
  show wpAny M A (reNoCollectionInside (.bytes b t) 1 >>= fun _ => reRawItems (.ref C) >>= fun x => pure _) Q E s
  have e2 : reNoCollectionInside (.bytes b t) 1 = (isInstance (.bytes b t) (.type "bytes") >>= fun r => if (!r) = true then noCollectionInside "_sre:a-collection-may-fall-inside-the-match-while-it-holds-a-buffer-that-can-be-written" else pure ()) := rfl
  rw [e2, KBy.isInstance_eq]
  refine wpAny_bind (wpAny_bind (wpAny_pure (wpAny_pure ?_)))
  unfold reRawItems
  refine wpAny_bind (wpAny_bind (wpAny_seqItems hoc hdc (wpAny_pure (wpAny_pure ?_))))
  have e3 : ((some (qcode.map fun (x : Nat) => Value.int (x : Int) 0)).getD #[]).map reRawOf = qcode.map fun (x : Nat) => (x : Int) := by
    show (qcode.map fun (x : Nat) => Value.int (x : Int) 0).map reRawOf = _
    rw [Array.map_map]; rfl
  rw [e3, Array.map_map]
  have e4 : qcode.map ((fun y : Int => y.toNat) ∘ fun (x : Nat) => (x : Int)) = qcode := by
    have : ((fun y : Int => y.toNat) ∘ fun (x : Nat) => (x : Int)) = id := by funext x; simp
    rw [this, Array.map_id]
  rw [e4]
  have e5 : (b.map (·.toNat)).size = b.size := Array.size_map
  rw [e5]
  exact h
end
end Mine

-- part R5
namespace Mine
open PySem PySem.W PySem.Builtin PySem.Builtin.Bytes PyProof.Rows
set_option maxRecDepth 100000

theorem slot_bytes_join : Slot "bytes" "join" "bytes.join" :=
  .of (owner := "bytes") (n := "join") (by rw [typeLookup_type, builtinLookup_eq_fast]; kernel_rfl) (by decide +kernel) (by decide +kernel) (by decide +kernel)
    (by first | exact .inl (by decide +kernel) | exact .inr (by decide +kernel)) (by rw [isSubtype_type]; kernel_rfl)
theorem entry_bytes_join : entryFor table "bytes.join" = some Builtin.«bytes.join» := entryFor_of_tree (by kernel_rfl)
theorem args_bytes_join_2 (a b : Value) : argsOk "bytes.join" ⟨[a, b], []⟩ := by
  unfold argsOk; rw [signature?_of (id := "bytes.join") (n := ['n', 'i', 'o', 'j']) (o := ['s', 'e', 't', 'y', 'b']) (by kernel_rfl) FB.owner_bytes]; kernel_rfl


theorem wp_joinItems {M : Model} {A : Around} {E : Value → Shared → Prop} {s : Shared} {D : Addr} {o : Obj} {Q : Value → Shared → Prop} (ho : s.heap.get? D = some o) (hc : o.cls = .type "list") (h : Q (.ref D) s) : wpAny M A (joinItems (.ref D)) Q E s := by
  unfold joinItems
  refine wpAny_bind (wpAny_typeOf (T := "list") ⟨o, ho, hc⟩ ?_)
  exact wpAny_pure h


theorem wp_forRange {M : Model} {A : Around} {E : Value → Shared → Prop} {s : Shared} {β : Type} {n : Nat} {f : Nat → β → Sem (ForInStep β)} {init : β} {Q : β → Shared → Prop} (I : Nat → β → Prop) (h0 : I 0 init)
    (step : ∀ i b, i < n → I i b → wpAny M A (f i b) (fun r s' => s' = s ∧ ∃ b', r = .yield b' ∧ I (i + 1) b') E s) (hQ : ∀ b, I n b → Q b s) : wpAny M A (forIn [:n] init f) Q E s := by
  rw [Std.Legacy.Range.forIn_eq_forIn_range']
  have key : ∀ (k i : Nat) (b : β), i + k = n → I i b → wpAny M A (forIn (List.range' i k) b f) Q E s := by
    intro k
    induction k with
    | zero =>
      intro i b hi hb
      rw [List.range'_zero, List.forIn_nil]
      exact wpAny_pure (hQ b (by rw [← hi]; exact hb))
    | succ k ih =>
      intro i b hi hb
      rw [List.range'_succ, List.forIn_cons]
      refine wpAny_bind (wpAny_mono (step i b (by omega) hb) (fun r s' h => ?_) fun _ _ e => e)
      obtain ⟨rfl, b', rfl, hb'⟩ := h
      exact ih (i + 1) b' (by omega) hb'
  have := key n 0 init (by omega) h0
  simpa [Std.Legacy.Range.size] using this

theorem jm_nil {X : Type} (f : Value → Sem X) (g : Array Value → Sem X) : joinM.match_1 (fun _ => Sem X) ⟨[]⟩ f g = g ⟨[]⟩ := rfl
theorem jm_one {X : Type} (x : Value) (f : Value → Sem X) (g : Array Value → Sem X) : joinM.match_1 (fun _ => Sem X) ⟨[x]⟩ f g = f x := rfl
theorem jm_two {X : Type} (x y : Value) (r : List Value) (f : Value → Sem X) (g : Array Value → Sem X) : joinM.match_1 (fun _ => Sem X) ⟨x :: y :: r⟩ f g = g ⟨x :: y :: r⟩ := rfl

/-- bytes values and what they hold -/
inductive Pcs : List Value → List (List UInt8) → Prop
  | nil : Pcs [] []
  | cons (b : Array UInt8) (t : Tok) {vs : List Value} {ps : List (List UInt8)} : Pcs vs ps → Pcs (.bytes b t :: vs) (b.toList :: ps)


theorem wp_pos {M : Model} {A : Around} {E : Value → Shared → Prop} {s : Shared} {α : Type} {c : Prop} [Decidable c] {a b : Sem α} {Q : α → Shared → Prop} (hc : c) (h : wpAny M A a Q E s) : wpAny M A (if c then a else b) Q E s := by
  rw [if_pos hc]; exact h
theorem wp_neg {M : Model} {A : Around} {E : Value → Shared → Prop} {s : Shared} {α : Type} {c : Prop} [Decidable c] {a b : Sem α} {Q : α → Shared → Prop} (hc : ¬ c) (h : wpAny M A b Q E s) : wpAny M A (if c then a else b) Q E s := by
  rw [if_neg hc]; exact h

theorem takeBuffer_eq {id : String} {b : Array UInt8} {t : Tok} : takeBufferQuiet? id (.bytes b t) 0 = pure (some (b, none)) := by
  unfold takeBufferQuiet? takeBuffer?
  rw [KBy.special_eq KBy.look_buffer, KBy.own_buffer]
  have e : ((0 : Int) == fullReadOnly) = false := rfl
  rw [e, KBy.buffer_eq]
  kernel_rfl

theorem Pcs.inv {l : List Value} {ps : List (List UInt8)} (h : Pcs l ps) : (l = [] ∧ ps = []) ∨ ∃ b t vs ps', l = .bytes b t :: vs ∧ ps = b.toList :: ps' ∧ Pcs vs ps' := by
  induction h with
  | nil => exact .inl ⟨rfl, rfl⟩
  | cons b t h _ => exact .inr ⟨b, t, _, _, rfl, rfl, h⟩
theorem Pcs.at {vs : List Value} {ps : List (List UInt8)} (h : Pcs vs ps) : ∀ i, i < vs.length → ∃ b t, vs[i]? = some (.bytes b t) ∧ ps[i]? = some b.toList := by
  induction h with
  | nil => intro i hi; exact absurd hi (Nat.not_lt_zero _)
  | cons b t _ ih =>
    intro i hi
    cases i with
    | zero => exact ⟨b, t, rfl, rfl⟩
    | succ i => exact ih i (Nat.lt_of_succ_lt_succ hi)
theorem Pcs.len {vs : List Value} {ps : List (List UInt8)} (h : Pcs vs ps) : vs.length = ps.length := by
  induction h with
  | nil => rfl
  | cons b t _ ih => rw [List.length_cons, List.length_cons, ih]


theorem joined_from : ∀ (l : List (Array UInt8)) (k : Nat) (out : Array UInt8), ((l.zipIdx k).foldl (fun out (p : Array UInt8 × Nat) => (if p.2 > 0 then out ++ (#[] : Array UInt8) else out) ++ p.1) out) = out ++ (l.map Array.toList).flatten.toArray
  | [], k, out => by simp
  | p :: r, k, out => by
    rw [List.zipIdx_cons, List.foldl_cons, joined_from r (k + 1)]
    have e : (if k > 0 then out ++ (#[] : Array UInt8) else out) = out := by split <;> simp
    dsimp only
    rw [e]
    apply Array.ext'
    simp [Array.toList_append]
theorem joined_nil (l : List (Array UInt8)) : joined #[] l = (l.map Array.toList).flatten.toArray := by
  have := joined_from l 0 #[]
  rw [Array.empty_append] at this
  exact this
theorem sizes_sum : ∀ (l : List (Array UInt8)) (k : Nat), l.foldl (fun n p => n + p.size) k = k + (l.map Array.toList).flatten.length
  | [], k => by simp
  | p :: r, k => by
    rw [List.foldl_cons, sizes_sum r]
    simp; omega

theorem wp_letGo {M : Model} {A : Around} {E : Value → Shared → Prop} {s : Shared} : ∀ (l : List Value) (keep : List Value) {Q : Unit → Shared → Prop}, Q () s → wpAny M A (joinLetGo (l.map fun v => (v, none)) keep) Q E s
  | [], keep, Q, h => wpAny_pure h
  | v :: r, keep, Q, h => by
    rw [List.map_cons]
    unfold joinLetGo
    exact wpAny_bind (wpAny_letGo (wp_letGo r keep h))

theorem wp_joinB {M : Model} {A : Around} {E : Value → Shared → Prop} {s : Shared} {D : Addr} {tj : Tok} {o : Obj} {items : List Value} {ps : List (List UInt8)} {n : Nat} {Q : Value → Shared → Prop} (ho : s.heap.get? D = some o) (hc : o.cls = .type "list") (hd : o.data = .seq ⟨items⟩ n)
    (hp : Pcs items ps) (hz : ps.flatten.length ≤ 16777216) (h : ∀ t k, Q (.bytes ps.flatten.toArray t) { s with toks := k }) : wpAny M A («bytes.join» ⟨[.bytes #[] tj, .ref D], []⟩) (fun fin s' => ∃ v, fin = .done (.ret v) ∧ Q v s') E s := by
  have rest : ∀ (parts : Array (Array UInt8)) (l : List Value), parts.toList.map Array.toList = ps → wpAny M A (do
      let sep ← payload (.bytes #[] tj)
      if tooLong (parts.foldl (fun n p => n + p.size) (sep.size * (parts.size - 1))) = true then unsupported s!"{s!"{Kind.bytes.name}.join"}:memory"
      else do
        let result ← Kind.bytes.new (joined sep parts.toList)
        holding (result :: (l.map fun v => (v, (none : Option Value))).flatMap fun (y, u) => y :: u.toList) point
        joinLetGo (l.map fun v => (v, none)) [result]
        ret result) (fun fin s' => ∃ v, fin = .done (.ret v) ∧ Q v s') E s := by
    intro parts l e
    refine wpAny_bind (wpAny_of_eq (a := #[]) rfl ?_)
    refine wp_neg ?_ ?_
    · have e1 : parts.foldl (fun n p => n + p.size) ((#[] : Array UInt8).size * (parts.size - 1)) = ps.flatten.length := by
        rw [← Array.foldl_toList, sizes_sum, e]; simp
      rw [e1, KBy.tooLong_not hz]
      exact Bool.false_ne_true
    · rw [joined_nil, e]
      refine wpAny_bind (wpAny_mkBytes ?_ (by rw [sizeLine_eq]; simpa using hz))
      refine wpAny_bind (wpAny_holding (wpAny_point ?_))
      exact wpAny_bind (wp_letGo _ _ (wpAny_pure ⟨_, rfl, h _ _⟩))
  show wpAny M A (joinM .bytes _) _ E s
  unfold joinM
  refine wpAny_bind (wpAny_of_eq (a := (Value.bytes #[] tj, Value.ref D)) rfl ?_)
  refine wpAny_bind (m := joinItems (.ref D)) (wp_joinItems ho hc ?_)
  refine wpAny_bind (wpAny_seqItems ho hd ?_)
  refine wp_pos (show (Kind.bytes == Kind.bytes) = true from rfl) ?_
  match items, hd, hp with
  | [], hd, hp =>
    rw [jm_nil]
    refine wpAny_bind (wp_forRange (fun i b => b = (#[], [])) rfl (fun i b hi => absurd hi (Nat.not_lt_zero _)) ?_)
    rintro b rfl
    rcases hp.inv with ⟨_, rfl⟩ | ⟨b, t, vs, ps', e, _, _⟩
    · exact rest #[] [] rfl
    · cases e
  | [x], hd, hp =>
    rw [jm_one]
    obtain ⟨b, t, rfl, rfl⟩ : ∃ b t, x = .bytes b t ∧ ps = [b.toList] := by
      rcases hp.inv with ⟨q, _⟩ | ⟨b, t, vs, ps', e, rfl, hp'⟩
      · cases q
      · cases e
        rcases hp'.inv with ⟨_, rfl⟩ | ⟨b, t, vs, ps', e, _, _⟩
        · exact ⟨b, t, rfl, rfl⟩
        · cases e
    · refine wpAny_bind (wpAny_typeOf (typeIs_bytes s b t) ?_)
      refine wp_pos rfl ?_
      refine wpAny_bind (wpAny_rule (wpAny_pure ⟨_, rfl, ?_⟩))
      have := h t s.toks
      simpa using this
  | x :: y :: r, hd, hp =>
    rw [jm_two]
    refine wpAny_bind (wp_forRange (fun i b => b.1.toList.map Array.toList = ps.take i ∧ b.2 = ((x :: y :: r).take i).map fun v => (v, none)) ?_ ?_ ?_)
    · exact ⟨rfl, rfl⟩
    · intro i b hi hb
      obtain ⟨p, t, e1, e2⟩ := hp.at i (by simpa using hi)
      obtain ⟨parts, taken⟩ := b
      obtain ⟨hb1, hb2⟩ := hb
      dsimp only at hb1 hb2
      have ev : (⟨x :: y :: r⟩ : Array Value).getD i .none = .bytes p t := by
        have hl : i < (⟨x :: y :: r⟩ : Array Value).size := hi
        rw [Array.getD, dif_pos hl]
        rw [List.getElem?_eq_getElem (by simpa using hi)] at e1
        exact Option.some.inj e1
      refine wpAny_bind (wpAny_seqItems ho hd ?_)
      dsimp only
      rw [ev]
      have hno : (Kind.bytes == Kind.bytearray || taken.any fun x => x.fst.onHeap) = false := by
        rw [hb2]
        have : ∀ l : List Value, (∀ v ∈ l, v.onHeap = false) → (l.map fun v => (v, (none : Option Value))).any (fun x => x.fst.onHeap) = false := by
          intro l hl
          rw [List.any_map, List.any_eq_false]
          intro v hv
          show ¬ v.onHeap = true
          rw [hl v hv]; exact Bool.false_ne_true
        rw [this]
        · rfl
        · intro v hv
          obtain ⟨j, hj, rfl⟩ := List.getElem_of_mem (List.mem_of_mem_take hv)
          obtain ⟨p', t', e', _⟩ := hp.at j hj
          rw [List.getElem?_eq_getElem hj] at e'
          rw [Option.some.inj e']; rfl
      refine wp_neg (by rw [hno]; exact Bool.false_ne_true) ?_
      rw [takeBuffer_eq]
      refine wpAny_bind (wpAny_holding (wpAny_pure ?_))
      refine wpAny_bind (wpAny_seqItems ho hd ?_)
      refine wp_neg (by simp) ?_
      refine wpAny_pure ⟨rfl, _, rfl, ?_, ?_⟩
      · rw [Array.toList_push, List.map_append, hb1, List.take_add_one, e2]; rfl
      · rw [hb2, List.take_add_one, e1, List.map_append]; rfl
    · rintro ⟨parts, taken⟩ ⟨hb1, hb2⟩
      dsimp only at hb1 hb2 ⊢
      have e3 : (x :: y :: r).take (⟨x :: y :: r⟩ : Array Value).size = x :: y :: r := List.take_length
      rw [e3] at hb2
      rw [hb2]
      refine rest parts (x :: y :: r) (hb1.trans ?_)
      have : (⟨x :: y :: r⟩ : Array Value).size = ps.length := hp.len
      rw [this, List.take_length]

theorem call_join {prog : Program} {w : World} {A : Around} {E : Value → Shared → Prop} {s : Shared} {D : Addr} {tj : Tok} {o : Obj} {items : List Value} {ps : List (List UInt8)} {n : Nat} {Q : Value → Shared → Prop} (ho : s.heap.get? D = some o) (hc : o.cls = .type "list") (hd : o.data = .seq ⟨items⟩ n)
    (hp : Pcs items ps) (hz : ps.flatten.length ≤ 16777216) (h : ∀ t k, Q (.bytes ps.flatten.toArray t) { s with toks := k }) : wpAny (model prog w) A (call (.builtin "bytes.join") [.bytes #[] tj, .ref D]) Q E s := by
  refine wpAny_call (codeAny_call_builtin slot_bytes_join.plain entry_bytes_join (slot_bytes_join.check _ _ _ _ _ _ _ _ (typeIs_bytes s #[] tj) (args_bytes_join_2 _ _) ?_))
  refine wpAny_mono (wp_joinB ho hc hd hp hz (Q := Q) h) (fun fin s' h' => ?_) fun _ _ e => e
  obtain ⟨v, rfl, hv⟩ := h'
  exact hv
end Mine

-- part R6
namespace Mine
open PySem PySem.W PySem.Builtin PySem.Builtin.Re PyProof.Rows
set_option maxRecDepth 100000

/-- what is left of a text when the matches are struck out -/
inductive Strips : List Nat → List Nat → Prop
  | stop {l : List Nat} : find l = none → Strips l l
  | go {l r : List Nat} {a n : Nat} : find l = some (a, n) → Strips (l.drop (a + n)) r → Strips l (l.take a ++ r)

theorem body_le : ∀ l : List Nat, body l ≤ l.length
  | [] => Nat.le_refl _
  | [x] => by simp only [body]; split <;> (try split) <;> simp
  | x :: y :: r => by
    have h1 := body_le r
    have h2 := body_le (y :: r)
    simp only [body, List.length_cons] at *
    split <;> (try split) <;> (try split) <;> omega
theorem find_bound : ∀ {l : List Nat} {a n : Nat}, find l = some (a, n) → 2 ≤ n ∧ a + n ≤ l.length
  | [], _, _, h => by cases h
  | x :: r, a, n, h => by
    rw [find] at h
    split at h
    · rename_i q
      obtain ⟨_, q⟩ := q
      have hb : body r < r.length := by
        rcases Nat.lt_or_ge (body r) r.length with z | z
        · exact z
        · rw [List.getElem?_eq_none z] at q; cases q
      cases h
      simp only [List.length_cons]; omega
    · obtain ⟨p, hp, e⟩ := Option.map_eq_some_iff.mp h
      obtain ⟨a', n'⟩ := p
      cases e
      have := find_bound hp
      simp only [List.length_cons]; omega

theorem entry_loop : entryFor table "re.Pattern.sub.loop" = some Builtin.«re.Pattern.sub.loop» := entryFor_of_tree (by kernel_rfl)
theorem plain_loop : plainId "re.Pattern.sub.loop" = true := by decide +kernel

theorem slice_eq {M : Model} {A : Around} {E : Value → Shared → Prop} {s : Shared} {b : Array UInt8} {i j : Nat} {Q : Value → Shared → Prop} (hz : b.size ≤ 16777216) (h : Q (.bytes (b.extract i j) s.toks) { s with toks := s.toks + 1 }) :
    wpAny M A (reSlice (b.map (·.toNat)) 1 i j) Q E s := by
  have e : ((b.map (·.toNat)).extract i j).map (·.toUInt8) = b.extract i j := by
    rw [← Array.map_extract, Array.map_map]
    have : ((fun x : Nat => x.toUInt8) ∘ fun x : UInt8 => x.toNat) = _root_.id := by funext x; simp
    rw [this, Array.map_id]
  show wpAny M A (mkBytes (((b.map (·.toNat)).extract i j).map (·.toUInt8))) Q E s
  rw [e]
  refine wpAny_mkBytes h ?_
  rw [sizeLine_eq, Array.size_extract]; omega

theorem PatAt.keeps {h h' : Heap} {P : Addr} (x : PatAt h P) (k : ∀ a o, h.get? a = some o → h'.get? a = some o) : PatAt h' P := by
  obtain ⟨C, vs, o, oc, n, ho, hd, h5, h6, h2, hoc, r⟩ := x
  exact ⟨C, vs, o, oc, n, k _ _ ho, hd, h5, h6, h2, k _ _ hoc, r⟩


theorem push_D {M : Model} {A : Around} {E : Value → Shared → Prop} {s : Shared} {hb : Heap} {D : Addr} {items : List Value} {ep : Nat} {v : Value} {Q : Unit → Shared → Prop} (hDb : hb.get? D = none)
    (hk : ∀ a o, hb.get? a = some o → s.heap.get? a = some o) (hD : s.heap.get? D = some ⟨.type "list", none, .seq ⟨items⟩ ep, #[]⟩) (hi : items.length ≤ 16777216)
    (h : ∀ h' ep', (∀ a o, hb.get? a = some o → h'.get? a = some o) → h'.get? D = some ⟨.type "list", none, .seq ⟨items ++ [v]⟩ ep', #[]⟩ → Q () { s with heap := h' }) : wpAny M A (updateSeq D fun x => x.push v) Q E s := by
  refine wpAny_updateSeq hD rfl (h _ (ep + 1) (fun a o e => ?_) ?_) (by rw [sizeLine_eq]; exact hi) (by rw [sizeLine_eq, Array.size_push]; exact Nat.succ_le_succ hi)
  · refine (Heap.get?_update_ne _ _ _ _ fun q => ?_).trans (hk a o e)
    rw [q, hDb] at e; cases e
  · refine (Heap.get?_update_self _ hD rfl).trans ?_
    simp [Obj.mapSeq]

theorem lit_eq {tr : Tok} : reLiteralCannotBeTurned (.bytes #[] tr) = pure () := by
  have e : reLiteralCannotBeTurned (.bytes #[] tr) = (isInstance (.bytes #[] tr) (.type "bytes") >>= fun r => if (!r) = true then noCollectionInside "_sre:a-collection-may-fall-inside-the-match-while-a-literal-replacement-can-be-written" else pure ()) := rfl
  rw [e, KBy.isInstance_eq]; rfl

theorem drop_map {b : Array UInt8} {st : Nat} : (b.map (·.toNat)).toList.drop st = (b.toList.drop st).map (·.toNat) := by
  rw [Array.toList_map, List.map_drop]
theorem back_map (l : List UInt8) : (l.map (·.toNat)).map (·.toUInt8) = l := by
  rw [List.map_map]
  have : ((fun x : Nat => x.toUInt8) ∘ fun x : UInt8 => x.toNat) = _root_.id := by funext x; simp
  rw [this, List.map_id]
theorem snoc {vs : List Value} {ps : List (List UInt8)} (b : Array UInt8) (t : Tok) (h : Pcs vs ps) : Pcs (vs ++ [.bytes b t]) (ps ++ [b.toList]) := by
  induction h with
  | nil => exact .cons b t .nil
  | cons b' t' _ ih => exact .cons b' t' ih
theorem extract_list (b : Array UInt8) (i j : Nat) : (b.extract i j).toList = (b.toList.take j).drop i := by
  rw [Array.toList_extract]; simp [List.extract, List.drop_take]

section
variable {prog : Program} {w : World} {A : Around} {R : Result → Shared → Prop}

theorem sub_loop {hb : Heap} {P D : Addr} {b : Array UInt8} {t tr : Tok} (hP : PatAt hb P) (hDb : hb.get? D = none) (hz : b.size ≤ 16777216) :
    ∀ (l r : List Nat), Strips l r → ∀ (st : Nat) (n : Int) (items : List Value) (ps : List (List UInt8)) (ep : Nat) (s : Shared), st ≤ b.size → (b.toList.drop st).map (·.toNat) = l →
      (∀ a o, hb.get? a = some o → s.heap.get? a = some o) → s.heap.get? D = some ⟨.type "list", none, .seq ⟨items⟩ ep, #[]⟩ → Pcs items ps → items.length ≤ st → ps.flatten.length ≤ st →
      (∀ t' k h', (∀ a o, hb.get? a = some o → h'.get? a = some o) → R (.ok (.ret (.bytes (ps.flatten ++ r.map (·.toUInt8)).toArray t'))) { s with heap := h', toks := k }) →
      codeAny (model prog w) A (.builtin "re.Pattern.sub.loop" ⟨[.ref P, .bytes b t, .bytes #[] tr, rawInt 0, rawInt 0, rawInt n, rawInt st, rawInt st, .bool false, .ref D, .bool false], []⟩) R s := by
  intro l r hS
  induction hS with
  | stop hf =>
    rename_i l
    intro st n items ps ep s hst hl hk hD hp hi hps hR
    refine codeAny_builtin entry_loop ?_
    rw [Around.under_plainId plain_loop]
    unfold Builtin.«re.Pattern.sub.loop»
    dsimp only [rawInt]
    refine wpAny_bind (wp_target (hP.keeps hk) ?_)
    refine wp_pos rfl ?_
    rw [lit_eq]
    refine wpAny_bind (wpAny_pure ?_)
    refine wpAny_bind (wp_neg (by simp) ?_)
    refine wp_next (t := tgt P b t) rfl rfl (by simp [tgt]) (by simpa [tgt] using hst) (by simpa [tgt] using hz) ?_
    have hf' : find ((tgt P b t).text.toList.drop (Int.toNat st)) = none := by
      show find ((b.map (·.toNat)).toList.drop st) = none
      rw [drop_map, hl]; exact hf
    rw [hf']
    dsimp only
    have tail : ∀ (items : List Value) (ps : List (List UInt8)) (s' : Shared) (ep : Nat), s'.gens = s.gens → s'.drawn = s.drawn → s'.os = s.os → (∀ a o, hb.get? a = some o → s'.heap.get? a = some o) → s'.heap.get? D = some ⟨.type "list", none, .seq ⟨items⟩ ep, #[]⟩ → Pcs items ps → ps.flatten.length ≤ 16777216 →
        (∀ t' k h', (∀ a o, hb.get? a = some o → h'.get? a = some o) → R (.ok (.ret (.bytes ps.flatten.toArray t'))) { s with heap := h', toks := k }) →
        wpAny (model prog w) A.in1 (do
          let joiner ← reSlice (tgt P b t).text (tgt P b t).kind 0 0
          let x ← seqItems? (.ref D)
          if (x.getD #[]).isEmpty = true then (do
            let text ← pure joiner
            ret text)
          else (do
            let text ← call (.builtin (if ((tgt P b t).kind == 0) = true then "str.join" else "bytes.join")) [joiner, .ref D]
            ret text)) (fun fin s' => match fin with | .done f => R (.ok f) s' | .again c' => c'.quiet = true ∧ codeAny (model prog w) A c' R s') (fun e s' => R (.error e) s') s' := by
      intro items ps s' ep e1 e2 e3 hk hD hp hz' hR
      obtain ⟨h0, g0, d0, t0, o0⟩ := s'
      dsimp only at e1 e2 e3 hk hD
      subst e1 e2 e3
      refine wpAny_bind (slice_eq hz ?_)
      have e0 : b.extract 0 0 = #[] := by simp
      rw [e0]
      refine wpAny_bind (wpAny_seqItems hD rfl ?_)
      rcases hp.inv with ⟨rfl, rfl⟩ | ⟨b', tb, vs, ps', rfl, rfl, hp'⟩
      · refine wp_pos rfl ?_
        exact wpAny_bind (wpAny_pure (wpAny_pure (hR _ _ _ hk)))
      · refine wp_neg (by simp) ?_
        refine wpAny_bind (call_join (tj := t0) hD rfl rfl hp hz' fun t' k => ?_)
        exact wpAny_pure (hR _ _ _ hk)
    by_cases hlt : st < b.size
    · refine wp_pos (by simpa [tgt] using hlt) ?_
      refine wpAny_bind (slice_eq hz ?_)
      refine wpAny_bind (push_D hDb hk hD (by omega) fun h' ep' hk' hD' => ?_)
      have e9 : (b.extract (Int.toNat st) (tgt P b t).lim).toList = b.toList.drop st := by
        show (b.extract st b.size).toList = _
        rw [extract_list, List.take_of_length_le (by simp)]
      refine tail _ _ _ ep' rfl rfl rfl hk' hD' (snoc _ _ hp) ?_ ?_
      · rw [List.flatten_append, List.length_append, List.flatten_cons, List.flatten_nil, List.append_nil, e9, List.length_drop]; have : b.toList.length = b.size := Array.length_toList; omega
      · intro t' k h'' hk''
        have := hR t' k h'' hk''
        rw [List.flatten_append, e9]
        rw [← hl, back_map] at this
        simpa using this
    · refine wp_neg (by simpa [tgt] using hlt) ?_
      refine tail _ _ _ ep rfl rfl rfl hk hD hp (by omega) ?_
      intro t' k h'' hk''
      have := hR t' k h'' hk''
      have e8 : b.toList.drop st = [] := by simp; omega
      rw [← hl, back_map, e8, List.append_nil] at this
      exact this
  | go hf hS ih =>
    rename_i l r a len
    intro st n items ps ep s hst hl hk hD hp hi hps hR
    have hbd := find_bound hf
    have hlen : l.length = b.size - st := by rw [← hl]; simp
    refine codeAny_builtin entry_loop ?_
    rw [Around.under_plainId plain_loop]
    unfold Builtin.«re.Pattern.sub.loop»
    dsimp only [rawInt]
    refine wpAny_bind (wp_target (hP.keeps hk) ?_)
    refine wp_pos rfl ?_
    rw [lit_eq]
    refine wpAny_bind (wpAny_pure ?_)
    refine wpAny_bind (wp_neg (by simp) ?_)
    refine wp_next (t := tgt P b t) rfl rfl (by simp [tgt]) (by simpa [tgt] using hst) (by simpa [tgt] using hz) ?_
    have hf' : find ((tgt P b t).text.toList.drop (Int.toNat st)) = some (a, len) := by
      show find ((b.map (·.toNat)).toList.drop st) = some (a, len)
      rw [drop_map, hl]; exact hf
    rw [hf']
    dsimp only
    intro m hm1 hm2
    have em1 : m.start = st + a := hm1
    have em2 : m.handed = st + a + len := hm2
    have next : ∀ (items : List Value) (ps : List (List UInt8)) (s' : Shared) (ep : Nat), s'.gens = s.gens → s'.drawn = s.drawn → s'.os = s.os → (∀ a o, hb.get? a = some o → s'.heap.get? a = some o) → s'.heap.get? D = some ⟨.type "list", none, .seq ⟨items⟩ ep, #[]⟩ → Pcs items ps → items.length ≤ st + 1 → ps.flatten.length ≤ st + a →
        (∀ t' k h', (∀ a o, hb.get? a = some o → h'.get? a = some o) → R (.ok (.ret (.bytes (ps.flatten ++ r.map (·.toUInt8)).toArray t'))) { s with heap := h', toks := k }) →
        wpAny (model prog w) A.in1 (do
          let item ← pure (Value.bytes #[] tr)
          if (item != Value.none) = true then (do
            updateSeq D fun x => x.push item
            again (Code.builtin "re.Pattern.sub.loop" { pos := [Value.ref P, Value.bytes b t, Value.bytes #[] tr, Value.int 0 0, Value.int 0 0, Value.int (n + 1) 0, Value.int (↑m.handed) 0, Value.int (↑m.handed) 0, Value.bool (m.handed == m.start), Value.ref D, Value.bool false] }))
          else again (Code.builtin "re.Pattern.sub.loop" { pos := [Value.ref P, Value.bytes b t, Value.bytes #[] tr, Value.int 0 0, Value.int 0 0, Value.int (n + 1) 0, Value.int (↑m.handed) 0, Value.int (↑m.handed) 0, Value.bool (m.handed == m.start), Value.ref D, Value.bool false] }))
          (fun fin s' => match fin with | .done f => R (.ok f) s' | .again c' => c'.quiet = true ∧ codeAny (model prog w) A c' R s') (fun e s' => R (.error e) s') s' := by
      intro items ps s' ep e1 e2 e3 hk hD hp hi hps hR
      obtain ⟨h0, g0, d0, t0, o0⟩ := s'
      dsimp only at e1 e2 e3 hk hD
      subst e1 e2 e3
      refine wpAny_bind (wpAny_pure ?_)
      refine wp_pos rfl ?_
      refine wpAny_bind (push_D hDb hk hD (by omega) fun h' ep' hk' hD' => ?_)
      refine wpAny_pure ⟨plainId_quiet plain_loop _, ?_⟩
      have em3 : (m.handed == m.start) = false := by
        rw [em1, em2]; simp; omega
      rw [em3, em2]
      refine ih (st + a + len) (n + 1) _ _ ep' _ (by omega) ?_ hk' hD' (snoc #[] tr hp) ?_ ?_ ?_
      · rw [← hl, ← List.map_drop, List.drop_drop]
        congr 2; omega
      · rw [List.length_append, List.length_singleton]; omega
      · rw [List.flatten_append, List.length_append]
        have : ([Array.toList (#[] : Array UInt8)].flatten).length = 0 := rfl
        omega
      · intro t' k h'' hk''
        rw [List.flatten_append]
        simpa using hR t' k h'' hk''
    have e7 : (b.extract (Int.toNat st) m.start).toList = (b.toList.drop st).take a := by
      show (b.extract st m.start).toList = _
      rw [extract_list, em1, List.drop_take]; congr 1; omega
    have e6 : (l.take a).map (·.toUInt8) = (b.toList.drop st).take a := by
      rw [← hl, ← List.map_take, back_map]
    by_cases hlt : st < m.start
    · refine wp_pos (by simpa using hlt) ?_
      refine wpAny_bind (slice_eq hz ?_)
      refine wpAny_bind (push_D hDb hk hD (by omega) fun h' ep' hk' hD' => ?_)
      refine wp_pos rfl ?_
      refine next _ _ _ ep' rfl rfl rfl hk' hD' (snoc _ _ hp) ?_ ?_ ?_
      · rw [List.length_append]; simp; omega
      · rw [List.flatten_append, List.length_append]
        simp only [List.flatten_cons, List.flatten_nil, List.append_nil, e7, List.length_take, List.length_drop]
        omega
      · intro t' k h'' hk''
        have := hR t' k h'' hk''
        rw [List.map_append, e6, ← e7] at this
        rw [List.flatten_append]
        simpa using this
    · refine wp_neg (by simpa using hlt) ?_
      refine wp_pos rfl ?_
      refine next _ _ _ ep rfl rfl rfl hk hD hp (by omega) (by omega) ?_
      intro t' k h'' hk''
      have := hR t' k h'' hk''
      have ea : a = 0 := by omega
      rw [ea] at this
      simpa using this
end
end Mine

-- part R7
namespace Mine
open PySem PySem.W PySem.Builtin PySem.Builtin.Re PyProof.Rows
set_option maxRecDepth 100000

theorem owner_pat : Manifest.owners.lookup (String.ofList ['n', 'r', 'e', 't', 't', 'a', 'P', '.', 'e', 'r'].reverse) = some Manifest.sig_re_Pattern := by kernel_rfl
theorem slot_sub : Slot "re.Pattern" "sub" "re.Pattern.sub" :=
  .of (owner := "re.Pattern") (n := "sub") (by rw [typeLookup_type, builtinLookup_eq_fast]; kernel_rfl) (by decide +kernel) (by decide +kernel) (by decide +kernel)
    (by first | exact .inl (by decide +kernel) | exact .inr (by decide +kernel)) (by rw [isSubtype_type]; kernel_rfl)
theorem entry_sub : entryFor table "re.Pattern.sub" = some Builtin.«re.Pattern.sub» := entryFor_of_tree (by kernel_rfl)
theorem args_sub (a b c : Value) : argsOk "re.Pattern.sub" ⟨[a, b, c], []⟩ := by
  unfold argsOk; rw [signature?_of (id := "re.Pattern.sub") (n := ['b', 'u', 's']) (o := ['n', 'r', 'e', 't', 't', 'a', 'P', '.', 'e', 'r']) (by kernel_rfl) owner_pat]; kernel_rfl
theorem look_call : typeLookup (.type "bytes") "__call__" = pure none := by rw [typeLookup_type, builtinLookup_eq_fast]; kernel_rfl

theorem fresh_none (h : Heap) : h.get? h.objs.size = none := by
  cases e : h.get? h.objs.size with
  | none => rfl
  | some o => exact absurd (Heap.lt_size e) (Nat.lt_irrefl _)

theorem call_sub {prog : Program} {w : World} {A : Around} {E : Value → Shared → Prop} {s : Shared} {P : Addr} {b : Array UInt8} {t tr : Tok} {r : List Nat} {Q : Value → Shared → Prop} (hT : s.TypeIs (.ref P) "re.Pattern") (hP : PatAt s.heap P) (hz : b.size ≤ 16777216)
    (hS : Strips (b.toList.map (·.toNat)) r) (h : ∀ t' k h', (∀ a o, s.heap.get? a = some o → h'.get? a = some o) → Q (.bytes (r.map (·.toUInt8)).toArray t') { s with heap := h', toks := k }) :
    wpAny (model prog w) A (call (.builtin "re.Pattern.sub") [.ref P, .bytes #[] tr, .bytes b t]) Q E s := by
  refine wpAny_call (codeAny_call_builtin slot_sub.plain entry_sub (slot_sub.check _ _ _ _ _ _ _ _ hT (args_sub _ _ _) ?_))
  show wpAny _ _ (reSubstitute "re.Pattern.sub" "sub" false _) _ _ _
  unfold reSubstitute
  dsimp only
  refine wpAny_bind (wpAny_of_eq (a := [some (.bytes #[] tr), some (.bytes b t), none]) rfl ?_)
  dsimp only
  refine wpAny_bind (wpAny_pure ?_)
  rw [KBy.special_eq look_call]
  refine wpAny_bind (wpAny_pure ?_)
  refine wp_neg (by exact Bool.false_ne_true) ?_
  refine wpAny_bind (wpAny_of_eq (a := none) rfl ?_)
  dsimp only
  rw [KBy.quiet_eq]
  refine wpAny_bind (wpAny_pure ?_)
  dsimp only
  refine wpAny_bind (wpAny_pure ?_)
  refine wp_neg (by exact Bool.false_ne_true) ?_
  refine wp_pos (by simp) ?_
  refine wpAny_bind (wpAny_pure ?_)
  refine wpAny_bind (wpAny_holding (wp_target hP ?_))
  refine wp_neg (by exact Bool.false_ne_true) ?_
  refine wpAny_bind (wpAny_newList ?_)
  refine wpAny_pure ⟨plainId_quiet plain_loop _, ?_⟩
  have keep : ∀ a o, s.heap.get? a = some o → (s.heap.push { cls := .type "list", data := .seq ([] : List Value).toArray }).get? a = some o := fun a o e => Heap.get?_push_of_some _ e
  refine sub_loop (hb := s.heap) (D := s.heap.objs.size) (t := t) (tr := tr) hP (fresh_none _) hz _ r hS 0 0 [] [] 0 _ (Nat.zero_le _) rfl keep (Heap.get?_push_size _ rfl) .nil (Nat.le_refl _) (Nat.le_refl _) ?_
  intro t' k h' hk
  exact h t' k h' hk
end Mine

-- part R8
namespace Mine
open PySem PySem.W PySem.Builtin PySem.Builtin.Bytes PyProof.Rows
set_option maxRecDepth 100000

theorem slot_count : Slot "bytes" "count" "bytes.count" :=
  .of (owner := "bytes") (n := "count") (by rw [typeLookup_type, builtinLookup_eq_fast]; kernel_rfl) (by decide +kernel) (by decide +kernel) (by decide +kernel)
    (by first | exact .inl (by decide +kernel) | exact .inr (by decide +kernel)) (by rw [isSubtype_type]; kernel_rfl)
theorem entry_count : entryFor table "bytes.count" = some Builtin.«bytes.count» := entryFor_of_tree (by kernel_rfl)
theorem args_count (a b : Value) : argsOk "bytes.count" ⟨[a, b], []⟩ := by
  unfold argsOk; rw [signature?_of (id := "bytes.count") (n := ['t', 'n', 'u', 'o', 'c']) (o := ['s', 'e', 't', 'y', 'b']) (by kernel_rfl) FB.owner_bytes]; kernel_rfl

theorem occ_fold (b : Array UInt8) (c : UInt8) : ∀ (k i : Nat) (acc : List Nat) (l : Nat), i + k = b.size → l ≤ i →
    ((List.range' i k).foldl (fun (acc : List Nat × Nat) (i : Nat) => if (decide (i ≥ acc.2) && b.extract i (i + 1) == #[c]) = true then (i :: acc.1, i + 1) else acc) (acc, l)).1.length = acc.length + (b.toList.drop i).count c
  | 0, i, acc, l, hk, hl => by
    have : b.toList.drop i = [] := by simp; omega
    rw [this]; simp
  | k + 1, i, acc, l, hk, hl => by
    have hi : i < b.toList.length := by simp; omega
    have hi' : i < b.size := by omega
    have he : (b.extract i (i + 1) == #[c]) = (b.toList[i] == c) := by
      have : b.extract i (i + 1) = #[b.toList[i]] := by
        apply Array.ext'
        rw [extract_list]
        have : b.toList.take (i + 1) = b.toList.take i ++ [b.toList[i]] := by rw [List.take_add_one, List.getElem?_eq_getElem hi]; rfl
        rw [this, List.drop_append_of_le_length (by simp; omega)]
        simp
      rw [this]
      simp
    rw [List.range'_succ, List.foldl_cons]
    have hd : b.toList.drop i = b.toList[i] :: b.toList.drop (i + 1) := List.drop_eq_getElem_cons hi
    have hg : decide (i ≥ (acc, l).2) = true := by simpa using hl
    rw [hg, he, hd, List.count_cons]
    cases hc : (b.toList[i] == c)
    · rw [if_neg (by simp)]
      rw [occ_fold b c k (i + 1) acc l (by omega) (by omega)]
      simp
    · rw [if_pos (show (true && true) = true from rfl)]
      rw [occ_fold b c k (i + 1) (i :: acc) (i + 1) (by omega) (Nat.le_refl _)]
      simp; omega

theorem occ_count (b : Array UInt8) (c : UInt8) : (occurrences b #[c] 0 b.size).length = b.toList.count c := by
  unfold occurrences
  have e : (List.range (b.size + 1 - (0 + (#[c] : Array UInt8).size))).map (· + 0) = List.range' 0 b.size := by
    simp [List.range_eq_range']
  rw [List.length_reverse, e]
  have := occ_fold b c b.size 0 [] 0 (by omega) (Nat.le_refl _)
  simpa using this

theorem call_count {prog : Program} {w : World} {A : Around} {E : Value → Shared → Prop} {s : Shared} {b : Array UInt8} {c : UInt8} {t u : Tok} {Q : Value → Shared → Prop}
    (h : ∀ t' k, Q (.int (b.toList.count c) t') { s with toks := k }) : wpAny (model prog w) A (call (.builtin "bytes.count") [.bytes b t, .bytes #[c] u]) Q E s := by
  refine wpAny_call (codeAny_call_builtin slot_count.plain entry_count (slot_count.check _ _ _ _ _ _ _ _ (typeIs_bytes s b t) (args_count _ _) ?_))
  show wpAny _ _ (countM .bytes _) _ _ _
  unfold countM searchArgs
  refine wpAny_bind (wpAny_bind (wpAny_of_eq (a := (Value.bytes b t, [Value.bytes #[c] u])) rfl ?_))
  dsimp only
  refine wpAny_bind (wpAny_of_eq (a := none) rfl ?_)
  refine wpAny_bind (wpAny_of_eq (a := none) rfl ?_)
  show wpAny _ _ (buffer? _ (.bytes #[c] u) >>= fun r => _) _ _ s
  rw [KBy.buffer_eq]
  refine wpAny_bind (wpAny_pure ?_)
  dsimp only
  refine wpAny_bind (wpAny_pure ?_)
  refine wpAny_bind (wpAny_of_eq (a := b) rfl ?_)
  refine wpAny_pure ?_
  have ew : window b.size none none = (0, (b.size : Int)) := by
    simp only [window, Option.getD_none]
    have : ¬ ((b.size : Int) < 0) := by omega
    rw [if_neg this, if_neg (by decide)]
    simp
  rw [ew]
  by_cases h0 : b.size = 0
  · rw [if_pos (by simp [h0])]
    refine wpAny_bind (wpAny_mkInt (wpAny_pure ?_))
    have : b.toList.count c = 0 := by
      have : b.toList = [] := by apply List.eq_nil_of_length_eq_zero; simpa using h0
      rw [this]; rfl
    have h' := h s.toks (s.toks + 1)
    rw [this] at h'
    exact h'
  · rw [if_neg (by simp; omega)]
    dsimp only
    refine wp_neg (by simp) ?_
    have e3 : (occurrences b #[c] (Int.toNat 0) (Int.toNat (b.size : Int))).length = b.toList.count c := by
      rw [← occ_count]; rfl
    rw [e3]
    exact wpAny_bind (wpAny_mkInt (wpAny_pure (h _ _)))
end Mine

-- part R9
namespace Mine
open PySem PySem.W PySem.Builtin PyProof.Rows
set_option maxRecDepth 100000

def Ascii (x : Str) : Prop := ∀ c ∈ x.cps.toList, c < 128

theorem utf8_ascii {c : Nat} (h : c < 128) : Str.utf8Of c = [c.toUInt8] := by
  unfold Str.utf8Of
  simp [h]


theorem bad_none {x : Str} (hx : Ascii x) : x.cps.findIdx? _codecs.utf8Codec.bad = none := by
  rw [Array.findIdx?_eq_none_iff]
  intro c hc
  have := hx c (by simpa using hc)
  show Str.isSurrogate c = false
  unfold Str.isSurrogate
  simp; omega
theorem bytes_fold (l : List Nat) (acc : Array UInt8) (h : ∀ c ∈ l, c < 128) : l.foldl (fun acc y => acc ++ (_codecs.utf8Codec.bytesOf y).toArray) acc = acc ++ (l.map (·.toUInt8)).toArray := by
  induction l generalizing acc with
  | nil => simp
  | cons c r ih =>
    rw [List.foldl_cons, ih _ (fun c' hc' => h c' (.tail _ hc'))]
    have : _codecs.utf8Codec.bytesOf c = [c.toUInt8] := utf8_ascii (h c (.head _))
    rw [this]; simp

theorem wp_narrow {M : Model} {A : Around} {E : Value → Shared → Prop} {s : Shared} {x : Str} {id : String} {self : Value} (hx : Ascii x) {Q : Array UInt8 → Shared → Prop} (hz : x.length ≤ 16777216) (h : Q (x.cps.map (·.toUInt8)) s) :
    wpAny M A (_codecs.encodeNarrow id _codecs.utf8Codec none self x) Q E s := by
  unfold _codecs.encodeNarrow
  dsimp only
  rw [Std.Legacy.Range.forIn_eq_forIn_range']
  refine wpAny_bind ?_
  have hall : (x.cps.extract 0).foldl (fun acc y => acc ++ (_codecs.utf8Codec.bytesOf y).toArray) #[] = x.cps.map (·.toUInt8) := by
    rw [Array.extract_size, ← Array.foldl_toList, bytes_fold _ _ hx]
    apply Array.ext'; simp
  have e1 : [:x.length].size = x.length := by simp [Std.Legacy.Range.size]
  rw [e1]
  obtain ⟨cps⟩ := x
  have hl : Str.length ⟨cps⟩ = cps.size := rfl
  rw [hl] at hz ⊢
  show wpAny M A (forIn (List.range' 0 cps.size 1) _ _) _ _ _
  rcases Nat.eq_zero_or_pos cps.size with hn | hn
  · have er : List.range' 0 cps.size 1 = [] := by rw [hn]; rfl
    rw [er, List.forIn_nil]
    refine wpAny_pure (wpAny_pure ?_)
    have : cps = #[] := Array.eq_empty_of_size_eq_zero hn
    subst this
    simpa using h
  · obtain ⟨n, hn⟩ : ∃ n, cps.size = n + 1 := ⟨cps.size - 1, by omega⟩
    have er : List.range' 0 cps.size 1 = 0 :: List.range' 1 n 1 := by rw [hn]; rfl
    rw [er, List.forIn_cons]
    refine wpAny_bind ?_
    refine wp_neg (by simp) ?_
    have e2 : cps[0]? = some cps[0] := Array.getElem?_eq_getElem (by omega)
    dsimp only
    rw [e2]
    dsimp only
    have hb : _codecs.utf8Codec.bad cps[0] = false := by
      have := bad_none hx
      rw [Array.findIdx?_eq_none_iff] at this
      exact this _ (Array.getElem_mem (by omega))
    refine wp_pos (by rw [hb]; rfl) ?_
    have e3 : cps.extract 0 = cps := Array.extract_size
    have e4 : cps.findIdx? _codecs.utf8Codec.bad = none := bad_none hx
    rw [e3, e4]
    refine wpAny_pure ?_
    dsimp only [Option.getD_none]
    have e5 : (cps.extract 0 cps.size).foldl (fun acc y => acc ++ (_codecs.utf8Codec.bytesOf y).toArray) #[] = cps.map (·.toUInt8) := by
      rw [Array.extract_size, ← Array.foldl_toList, bytes_fold _ _ hx]
      apply Array.ext'; simp
    rw [e5]
    cases n with
    | zero =>
      rw [List.range'_zero, List.forIn_nil]
      exact wpAny_pure (wpAny_pure h)
    | succ m =>
      rw [List.range'_succ, List.forIn_cons]
      refine wpAny_bind ?_
      refine wp_neg (by rw [sizeLine_eq]; simp; omega) ?_
      have e6 : cps[0 + cps.size]? = none := by simp
      dsimp only
      rw [e6]
      exact wpAny_pure (wpAny_pure (wpAny_pure h))

theorem entry_encode : entryFor table "str.encode" = some Builtin.«str.encode» := entryFor_of_tree (by kernel_rfl)
theorem owner_str : Manifest.owners.lookup (String.ofList ['r', 't', 's'].reverse) = some Manifest.sig_str := by kernel_rfl
theorem slot_encode : Slot "str" "encode" "str.encode" :=
  .of (owner := "str") (n := "encode") (by rw [typeLookup_type, builtinLookup_eq_fast]; kernel_rfl) (by decide +kernel) (by decide +kernel) (by decide +kernel)
    (by first | exact .inl (by decide +kernel) | exact .inr (by decide +kernel)) (by rw [isSubtype_type]; kernel_rfl)
theorem args_encode (a : Value) : argsOk "str.encode" ⟨[a], []⟩ := by
  unfold argsOk; rw [signature?_of (id := "str.encode") (n := ['e', 'd', 'o', 'c', 'n', 'e']) (o := ['r', 't', 's']) (by kernel_rfl) owner_str]; kernel_rfl

theorem call_encode {prog : Program} {w : World} {A : Around} {E : Value → Shared → Prop} {s : Shared} {x : Str} {t : Tok} {Q : Value → Shared → Prop} (hx : Ascii x) (hz : x.length ≤ 16777216)
    (h : ∀ t' k, Q (.bytes (x.cps.map (·.toUInt8)) t') { s with toks := k }) : wpAny (model prog w) A (call (.builtin "str.encode") [.str x t]) Q E s := by
  refine wpAny_call (codeAny_call_builtin slot_encode.plain entry_encode (slot_encode.check _ _ _ _ _ _ _ _ (typeIs_str s x t) (args_encode _) ?_))
  rw [encode_tree, encodeRoad_utf8]
  refine wpAny_bind (wpAny_bind (wp_narrow hx hz ?_))
  refine wpAny_mkBytes ?_ (by rw [sizeLine_eq, Array.size_map]; exact hz)
  exact wpAny_pure (h _ _)
end Mine

-- part WHead
open PySem PySem.W PyProof.Rows
set_option Elab.async false
namespace Mine
set_option maxRecDepth 100000 in
set_option maxHeartbeats 8000000 in
open_top hd for PySem.Challenge.rw_wy0015_01
end Mine

-- part C0
namespace Mine
open PySem PySem.W PySem.Calls PyProof.Rows
set_option Elab.async false
set_option maxRecDepth 100000

theorem pat_in {w : World} {h : Heap} (X : (Mine.hd.heap_39 w.params).In h) : PatAt h 36 ∧ ∃ o, h.get? 36 = some o ∧ o.cls = .type "re.Pattern" ∧ o.dict = none := by
  have h36 := X 36 _ (by rfl)
  have h35 := X 35 _ (by rfl)
  exact ⟨⟨35, _, _, _, 0, h36, rfl, rfl, rfl, rfl, h35, by simp [qcode], rfl⟩, _, h36, rfl, rfl⟩
theorem plainAttrs_pat : PlainAttrs "re.Pattern" :=
  ⟨⟨"object.__getattribute__", by rw [typeLookup_type, builtinLookup_eq_fast]; kernel_rfl, by decide +kernel⟩, by rw [typeLookup_type, builtinLookup_eq_fast]; kernel_rfl⟩
theorem type_sub : typeOf (.builtin "re.Pattern.sub") = pure (.type "method_descriptor") := by show builtinType _ = _; rw [builtinType_eq_fast]; kernel_rfl
theorem type_count : typeOf (.builtin "bytes.count") = pure (.type "method_descriptor") := by show builtinType _ = _; rw [builtinType_eq_fast]; kernel_rfl
theorem type_encode : typeOf (.builtin "str.encode") = pure (.type "method_descriptor") := by show builtinType _ = _; rw [builtinType_eq_fast]; kernel_rfl
theorem plainAttrs_str : PlainAttrs "str" :=
  ⟨⟨"object.__getattribute__", by rw [typeLookup_type, builtinLookup_eq_fast]; kernel_rfl, by decide +kernel⟩, by rw [typeLookup_type, builtinLookup_eq_fast]; kernel_rfl⟩

section
variable {w : World} {M : Model} {A : Around} {E : Value → Shared → Prop} {s : Shared} {h₀ : Heap} {L : Addr} {m : Str → Option Value}
theorem gm_sub {pl : Sem Bool} {Q : Value × List Value → Shared → Prop} (X : (Mine.hd.heap_39 w.params).In h₀) (F : Fr h₀ L s.heap m) (h : Q (.builtin "re.Pattern.sub", [.ref 36]) s) : wpAny M A (getMethod (.ref 36) "sub" pl) Q E s := by
  obtain ⟨o, ho, hc, hd⟩ := (pat_in X).2
  refine getMethod_builtin (T := "re.Pattern") ⟨o, F.keep _ _ ho, hc⟩ plainAttrs_pat slot_sub type_sub ?_ h
  intro a e
  cases e
  exact ⟨o, F.keep _ _ ho, hd⟩
theorem gm_count {pl : Sem Bool} {b : Array UInt8} {t : Tok} {Q : Value × List Value → Shared → Prop} (h : Q (.builtin "bytes.count", [.bytes b t]) s) : wpAny M A (getMethod (.bytes b t) "count" pl) Q E s :=
  getMethod_builtin (typeIs_bytes s b t) FB.plainAttrs_bytes slot_count type_count (fun a e => nomatch e) h
theorem gm_encode {pl : Sem Bool} {x : Str} {t : Tok} {Q : Value × List Value → Shared → Prop} (h : Q (.builtin "str.encode", [.str x t]) s) : wpAny M A (getMethod (.str x t) "encode" pl) Q E s :=
  getMethod_builtin (typeIs_str s x t) plainAttrs_str slot_encode type_encode (fun a e => nomatch e) h
end
section
variable {prog : Program} {w : World} {A : Around} {E : Value → Shared → Prop} {s : Shared} {h₀ : Heap} {L : Addr} {m : Str → Option Value} {news : List (Addr × Obj)}
theorem k_sub {b : Array UInt8} {t tr : Tok} {r : List Nat} {Q : Value → Shared → Prop} (X : (Mine.hd.heap_39 w.params).In h₀) (F : Fr h₀ L s.heap m) (N : News h₀ L s.heap news) (hz : b.size ≤ 16777216) (hS : Strips (b.toList.map (·.toNat)) r)
    (h : ∀ t' k h', Fr h₀ L h' m → News h₀ L h' news → Q (.bytes (r.map (·.toUInt8)).toArray t') { s with heap := h', toks := k }) : wpAny (model prog w) A (call (.builtin "re.Pattern.sub") [.ref 36, .bytes #[] tr, .bytes b t]) Q E s := by
  obtain ⟨hP, o, ho, hc, hd⟩ := pat_in X
  exact call_sub ⟨o, F.keep _ _ ho, hc⟩ (hP.keeps F.keep) hz hS fun t' k h' hk => h t' k h' (F.keeps hk) (N.grown hk)
theorem k_count {b : Array UInt8} {c : UInt8} {t u : Tok} {Q : Value → Shared → Prop} (h : ∀ t' k, Q (.int (b.toList.count c) t') { s with toks := k }) : wpAny (model prog w) A (call (.builtin "bytes.count") [.bytes b t, .bytes #[c] u]) Q E s := call_count h
end
end Mine

-- part C1
namespace Mine
open PySem PySem.W PySem.Calls PyProof.Rows
set_option Elab.async false
set_option maxRecDepth 100000

def D (r : List Nat) : Int := ((r.map (·.toUInt8)).count 40 : Int) - ((r.map (·.toUInt8)).count 41 : Int)

def DepthTells (w : World) (vs : List Value) (d : Int) : Prop :=
  ∀ (p : Program) (loose : List Str) (mean : ExcName → Option Value) (mg mb : Str → Option Value) (dp un : Nat) (gd : Option (List Code)) (cn : Str) (cs : Scope) (a : Addr) (ccd : Value) (cl : List (Str × Addr)) (outer : List Env) (A₀ : Around) (base h₀ : Heap) (L : Addr) (m : Str → Option Value) (news : List (Addr × Obj)) (s : Shared)
    (Q E : Value → Shared → Prop),
    Below A₀ base outer h₀ → Fr h₀ L s.heap m → (Mine.hd.heap_39 w.params).In h₀ → News h₀ L s.heap news → Top p loose mean mg mb h₀ → cs.kind = .function → dp + 1 < recursionLimit → un + 8 < cLine →
    (∀ (t : Tok) (h' : Heap) (tk' : Nat), Fr h₀ L h' m → News h₀ L h' news → Q (.int d t) { s with heap := h', toks := tk' }) →
    wpAny (model Challenge.rw_wy0015_01.row.prog w) (ktrTop dp un gd cn cs L a ccd cl outer) (call (.ref 44) vs) Q E s

theorem off_C1 : True := by w_top off; trivial


local macro_rules | `(tactic| walk_at "mine:enter") => `(tactic| (refine' code_def ?k1 ?k2 ?k3 ?k4 ?k5 ?kA ?kF ?kK ?k6 ?k7 ?k8 ?k9 ?kB ?_ ?c2 ?c3 ?c4 ?c5; (case kA => exact rfl); (case kF => exact rfl); (case kK => first | exact rfl | assumption); (case k1 => k_asm); (case k2 => k_asm); (case k3 => k_asm); (case k4 => k_asm); (case k5 => k_asm); (case k6 => k_is); (case k7 => k_is); (case k8 => ktr_room); (case k9 => first | exact BindsTo.of_eq rfl | exact binds_K (by k_in) rfl (by k_is) rfl rfl rfl); (case c5 => decide); (case kB => exact locs rfl); (case c2 => exact rfl); (case c3 => exact rfl); (case c4 => exact rfl); k_whole; intro g' L' h' FG' F' N' B' X' T'; (try dsimp only); (try k_lift B'); (try k_fold)))


local macro_rules | `(tactic| walk_at "getMethod ref") => `(tactic| (k_here; k_dflt (refine' gm_sub ?kX ?kF ?_; (case kX => k_asm); (case kF => k_asm); k_whole)))
local macro_rules | `(tactic| walk_at "getMethod bytes") => `(tactic| (k_here; k_dflt (refine' gm_count ?_; k_whole)))
local macro_rules | `(tactic| walk_at "call builtin:re.Pattern.sub") => `(tactic| (k_here; (try dsimp only [List.cons_append, List.nil_append, List.singleton_append]); k_dflt (refine' k_sub ?kX ?kF ?kN ?kz ?kS ?_; (case kX => k_asm); (case kF => k_asm); (case kN => k_asm); (case kz => assumption); (case kS => assumption); k_whole; intro t' k' h' F' N'; (try dsimp only); (try k_fold))))
local macro_rules | `(tactic| walk_at "call builtin:bytes.count") => `(tactic| (k_here; (try dsimp only [List.cons_append, List.nil_append, List.singleton_append]); k_dflt (refine' k_count ?_; k_whole; intro t' k'; (try dsimp only); (try k_fold))))

set_option maxHeartbeats 8000000 in
theorem depth1 (w : World) (b : Array UInt8) (t : Tok) (r : List Nat) (hz : b.size ≤ 16777216) (hS : Strips (b.toList.map (·.toNat)) r) : DepthTells w [.bytes b t] (D r) := by
  unfold DepthTells
  k_fill
  intro p loose mean mg mb dp un gd cn cs a ccd cl outer A₀ base h₀ L m news s Q E B F X N T hk hd hu hret
  refine wpAny_call ?_
  k_dflt (walk_at "mine:enter")
  k_steps
  all_goals (refine' cb_retI (Q := Q) hret ?e1 ?e2 ?e3; (case e2 => k_asm); (case e3 => k_asm); (case e1 => (unfold D; omega)))
set_option maxHeartbeats 8000000 in
theorem depth2 (w : World) (b : Array UInt8) (t td : Tok) (d : Int) (r : List Nat) (hz : b.size ≤ 16777216) (hS : Strips (b.toList.map (·.toNat)) r) : DepthTells w [.bytes b t, .int d td] (d + D r) := by
  unfold DepthTells
  k_fill
  intro p loose mean mg mb dp un gd cn cs a ccd cl outer A₀ base h₀ L m news s Q E B F X N T hk hd hu hret
  refine wpAny_call ?_
  k_dflt (walk_at "mine:enter")
  k_steps
  all_goals (refine' cb_retI (Q := Q) hret ?e1 ?e2 ?e3; (case e2 => k_asm); (case e3 => k_asm); (case e1 => (unfold D; omega)))
end Mine

-- part C2
namespace Mine
open PySem PySem.W PySem.Calls PyProof.Rows
set_option Elab.async false
set_option maxRecDepth 100000

/-- a value that the key tells d of -/
def Key (v : Value) (d : Int) : Prop := ∃ b t r, v = .bytes b t ∧ b.size ≤ 16777216 ∧ Strips (b.toList.map (·.toNat)) r ∧ d = D r
theorem depthK (w : World) (v : Value) (d : Int) (h : Key v d) : DepthTells w [v] d := by
  obtain ⟨b, t, r, rfl, hz, hS, rfl⟩ := h
  exact depth1 w b t r hz hS

theorem depth_use {w : World} {vs : List Value} {d : Int} {p : Program} {loose : List Str} {mean : ExcName → Option Value} {mg mb : Str → Option Value} {dp un : Nat} {gd : Option (List Code)} {cn : Str} {cs : Scope} {a : Addr} {ccd : Value} {cl : List (Str × Addr)} {outer : List Env} {A₀ : Around} {base h₀ : Heap} {L : Addr} {m : Str → Option Value} {news : List (Addr × Obj)} {s : Shared}
    {Q E : Value → Shared → Prop} (B : Below A₀ base outer h₀) (F : Fr h₀ L s.heap m) (X : (Mine.hd.heap_39 w.params).In h₀) (N : News h₀ L s.heap news) (T : Top p loose mean mg mb h₀) (hk : cs.kind = .function) (C : DepthTells w vs d) (hd : dp + 1 < recursionLimit) (hu : un + 8 < cLine)
    (ret : ∀ (t : Tok) (h' : Heap) (tk' : Nat), Fr h₀ L h' m → News h₀ L h' news → Q (.int d t) { s with heap := h', toks := tk' }) :
    wpAny (model Challenge.rw_wy0015_01.row.prog w) (ktrTop dp un gd cn cs L a ccd cl outer) (call (.ref 44) vs) Q E s := C _ _ _ _ _ _ _ _ _ _ _ _ _ _ _ _ _ _ _ _ _ _ _ B F X N T hk hd hu ret

def InsTells (w : World) (f : Addr) (items : List Value) (v : Value) (res : List Value) : Prop :=
  ∀ (p : Program) (loose : List Str) (mean : ExcName → Option Value) (mg mb : Str → Option Value) (dp un : Nat) (gd : Option (List Code)) (cn : Str) (cs : Scope) (a : Addr) (ccd : Value) (cl : List (Str × Addr)) (outer : List Env) (A₀ : Around) (base h₀ : Heap) (L : Addr) (m : Str → Option Value) (news : List (Addr × Obj)) (D : Addr) (ep : Nat) (s : Shared)
    (Q E : Value → Shared → Prop),
    Below A₀ base outer h₀ → Fr h₀ L s.heap m → (Mine.hd.heap_39 w.params).In h₀ → News h₀ L s.heap ((D, listOf items.toArray ep) :: news) → (∀ p ∈ news, p.1 ≠ D) → Top p loose mean mg mb h₀ → cs.kind = .function → dp + 4 < recursionLimit → un + 40 < cLine →
    (∀ (h' : Heap) (tk' ep' : Nat), Fr h₀ L h' m → News h₀ L h' ((D, listOf res.toArray ep') :: news) → Q .none { s with heap := h', toks := tk' }) →
    wpAny (model Challenge.rw_wy0015_01.row.prog w) (ktrTop dp un gd cn cs L a ccd cl outer) (call (.ref f) [.ref D, v] [(Str.ofString "key", .ref 44)]) Q E s

theorem off_C2 : True := by w_top off; trivial


local macro_rules | `(tactic| walk_at "mine:enter") => `(tactic| (refine' code_def ?k1 ?k2 ?k3 ?k4 ?k5 ?kA ?kF ?kK ?k6 ?k7 ?k8 ?k9 ?kB ?_ ?c2 ?c3 ?c4 ?c5; (case kA => exact rfl); (case kF => exact rfl); (case kK => first | exact rfl | assumption); (case k1 => k_asm); (case k2 => k_asm); (case k3 => k_asm); (case k4 => k_asm); (case k5 => k_asm); (case k6 => k_is); (case k7 => k_is); (case k8 => ktr_room); (case k9 => first | exact BindsTo.of_eq rfl | exact binds_K (by k_in) rfl (by k_is) rfl rfl rfl); (case c5 => decide); (case kB => exact locs rfl); (case c2 => exact rfl); (case c3 => exact rfl); (case c4 => exact rfl); k_whole; intro g' L' h' FG' F' N' B' X' T'; (try dsimp only); (try k_lift B'); (try k_fold)))

local macro_rules | `(tactic| k_all) => `(tactic| assumption)
local macro_rules | `(tactic| walk_at "call ref") => `(tactic| (k_here; (with_reducible show wpAny _ _ (call (Value.ref 44) _) _ _ _); k_dflt (refine' depth_use ?k1 ?k2 ?k3 ?k4 ?k5 ?kK (depthK _ _ _ ?kH) ?kd ?ku ?_; (case kK => first | exact rfl | assumption); (case k1 => k_asm); (case k2 => k_asm); (case k3 => k_asm); (case k4 => k_asm); (case k5 => k_asm); (case kH => assumption); (case kd => ktr_room); (case ku => ktr_units); k_whole; intro t' h' tk' F' N'; (try dsimp only); (try k_fold))))
local macro_rules | `(tactic| walk_at "call ref") => `(tactic| (k_here; (fail_if_success (with_reducible show wpAny _ _ (call (Value.ref 44) _) _ _ _)); (refine wpAny_call ?_); k_dflt (walk_at "mine:enter")))


def insL (x : Int × Value) : List (Int × Value) → List (Int × Value)
  | [] => [x]
  | y :: r => if y.1 < x.1 then y :: insL x r else x :: y :: r
def insR (x : Int × Value) : List (Int × Value) → List (Int × Value)
  | [] => [x]
  | y :: r => if y.1 ≤ x.1 then y :: insR x r else x :: y :: r

theorem ins_ret {h₀ h' : Heap} {L D : Addr} {m : Str → Option Value} {news : List (Addr × Obj)} {s : Shared} {Q : Value → Shared → Prop} {res : List Value} {arr : Array Value} {k ep : Nat}
    (hret : ∀ (h' : Heap) (tk' ep' : Nat), Fr h₀ L h' m → News h₀ L h' ((D, listOf res.toArray ep') :: news) → Q .none { s with heap := h', toks := tk' })
    (F : Fr h₀ L h' m) (N : News h₀ L h' ((D, listOf arr ep) :: news)) (e : arr = res.toArray) : Q .none { s with heap := h', toks := k } := by
  subst e
  exact hret h' k ep F N


theorem insL_at {d : Int} {v : Value} : ∀ (l : List (Int × Value)) (lo : Nat), lo ≤ l.length → (∀ i q, i < lo → l[i]? = some q → q.1 < d) → (∀ i q, lo ≤ i → l[i]? = some q → ¬ q.1 < d) → insL (d, v) l = l.take lo ++ (d, v) :: l.drop lo
  | [], 0, _, _, _ => rfl
  | [], _ + 1, h, _, _ => absurd h (by simp)
  | y :: r, 0, _, _, b => by
    have := b 0 y (Nat.le_refl _) rfl
    simp only [insL]
    rw [if_neg this]
    rfl
  | y :: r, lo + 1, h, a, b => by
    have := a 0 y (Nat.succ_pos _) rfl
    simp only [insL]
    rw [if_pos this, insL_at r lo (Nat.le_of_succ_le_succ h) (fun i q hi hq => a (i + 1) q (Nat.succ_lt_succ hi) hq) (fun i q hi hq => b (i + 1) q (Nat.succ_le_succ hi) hq)]
    rfl
theorem insR_at {d : Int} {v : Value} : ∀ (l : List (Int × Value)) (lo : Nat), lo ≤ l.length → (∀ i q, i < lo → l[i]? = some q → q.1 ≤ d) → (∀ i q, lo ≤ i → l[i]? = some q → ¬ q.1 ≤ d) → insR (d, v) l = l.take lo ++ (d, v) :: l.drop lo
  | [], 0, _, _, _ => rfl
  | [], _ + 1, h, _, _ => absurd h (by simp)
  | y :: r, 0, _, _, b => by
    have := b 0 y (Nat.le_refl _) rfl
    simp only [insR]
    rw [if_neg this]
    rfl
  | y :: r, lo + 1, h, a, b => by
    have := a 0 y (Nat.succ_pos _) rfl
    simp only [insR]
    rw [if_pos this, insR_at r lo (Nat.le_of_succ_le_succ h) (fun i q hi hq => a (i + 1) q (Nat.succ_lt_succ hi) hq) (fun i q hi hq => b (i + 1) q (Nat.succ_le_succ hi) hq)]
    rfl
theorem kl_ins_at {l : List (Int × Value)} {d : Int} {v : Value} {lo : Nat} (h : lo ≤ l.length) : kl_ins (l.map (·.2)).toArray.toList (lo : Int) v = (l.take lo ++ (d, v) :: l.drop lo).map (·.2) := by
  unfold kl_ins
  rw [if_neg (by omega), List.length_map, Int.toNat_natCast, Nat.min_eq_left h]
  simp

def Held (P : Prop) : Prop := P
def BMark (_l : List (Int × Value)) (_D : Addr) (_d : Int) (_g : Int → Prop) : Prop := True
def JB (l : List (Int × Value)) (D : Addr) (d : Int) (g : Int → Prop) (n : Nat) (m : Str → Option Value) : Prop :=
  ∃ (lo hi : Nat) (tlo thi tx : Tok), m (Str.ofString "a") = some (.ref D) ∧ m (Str.ofString "x") = some (.int d tx) ∧ m (Str.ofString "key") = some (.ref 44) ∧ m (Str.ofString "lo") = some (.int lo tlo) ∧ m (Str.ofString "hi") = some (.int hi thi) ∧
    lo ≤ hi ∧ hi ≤ l.length ∧ hi - lo = n ∧ (∀ i q, i < lo → l[i]? = some q → g q.1) ∧ (∀ i q, hi ≤ i → l[i]? = some q → ¬ g q.1)
theorem While_J {prog : Program} {w : World} {A : Around} {E : Value → Shared → Prop} {Q : Flow → Shared → Prop} {s : Shared} {env : Env} {h₀ : Heap} {L : Addr} {test : Expr} {body : List Stmt} {pos : Pos} {m : Str → Option Value} {news : List (Addr × Obj)} (J : Nat → (Str → Option Value) → Prop) {n₀ : Nat}
    (hE : PassesOwn (model prog w) A env E) (F : Fr h₀ L s.heap m) (N : News h₀ L s.heap news) (hJ : J n₀ m)
    (turn : ∀ n m₁ h₁ tk₁ (P : Flow → Shared → Prop), Fr h₀ L h₁ m₁ → News h₀ L h₁ news → J n m₁ →
      (∀ n' m' h' tk', n' < n → Fr h₀ L h' m' → News h₀ L h' news → J n' m' → P .next { s with heap := h', toks := tk' }) → (∀ s', Q .next s' → P .brk s') →
      wpAny (model prog w) A (isTrue test env (eval test env)) (fun b s₂ => WhlIf b (wpAny (model prog w) A (execs body env) P E s₂) (Q .next s₂)) E { s with heap := h₁, toks := tk₁ }) :
    wpAny (model prog w) A (exec (.While test body [] pos) env) Q E s := by
  refine whl_start 0 ?_
  have key : ∀ n m₁ h₁ tk₁, Fr h₀ L h₁ m₁ → News h₀ L h₁ news → J n m₁ → WhlRest prog w A E env test body [] Q 0 { s with heap := h₁, toks := tk₁ } := by
    intro n
    induction n using Nat.strongRecOn with
    | ind n ih =>
      intro m₁ h₁ tk₁ F₁ N₁ J₁
      refine whl_turn (k := 0) hE ?_
      refine wpAny_mono (turn n m₁ h₁ tk₁ (WhlPost prog w A E env test body [] Q 0) F₁ N₁ J₁ (fun n' m' h' tk' hn F' N' J' => ih n' hn m' h' tk' F' N' J') (fun s' h => h)) (fun b s₂ hb => ?_) fun _ _ e => e
      cases b with
      | true => exact hb
      | false => exact wpAny_execs_nil hb
  exact key n₀ m s.heap s.toks F N hJ

theorem While_B {prog : Program} {w : World} {A : Around} {E : Value → Shared → Prop} {Q : Flow → Shared → Prop} {s : Shared} {env : Env} {h₀ : Heap} {L : Addr} {test : Expr} {body : List Stmt} {pos : Pos} {m : Str → Option Value} {news : List (Addr × Obj)} {l : List (Int × Value)} {D : Addr} {d : Int} {g : Int → Prop}
    (_k : BMark l D d g) (hE : PassesOwn (model prog w) A env E) (F : Fr h₀ L s.heap m) (N : News h₀ L s.heap news) (hJ : Held (∃ n, JB l D d g n m))
    (turn : Held (∀ n m₁ h₁ tk₁ (P : Flow → Shared → Prop), Fr h₀ L h₁ m₁ → News h₀ L h₁ news → JB l D d g n m₁ →
      (∀ n' m' h' tk', n' < n → Fr h₀ L h' m' → News h₀ L h' news → JB l D d g n' m' → P .next { s with heap := h', toks := tk' }) → (∀ s', Q .next s' → P .brk s') →
      wpAny (model prog w) A (isTrue test env (eval test env)) (fun b s₂ => WhlIf b (wpAny (model prog w) A (execs body env) P E s₂) (Q .next s₂)) E { s with heap := h₁, toks := tk₁ })) :
    wpAny (model prog w) A (exec (.While test body [] pos) env) Q E s := by
  obtain ⟨n, hJ⟩ := hJ
  exact While_J (JB l D d g) hE F N hJ turn
theorem mid_facts {lo hi : Nat} (h : lo < hi) (hz : hi ≤ 1000) : ∃ M : Nat, ((lo : Int) + (hi : Int)).fdiv 2 = (M : Int) ∧ lo ≤ M ∧ M < hi := by
  refine ⟨(lo + hi) / 2, ?_, by omega, by omega⟩
  rw [Int.fdiv_eq_ediv_of_nonneg _ (by decide)]
  omega


theorem row_mono {l : List (Int × Value)} (hs : l.Pairwise fun a b => a.1 ≤ b.1) {i j : Nat} {qi qj : Int × Value} (hij : i ≤ j) (hi : l[i]? = some qi) (hj : l[j]? = some qj) : qi.1 ≤ qj.1 := by
  obtain ⟨a, rfl⟩ := List.getElem?_eq_some_iff.mp hi
  obtain ⟨b, rfl⟩ := List.getElem?_eq_some_iff.mp hj
  rcases Nat.lt_or_eq_of_le hij with h | rfl
  · exact List.pairwise_iff_getElem.mp hs i j a b h
  · exact Int.le_refl _

local macro_rules | `(tactic| walk_at "exec While Compare cons nil") => `(tactic| (k_here; k_dflt (refine' While_B ?kM ?kE ?kF ?kN ?kJ ?_; (case kM => assumption); (case kE => first | passes_own | with_unfolding_all passes_own); (case kF => k_asm); (case kN => k_asm))))
local macro_rules | `(tactic| walk_at "eval Name") => `(tactic| (k_here; k_dflt (refine' ld ?k1 ?k2 ?_; (case k1 => k_asm); (case k2 => first | with_reducible assumption | assumption); k_whole)))
local macro_rules | `(tactic| walk_at "subscriptTail Name Name ref int") => `(tactic| (k_here; k_dflt (refine' item_listL (l := List.map _ _) ?sl ?s0 ?s1 ?sx ?_ ?ss ?sg; (case sl => exact News.isList (by k_asm) (by k_mem)); (case s0 => assumption); (case s1 => assumption); (case sx => assumption); (case ss => with_unfolding_all rfl); (case sg => kmk_pure); k_whole)))
local macro_rules | `(tactic| walk_at "call builtin:len") => `(tactic| (k_here; k_dflt (refine' kun_lenL ?k1 ?k2 ?k3 ?_; (case k1 => exact News.isList (by k_asm) (by k_mem)); (case k2 => assumption); (case k3 => assumption); k_whole)))
local macro_rules | `(tactic| walk_at "call builtin:list.insert") => `(tactic| (k_here; k_dflt (refine' kl_insert ?F ?N ?f ?e ?U ?z ?_; (case F => k_asm); (case N => k_asm); (case U => k_upd); (case f => assumption); (case e => exact rfl); (case z => assumption)); intro h' F' N'; (try k_fold)))

set_option maxHeartbeats 8000000 in
theorem insLg (w : World) (v : Value) (d : Int) (hK : Key v d) (l : List (Int × Value)) (hl : l.length ≤ 1000) (hKs : ∀ q ∈ l, Key q.2 q.1) (hs : l.Pairwise fun a b => a.1 ≤ b.1) : InsTells w 71 (l.map (·.2)) v ((insL (d, v) l).map (·.2)) := by
  unfold InsTells
  k_fill
  intro p loose mean mg mb dp un gd cn cs a ccd cl outer A₀ base h₀ L m news D ep s Q E B F X N hne T hk hd hu hret
  have hsz : (((l.map (·.2)).toArray.size : Nat) : Int) = (l.length : Int) := by simp
  have hln : (l.length : Int) ≤ 16384 := by omega
  have hroom : (l.map (·.2)).toArray.toList.length ≤ sizeLine := by rw [sizeLine_eq]; simp; omega
  have hM : BMark l D d (fun z => z < d) := trivial
  refine wpAny_call ?_
  k_dflt (walk_at "mine:enter")
  k_steps
  case kJ =>
    refine ⟨_, 0, l.length, _, _, _, rfl, rfl, rfl, rfl, rfl, Nat.zero_le _, Nat.le_refl _, rfl, fun i q hi => absurd hi (Nat.not_lt_zero _), fun i q hi hq => ?_⟩
    have := (List.getElem?_eq_some_iff.mp hq).1
    omega
  unfold Held
  intro n m₁ h₁ tk₁ P F₁ N₁ hJ hnext hbrk
  obtain ⟨lo, hi, tlo, thi, tx, ja, jx, jk, jl, jh, h1, h2, h3, h4, h5⟩ := hJ
  k_steps
  by_cases hlt : (lo : Int) < (hi : Int)
  · refine WhlIf.yes (decide_eq_true hlt) ?_
    obtain ⟨M, eM, hM1, hM2⟩ := mid_facts (lo := lo) (hi := hi) (by omega) (by omega)
    have s0 : 0 ≤ ((lo : Int) + (hi : Int)).fdiv 2 := by rw [eM]; omega
    have s1 : ((lo : Int) + (hi : Int)).fdiv 2 < 2 ^ 63 := by rw [eM]; omega
    obtain ⟨q, hq⟩ : ∃ q, l[M]? = some q := ⟨l[M]'(by omega), List.getElem?_eq_getElem _⟩
    have sx : (List.map (fun x : Int × Value => x.2) l)[(((lo : Int) + (hi : Int)).fdiv 2).toNat]? = some q.2 := by rw [eM, Int.toNat_natCast, List.getElem?_map, hq]; rfl
    have hqK : Key q.2 q.1 := hKs q (List.mem_of_getElem? hq)
    have srt : ∀ (i j : Nat) (qi qj : Int × Value), i ≤ j → l[i]? = some qi → l[j]? = some qj → qi.1 ≤ qj.1 := fun i j qi qj hij hi hj => row_mono hs hij hi hj
    k_steps
    · refine' hnext (hi - (M + 1)) _ _ _ ?n1 ?F1 ?N1 ?J1
      case F1 => assumption
      case N1 => assumption
      case n1 => omega
      case J1 =>
        refine' ⟨M + 1, hi, _, thi, tx, ja, jx, jk, ?j1, jh, ?j2, h2, rfl, ?j3, h5⟩
        case j1 =>
          show some (Value.int _ _) = _
          rw [eM]
          rfl
        case j2 => omega
        case j3 =>
          intro i q' a b
          have := srt i M q' q (by omega) b hq
          show q'.1 < d
          omega
    · refine' hnext (M - lo) _ _ _ ?n2 ?F2 ?N2 ?J2
      case F2 => assumption
      case N2 => assumption
      case n2 => omega
      case J2 =>
        refine' ⟨lo, M, tlo, _, tx, ja, jx, jk, jl, ?i1, hM1, ?i2, rfl, h4, ?i3⟩
        case i1 =>
          show some (Value.int _ _) = _
          rw [eM]
        case i2 => omega
        case i3 =>
          intro i q' a b
          have := srt M i q q' a hq b
          show ¬ q'.1 < d
          omega
  · refine WhlIf.no (decide_eq_false hlt) ?_
    have e : hi = lo := by omega
    subst e
    have hfit : Builtin.List.listFitsIndex (hi : Int) = true := by simp only [Builtin.List.listFitsIndex, Bool.and_eq_true, decide_eq_true_eq]; omega
    k_steps
    refine ins_ret hret (by assumption) (by assumption) ?_
    rw [insL_at l hi h2 (fun i q a b => h4 i q a b) (fun i q a b => h5 i q a b)]
    exact congrArg List.toArray (kl_ins_at h2)

set_option maxHeartbeats 8000000 in
theorem insRg (w : World) (v : Value) (d : Int) (hK : Key v d) (l : List (Int × Value)) (hl : l.length ≤ 1000) (hKs : ∀ q ∈ l, Key q.2 q.1) (hs : l.Pairwise fun a b => a.1 ≤ b.1) : InsTells w 53 (l.map (·.2)) v ((insR (d, v) l).map (·.2)) := by
  unfold InsTells
  k_fill
  intro p loose mean mg mb dp un gd cn cs a ccd cl outer A₀ base h₀ L m news D ep s Q E B F X N hne T hk hd hu hret
  have hsz : (((l.map (·.2)).toArray.size : Nat) : Int) = (l.length : Int) := by simp
  have hln : (l.length : Int) ≤ 16384 := by omega
  have hroom : (l.map (·.2)).toArray.toList.length ≤ sizeLine := by rw [sizeLine_eq]; simp; omega
  have hM : BMark l D d (fun z => z ≤ d) := trivial
  refine wpAny_call ?_
  k_dflt (walk_at "mine:enter")
  k_steps
  case kJ =>
    refine ⟨_, 0, l.length, _, _, _, rfl, rfl, rfl, rfl, rfl, Nat.zero_le _, Nat.le_refl _, rfl, fun i q hi => absurd hi (Nat.not_lt_zero _), fun i q hi hq => ?_⟩
    have := (List.getElem?_eq_some_iff.mp hq).1
    omega
  unfold Held
  intro n m₁ h₁ tk₁ P F₁ N₁ hJ hnext hbrk
  obtain ⟨lo, hi, tlo, thi, tx, ja, jx, jk, jl, jh, h1, h2, h3, h4, h5⟩ := hJ
  k_steps
  by_cases hlt : (lo : Int) < (hi : Int)
  · refine WhlIf.yes (decide_eq_true hlt) ?_
    obtain ⟨M, eM, hM1, hM2⟩ := mid_facts (lo := lo) (hi := hi) (by omega) (by omega)
    have s0 : 0 ≤ ((lo : Int) + (hi : Int)).fdiv 2 := by rw [eM]; omega
    have s1 : ((lo : Int) + (hi : Int)).fdiv 2 < 2 ^ 63 := by rw [eM]; omega
    obtain ⟨q, hq⟩ : ∃ q, l[M]? = some q := ⟨l[M]'(by omega), List.getElem?_eq_getElem _⟩
    have sx : (List.map (fun x : Int × Value => x.2) l)[(((lo : Int) + (hi : Int)).fdiv 2).toNat]? = some q.2 := by rw [eM, Int.toNat_natCast, List.getElem?_map, hq]; rfl
    have hqK : Key q.2 q.1 := hKs q (List.mem_of_getElem? hq)
    have srt : ∀ (i j : Nat) (qi qj : Int × Value), i ≤ j → l[i]? = some qi → l[j]? = some qj → qi.1 ≤ qj.1 := fun i j qi qj hij hi hj => row_mono hs hij hi hj
    k_steps
    · refine' hnext (M - lo) _ _ _ ?n2 ?F2 ?N2 ?J2
      case F2 => assumption
      case N2 => assumption
      case n2 => omega
      case J2 =>
        refine' ⟨lo, M, tlo, _, tx, ja, jx, jk, jl, ?i1, hM1, ?i2, rfl, h4, ?i3⟩
        case i1 =>
          show some (Value.int _ _) = _
          rw [eM]
        case i2 => omega
        case i3 =>
          intro i q' a b
          have := srt M i q q' a hq b
          show ¬ q'.1 ≤ d
          omega
    · refine' hnext (hi - (M + 1)) _ _ _ ?n1 ?F1 ?N1 ?J1
      case F1 => assumption
      case N1 => assumption
      case n1 => omega
      case J1 =>
        refine' ⟨M + 1, hi, _, thi, tx, ja, jx, jk, ?j1, jh, ?j2, h2, rfl, ?j3, h5⟩
        case j1 =>
          show some (Value.int _ _) = _
          rw [eM]
          rfl
        case j2 => omega
        case j3 =>
          intro i q' a b
          have := srt i M q' q (by omega) b hq
          show q'.1 ≤ d
          omega
  · refine WhlIf.no (decide_eq_false hlt) ?_
    have e : hi = lo := by omega
    subst e
    have hfit : Builtin.List.listFitsIndex (hi : Int) = true := by simp only [Builtin.List.listFitsIndex, Bool.and_eq_true, decide_eq_true_eq]; omega
    k_steps
    refine ins_ret hret (by assumption) (by assumption) ?_
    rw [insR_at l hi h2 (fun i q a b => h4 i q a b) (fun i q a b => h5 i q a b)]
    exact congrArg List.toArray (kl_ins_at h2)
end Mine

-- part C3
namespace Mine
open PySem PySem.W PySem.Calls PyProof.Rows
set_option Elab.async false
set_option maxRecDepth 100000

def StrTells (w : World) (f : Addr) (vs : List Value) (r : Str) : Prop :=
  ∀ (p : Program) (loose : List Str) (mean : ExcName → Option Value) (mg mb : Str → Option Value) (dp un : Nat) (gd : Option (List Code)) (cn : Str) (cs : Scope) (a : Addr) (ccd : Value) (cl : List (Str × Addr)) (outer : List Env) (A₀ : Around) (base h₀ : Heap) (L : Addr) (m : Str → Option Value) (news : List (Addr × Obj)) (s : Shared)
    (Q E : Value → Shared → Prop),
    Below A₀ base outer h₀ → Fr h₀ L s.heap m → (Mine.hd.heap_39 w.params).In h₀ → News h₀ L s.heap news → Top p loose mean mg mb h₀ → cs.kind = .function → dp + 1 < recursionLimit → un + 8 < cLine →
    (∀ (t : Tok) (h' : Heap) (tk' : Nat), Fr h₀ L h' m → News h₀ L h' news → Q (.str r t) { s with heap := h', toks := tk' }) →
    wpAny (model Challenge.rw_wy0015_01.row.prog w) (ktrTop dp un gd cn cs L a ccd cl outer) (call (.ref f) vs) Q E s

/-- what the name reads: up to the first lone mark, two marks being one -/
def pl : List Nat → List Nat
  | [] => []
  | [c] => if c = 34 then [] else [c]
  | c :: y :: r => if c = 34 then (if y = 34 then 34 :: pl r else []) else c :: pl (y :: r)

theorem item_at {x : Str} {i : Int} (h0 : 0 ≤ i) (h1 : i < x.length) : ∃ c, Txt.item x i = ⟨#[c]⟩ ∧ x.cps.toList.drop i.toNat = c :: x.cps.toList.drop (i + 1).toNat := by
  have hl : i.toNat < x.cps.toList.length := by
    have : x.cps.toList.length = x.length := Array.length_toList
    omega
  refine ⟨x.cps.toList[i.toNat], ?_, ?_⟩
  · have h2 : i.toNat < x.cps.size := hl
    have h3 : ¬ i < 0 := by omega
    have h4 : i < (x.cps.size : Int) := by omega
    unfold Txt.item Txt.charAt
    simp [seqIndex?, h3, h0, h4, h2, Str.length]
  · have : (i + 1).toNat = i.toNat + 1 := by omega
    rw [this]
    exact List.drop_eq_getElem_cons hl
theorem mark_eq {c : Nat} : ((⟨#[c]⟩ : Str) == Str.ofString "\"") = decide (c = 34) := by
  have e : Str.ofString "\"" = ⟨#[34]⟩ := by decide +kernel
  rw [e]
  by_cases h : c = 34
  · subst h; simp
  · rw [decide_eq_false h]
    apply beq_false_of_ne
    intro q
    apply h
    simpa using q
section
variable {x r d : Str} {i : Int}
theorem leaf_end (h1 : ¬ i < x.length) (hp : d.cps.toList ++ pl (x.cps.toList.drop i.toNat) = r.cps.toList) : d = r := by
  have : x.cps.toList.drop i.toNat = [] := by
    have : x.cps.toList.length = x.length := Array.length_toList
    apply List.drop_eq_nil_of_le; omega
  rw [this] at hp
  apply Str.ext'
  simpa [pl] using hp
theorem leaf_brk1 (h0 : 0 ≤ i) (h1 : i < x.length) (hq : (Txt.item x i == Str.ofString "\"") = true) (h2 : (x.length : Int) ≤ i + 1) (hp : d.cps.toList ++ pl (x.cps.toList.drop i.toNat) = r.cps.toList) : d = r := by
  obtain ⟨c, e, e2⟩ := item_at h0 h1
  rw [e, mark_eq, decide_eq_true_eq] at hq
  have : x.cps.toList.drop (i + 1).toNat = [] := by
    have : x.cps.toList.length = x.length := Array.length_toList
    apply List.drop_eq_nil_of_le; omega
  rw [e2, this, hq] at hp
  apply Str.ext'
  simpa [pl] using hp
theorem leaf_brk2 (h0 : 0 ≤ i) (h1 : i < x.length) (hq : (Txt.item x i == Str.ofString "\"") = true) (h2 : ¬ (x.length : Int) ≤ i + 1) (hq2 : (Txt.item x (i + 1) != Str.ofString "\"") = true) (hp : d.cps.toList ++ pl (x.cps.toList.drop i.toNat) = r.cps.toList) : d = r := by
  obtain ⟨c, e, e2⟩ := item_at h0 h1
  obtain ⟨c', e', e2'⟩ := item_at (x := x) (i := i + 1) (by omega) (by omega)
  rw [e, mark_eq, decide_eq_true_eq] at hq
  rw [e', bne, mark_eq] at hq2
  have hc : ¬ c' = 34 := by simpa using hq2
  rw [e2, e2', hq] at hp
  apply Str.ext'
  simpa [pl, hc] using hp
theorem leaf_two (h0 : 0 ≤ i) (h1 : i < x.length) (hq : (Txt.item x i == Str.ofString "\"") = true) (h2 : ¬ (x.length : Int) ≤ i + 1) (hq2 : (Txt.item x (i + 1) != Str.ofString "\"") = false) (hp : d.cps.toList ++ pl (x.cps.toList.drop i.toNat) = r.cps.toList) :
    (d ++ Txt.item x i).cps.toList ++ pl (x.cps.toList.drop (i + 1 + 1).toNat) = r.cps.toList := by
  obtain ⟨c, e, e2⟩ := item_at h0 h1
  obtain ⟨c', e', e2'⟩ := item_at (x := x) (i := i + 1) (by omega) (by omega)
  rw [e, mark_eq, decide_eq_true_eq] at hq
  rw [e', bne, mark_eq] at hq2
  have hc : c' = 34 := by simpa using hq2
  rw [e2, e2', hq, hc] at hp
  rw [← hp, e, hq]
  simp [pl, Str.cps_append]
theorem leaf_one (h0 : 0 ≤ i) (h1 : i < x.length) (hq : (Txt.item x i == Str.ofString "\"") = false) (hp : d.cps.toList ++ pl (x.cps.toList.drop i.toNat) = r.cps.toList) :
    (d ++ Txt.item x i).cps.toList ++ pl (x.cps.toList.drop (i + 1).toNat) = r.cps.toList := by
  obtain ⟨c, e, e2⟩ := item_at h0 h1
  rw [e, mark_eq, decide_eq_false_iff_not] at hq
  rw [e2] at hp
  rw [← hp, e]
  cases x.cps.toList.drop (i + 1).toNat with
  | nil => simp [pl, hq, Str.cps_append]
  | cons y r => simp [pl, hq, Str.cps_append]
end

/-- the frame of the loop -/
abbrev mm (c : Option Value) (i : Int) (ti : Tok) (d : Str) (td : Tok) (x : Str) (t : Tok) (n : Int) (tn : Tok) (z : Str) : Option Value :=
  if z = Str.ofString "c" then c else if z = Str.ofString "i" then some (.int i ti) else if z = Str.ofString "dirname" then some (.str d td) else if z = Str.ofString "n" then some (.int n tn) else if z = Str.ofString "resp" then some (.str x t) else none
theorem Fr_eq {g h : Heap} {L : Addr} {m m' : Str → Option Value} (F : Fr g L h m) (e : ∀ z, m z = m' z) : Fr g L h m' := by
  have : m = m' := funext e
  rw [← this]; exact F

def JJ (x : Str) (t : Tok) (r : Str) (n : Nat) (m : Str → Option Value) : Prop :=
  ∃ c i ti d td tn, m = mm c i ti d td x t x.length tn ∧ 5 ≤ i ∧ i ≤ x.length ∧ d.length ≤ i ∧ n = (x.length - i).toNat ∧ d.cps.toList ++ pl (x.cps.toList.drop i.toNat) = r.cps.toList

theorem off_C3 : True := by w_top off; trivial


local macro_rules | `(tactic| walk_at "mine:enter") => `(tactic| (refine' code_def ?k1 ?k2 ?k3 ?k4 ?k5 ?kA ?kF ?kK ?k6 ?k7 ?k8 ?k9 ?kB ?_ ?c2 ?c3 ?c4 ?c5; (case kA => exact rfl); (case kF => exact rfl); (case kK => first | exact rfl | assumption); (case k1 => k_asm); (case k2 => k_asm); (case k3 => k_asm); (case k4 => k_asm); (case k5 => k_asm); (case k6 => k_is); (case k7 => k_is); (case k8 => ktr_room); (case k9 => first | exact BindsTo.of_eq rfl | exact binds_K (by k_in) rfl (by k_is) rfl rfl rfl); (case c5 => decide); (case kB => exact locs rfl); (case c2 => exact rfl); (case c3 => exact rfl); (case c4 => exact rfl); k_whole; intro g' L' h' FG' F' N' B' X' T'; (try dsimp only); (try k_lift B'); (try k_fold)))

def JMark (_x : Str) (_t : Tok) (_r : Str) : Prop := True
theorem While_JJ {prog : Program} {w : World} {A : Around} {E : Value → Shared → Prop} {Q : Flow → Shared → Prop} {s : Shared} {env : Env} {h₀ : Heap} {L : Addr} {test : Expr} {body : List Stmt} {pos : Pos} {m : Str → Option Value} {news : List (Addr × Obj)} {x r : Str} {t : Tok}
    (_k : JMark x t r) (hE : PassesOwn (model prog w) A env E) (F : Fr h₀ L s.heap m) (N : News h₀ L s.heap news) (hJ : Held (∃ n, JJ x t r n m))
    (turn : Held (∀ n m₁ h₁ tk₁ (P : Flow → Shared → Prop), Fr h₀ L h₁ m₁ → News h₀ L h₁ news → JJ x t r n m₁ →
      (∀ n' m' h' tk', n' < n → Fr h₀ L h' m' → News h₀ L h' news → JJ x t r n' m' → P .next { s with heap := h', toks := tk' }) → (∀ s', Q .next s' → P .brk s') →
      wpAny (model prog w) A (isTrue test env (eval test env)) (fun b s₂ => WhlIf b (wpAny (model prog w) A (execs body env) P E s₂) (Q .next s₂)) E { s with heap := h₁, toks := tk₁ })) :
    wpAny (model prog w) A (exec (.While test body [] pos) env) Q E s := by
  obtain ⟨n, hJ⟩ := hJ
  exact While_J (JJ x t r) hE F N hJ turn

local macro_rules | `(tactic| walk_at "exec While Compare cons nil") => `(tactic| (k_here; k_dflt (refine' While_JJ ?kM ?kE ?kF ?kN ?kJ ?_; (case kM => assumption); (case kE => first | passes_own | with_unfolding_all passes_own); (case kF => k_asm); (case kN => k_asm))))

set_option maxHeartbeats 8000000 in
theorem parse1 (w : World) (x r : Str) (t : Tok) (hz : x.length ≤ 1000000) (h5 : 5 ≤ x.length) (e1 : (Txt.slice x none (some 3) != Str.ofString "257") = false) (e2 : (Txt.slice x (some 3) (some 5) != Str.ofString " \"") = false) (hr : pl (x.cps.toList.drop 5) = r.cps.toList) : StrTells w 112 [.str x t] r := by
  unfold StrTells
  k_fill
  intro p loose mean mg mb dp un gd cn cs a ccd cl outer A₀ base h₀ L m news s Q E B F X N T hk hd hu hret
  refine wpAny_call ?_
  have hM : JMark x t r := trivial
  k_dflt (walk_at "mine:enter")
  k_steps
  case kJ =>
    refine' ⟨_, none, 5, _, Str.ofString "", _, _, ?km, Int.le_refl _, ?k5, ?kd, rfl, ?kp⟩
    case km =>
      funext z
      by_cases h1 : z = Str.ofString "c"
      · subst h1; rfl
      by_cases h2 : z = Str.ofString "i"
      · subst h2; rfl
      by_cases h3 : z = Str.ofString "dirname"
      · subst h3; rfl
      by_cases h4 : z = Str.ofString "n"
      · subst h4; rfl
      by_cases h6 : z = Str.ofString "resp"
      · subst h6; rfl
      simp only [mm, if_neg h1, if_neg h2, if_neg h3, if_neg h4, if_neg h6]
      show List.lookup z [(Str.ofString "resp", Value.str x t)] = none
      have hb : (z == Str.ofString "resp") = false := beq_false_of_ne h6
      simp only [List.lookup, hb]
    case k5 => omega
    case kd => decide
    case kp => exact hr
  unfold Held
  intro n m₁ h₁ tk₁ P F₁ N₁ hJ hnext hbrk
  obtain ⟨c, i, ti, d, td, tn, rfl, h5i, hin, hdl, rfl, hpl⟩ := hJ
  k_steps
  by_cases hlt : i < x.length
  · refine WhlIf.yes (decide_eq_true hlt) ?_
    k_steps
    · refine (hbrk _ ?_ : P Flow.brk _)
      k_steps
      refine' cb_retS (Q := Q) hret ?e1 ?e2 ?e3
      case e2 => assumption
      case e3 => assumption
      case e1 => exact leaf_brk1 (by omega) hlt (by assumption) (by assumption) hpl
    · refine (hbrk _ ?_ : P Flow.brk _)
      k_steps
      refine' cb_retS (Q := Q) hret ?e1 ?e2 ?e3
      case e2 => assumption
      case e3 => assumption
      case e1 => exact leaf_brk2 (by omega) hlt (by assumption) (by assumption) (by assumption) hpl
    · refine' hnext _ (mm _ _ _ _ _ x t x.length tn) _ _ ?kn (Fr_eq (by assumption) ?km) (by assumption) ⟨_, _, _, _, _, _, rfl, ?k5, ?kl, ?kd, rfl, leaf_two (by omega) hlt (by assumption) (by assumption) (by assumption) hpl⟩
      case km =>
        intro z
        by_cases h1 : z = Str.ofString "c"
        · subst h1; rfl
        by_cases h2 : z = Str.ofString "i"
        · subst h2; rfl
        by_cases h3 : z = Str.ofString "dirname"
        · subst h3; rfl
        simp only [mm, if_neg h1, if_neg h2, if_neg h3]
      all_goals omega
    · refine' hnext _ (mm _ _ _ _ _ x t x.length tn) _ _ ?kn2 (Fr_eq (by assumption) ?km2) (by assumption) ⟨_, _, _, _, _, _, rfl, ?k52, ?kl2, ?kd2, rfl, leaf_one (by omega) hlt (by assumption) hpl⟩
      case km2 =>
        intro z
        by_cases h1 : z = Str.ofString "c"
        · subst h1; rfl
        by_cases h2 : z = Str.ofString "i"
        · subst h2; rfl
        by_cases h3 : z = Str.ofString "dirname"
        · subst h3; rfl
        simp only [mm, if_neg h1, if_neg h2, if_neg h3]
      all_goals omega
  · refine WhlIf.no (decide_eq_false hlt) ?_
    k_steps
    refine' cb_retS (Q := Q) hret ?e1 ?e2 ?e3
    case e2 => assumption
    case e3 => assumption
    case e1 => exact leaf_end hlt hpl
end Mine

-- part C4
namespace Mine
open PySem PySem.W PySem.Calls PyProof.Rows
set_option Elab.async false
set_option maxRecDepth 100000

theorem off_C4 : True := by w_top off; trivial


local macro_rules | `(tactic| walk_at "mine:enter") => `(tactic| (refine' code_def ?k1 ?k2 ?k3 ?k4 ?k5 ?kA ?kF ?kK ?k6 ?k7 ?k8 ?k9 ?kB ?_ ?c2 ?c3 ?c4 ?c5; (case kA => exact rfl); (case kF => exact rfl); (case kK => first | exact rfl | assumption); (case k1 => k_asm); (case k2 => k_asm); (case k3 => k_asm); (case k4 => k_asm); (case k5 => k_asm); (case k6 => k_is); (case k7 => k_is); (case k8 => ktr_room); (case k9 => first | exact BindsTo.of_eq rfl | exact binds_K (by k_in) rfl (by k_is) rfl rfl rfl); (case c5 => decide); (case kB => exact locs rfl); (case c2 => exact rfl); (case c3 => exact rfl); (case c4 => exact rfl); k_whole; intro g' L' h' FG' F' N' B' X' T'; (try dsimp only); (try k_lift B'); (try k_fold)))

set_option maxHeartbeats 8000000 in
theorem parse2 (w : World) (x : Str) (t : Tok) (hz : x.length ≤ 1000000) (e1 : (Txt.slice x none (some 3) != Str.ofString "257") = false) (e2 : (Txt.slice x (some 3) (some 5) != Str.ofString " \"") = true) : StrTells w 112 [.str x t] (Str.ofString "") := by
  unfold StrTells
  k_fill
  intro p loose mean mg mb dp un gd cn cs a ccd cl outer A₀ base h₀ L m news s Q E B F X N T hk hd hu hret
  refine wpAny_call ?_
  k_dflt (walk_at "mine:enter")
  k_steps
  all_goals (refine' cb_retS (Q := Q) hret ?e1 ?e2 ?e3; (case e2 => assumption); (case e3 => assumption); (case e1 => rfl))

def runS (i : Int) : Str := if i = 0 then Str.ofString ")\"\"[{'\\('\\" else Txt.mul (Str.ofString "(") i ++ Txt.mul (Str.ofString ")") (-i) ++ Str.ofString "\\"
set_option maxHeartbeats 8000000 in
theorem run1 (w : World) (i : Int) (t : Tok) (h1 : -20 ≤ i) (h2 : i ≤ 20) : StrTells w 126 [.int i t] (runS i) := by
  unfold StrTells
  k_fill
  intro p loose mean mg mb dp un gd cn cs a ccd cl outer A₀ base h₀ L m news s Q E B F X N T hk hd hu hret
  refine wpAny_call ?_
  k_dflt (walk_at "mine:enter")
  k_steps
  · refine' cb_retS (Q := Q) hret ?e1 ?e2 ?e3
    case e2 => assumption
    case e3 => assumption
    case e1 => rw [runS, if_pos (by assumption)]
  · refine' cb_retS (Q := Q) hret ?f1 ?f2 ?f3
    case f2 => assumption
    case f3 => assumption
    case f1 => rw [runS, if_neg (by assumption)]

def LabTells (w : World) (vs : List Value) (a b : Str) (i : Int) : Prop :=
  ∀ (p : Program) (loose : List Str) (mean : ExcName → Option Value) (mg mb : Str → Option Value) (dp un : Nat) (gd : Option (List Code)) (cn : Str) (cs : Scope) (fa : Addr) (ccd : Value) (cl : List (Str × Addr)) (outer : List Env) (A₀ : Around) (base h₀ : Heap) (L : Addr) (m : Str → Option Value) (news : List (Addr × Obj)) (s : Shared)
    (Q E : Value → Shared → Prop),
    Below A₀ base outer h₀ → Fr h₀ L s.heap m → (Mine.hd.heap_39 w.params).In h₀ → News h₀ L s.heap news → Top p loose mean mg mb h₀ → cs.kind = .function → dp + 1 < recursionLimit → un + 8 < cLine →
    (∀ (T : Addr) (t1 t2 t3 : Tok) (h' : Heap) (tk' : Nat), Fr h₀ L h' m → News h₀ L h' ((T, ({ cls := .type "tuple", data := .seq #[.str a t1, .str b t2, .int i t3] 0 } : Obj)) :: news) → (∀ p ∈ news, p.1 < T) → Q (.ref T) { s with heap := h', toks := tk' }) →
    wpAny (model Challenge.rw_wy0015_01.row.prog w) (ktrTop dp un gd cn cs L fa ccd cl outer) (call (.ref 119) vs) Q E s


def labS (k : Int) (c : Str) : Str :=
  if k = 0 then Str.ofString "\" " ++ c ++ Str.ofString " \"" else if k = 1 then Str.ofString "\"" ++ c ++ Str.ofString "\"\"(\"" else if k = 2 then Str.ofString "\"))\\" ++ c ++ Str.ofString "\""
  else if k = 3 then Str.ofString "\"" ++ c ++ Str.ofString "(\\\"((\"" else Str.ofString "\"" ++ c ++ Str.ofString "(\\\\\""
def nameS (k : Int) (c : Str) : Str :=
  if k = 0 then Str.ofString " " ++ c ++ Str.ofString " " else if k = 1 then c ++ Str.ofString "\"(" else if k = 2 then Str.ofString "))\\" ++ c
  else if k = 3 then c ++ Str.ofString "(\\" else c ++ Str.ofString "(\\\\"
def moreI (k : Int) : Int := if k = 0 then 0 else if k = 1 then 1 else if k = 2 then -2 else if k = 3 then 3 else 1

theorem lab_ret {h₀ h' : Heap} {L T : Addr} {m : Str → Option Value} {news : List (Addr × Obj)} {s : Shared} {Q : Value → Shared → Prop} {a b a' b' : Str} {i i' : Int} {t1 t2 t3 : Tok} {k : Nat}
    (hret : ∀ (T : Addr) (t1 t2 t3 : Tok) (h' : Heap) (tk' : Nat), Fr h₀ L h' m → News h₀ L h' ((T, ({ cls := .type "tuple", data := .seq #[.str a t1, .str b t2, .int i t3] 0 } : Obj)) :: news) → (∀ p ∈ news, p.1 < T) → Q (.ref T) { s with heap := h', toks := tk' })
    (F : Fr h₀ L h' m) (N : News h₀ L h' ((T, ({ cls := .type "tuple", data := .seq #[.str a' t1, .str b' t2, .int i' t3] 0 } : Obj)) :: news)) (l : ∀ p ∈ news, p.1 < T) (ea : a' = a) (eb : b' = b) (ei : i' = i) : Q (.ref T) { s with heap := h', toks := k } := by
  subst ea eb ei
  exact hret T t1 t2 t3 h' k F N l

set_option maxHeartbeats 8000000 in
theorem lab1 (w : World) (c : Str) (k : Int) (t u : Tok) (hc : c.length ≤ 1) : LabTells w [.str c t, .int k u] (labS k c) (nameS k c) (moreI k) := by
  unfold LabTells
  k_fill
  intro p loose mean mg mb dp un gd cn cs fa ccd cl outer A₀ base h₀ L m news s Q E B F X N T hk hd hu hret
  refine wpAny_call ?_
  k_dflt (walk_at "mine:enter")
  k_steps
  all_goals (refine lab_ret hret (by assumption) (by assumption) (by assumption) ?_ ?_ ?_ <;> simp only [labS, nameS, moreI, *, if_true, if_false, ne_eq, not_false_eq_true, if_neg] <;> first | done | rfl)
end Mine

-- part C5a
namespace Mine
open PySem PySem.W PySem.Calls PySem.Builtin PyProof.Rows
set_option Elab.async false
set_option maxRecDepth 100000

/-- an exception of the text's own class, its words being one text -/
def ExcOwn (h : Heap) (e : Addr) (m : Str) (tk : Tok) : Prop := ∃ (o : Obj) (vs : Array Value) (t : Addr) (ot : Obj) (n : Nat), h.get? e = some o ∧ o.cls = .ref 103 ∧ o.data = .fields vs ∧ vs[0]? = some (.ref t) ∧ h.get? t = some ot ∧ ot.cls = .type "tuple" ∧ ot.data = .seq #[.str m tk] n

section
variable {w : World} {A : Around} {E : Value → Shared → Prop} {s : Shared} {e : Addr} {m : Str} {tk : Tok}
theorem bexc_own {M : Model} {Q : Fin → Shared → Prop} (x : ExcOwn s.heap e m tk) (hq : Q (.done (.ret (.str m tk))) s) : wpAny M A (Builtin.«BaseException.__str__» ⟨[.ref e], []⟩) Q E s := by
  obtain ⟨o, vs, t, ot, n, ho, hc, hd, h0, hto, htc, htd⟩ := x
  unfold Builtin.«BaseException.__str__»
  have args : ∀ {Q : Value × List Value → Shared → Prop}, Q (.ref t, [.str m tk]) s → wpAny M A (BaseException.bexcArgs (.ref e)) Q E s := by
    intro Q hq
    unfold BaseException.bexcArgs
    exact wpAny_bind (wpAny_field ho hd h0 (wpAny_bind (wpAny_seqItems hto htd (wpAny_pure hq))))
  repeat (first | with_reducible refine args ?_ | wp_step)
  exact hq

theorem looks_str {M : Model} {h : Heap} (X : (Mine.hd.heap_39 w.params).In h) (x : ExcOwn h e m tk) : Looks M h (specialOf (.ref e) "__str__") (some (.builtin "BaseException.__str__")) := by
  obtain ⟨o, vs, t, ot, n, ho, hc, _⟩ := x
  have L : Looks M h (typeOf (.ref e)) (.ref 103) := hc ▸ (Looks.ld ho).andThen .now
  exact L.andThen (looks_findIn X (by kernel_rfl))
theorem looks_isExc {M : Model} {h : Heap} (X : (Mine.hd.heap_39 w.params).In h) (x : ExcOwn h e m tk) : Looks M h (isInstance (.ref e) (.type "BaseException")) true := by
  obtain ⟨o, vs, t, ot, n, ho, hc, _⟩ := x
  have L : Looks M h (typeOf (.ref e)) (.ref 103) := hc ▸ (Looks.ld ho).andThen .now
  exact L.andThen (looks_subIn X (by kernel_rfl))

theorem call_own {prog : Program} {w' : World} {Q : Value → Shared → Prop} (X : (Mine.hd.heap_39 w.params).In s.heap) (x : ExcOwn s.heap e m tk) (hq : Q (.str m tk) s) :
    wpAny (model prog w') A (call (.builtin "BaseException.__str__") [.ref e]) Q E s := by
  refine wpAny_call (codeAny_call_builtin PySem.F.excStr_Exception.str.plain F.entry_bexc_str ?_)
  have fin : wpAny (model prog w') A.in1 (Builtin.«BaseException.__str__» ⟨[.ref e], []⟩) (fun fin s' => match fin with
      | .done f => (match (Except.ok f : Result) with | .ok (.ret v) => Q v s' | .ok _ => False | .error e => E e s')
      | .again c' => c'.quiet = true ∧ codeAny (model prog w') A c' (fun r s' => match r with | .ok (.ret v) => Q v s' | .ok _ => False | .error e => E e s') s') (fun e s' => E e s') s := bexc_own x hq
  have hk : builtinKind "BaseException.__str__" = some .slot ∨ builtinKind "BaseException.__str__" = some .method := by first | exact .inl (by decide +kernel) | exact .inr (by decide +kernel)
  have hsp : splitId "BaseException.__str__" = some ("BaseException", "__str__") := by decide +kernel
  have ha := F.args_bexc_str (.ref e)
  rcases hk with h | h <;>
  · simp only [checkBuiltinCall, h, hsp]
    refine wpAny_bind ((looks_isExc X x).here ?_)
    simp only [Bool.not_true, Bool.false_eq_true, if_false]
    cases hsig : Manifest.signature? "BaseException.__str__" with
    | none => exact wpAny_pure fin
    | some sig =>
      simp only [argsOk, hsig] at ha
      have h2 : Bind.checkArgs "BaseException.__str__" sig ⟨[.ref e], []⟩ = pure () := ha
      show wpAny _ _ (Bind.checkArgs "BaseException.__str__" sig ⟨[.ref e], []⟩) _ _ s
      rw [h2]; exact wpAny_pure fin

theorem strOf_own {prog : Program} {w' : World} {Q : Value → Shared → Prop} (X : (Mine.hd.heap_39 w.params).In s.heap) (x : ExcOwn s.heap e m tk) (hu : A.units < cLine) (hq : Q (.str m tk) s) :
    wpAny (model prog w') A (Builtin.Str.strOf (.ref e)) Q E s := by
  have sp : ∀ {Q : Option Value → Shared → Prop}, Q (some (.str m tk)) s → wpAny (model prog w') A (callSpecial? (.ref e) "__str__") Q E s := by
    intro Q hq
    unfold callSpecial?
    refine wpAny_bind ((looks_str X x).here ?_)
    refine wpAny_holding ?_
    rw [PySem.F.excStr_Exception.str.bind]
    refine wpAny_bind (wpAny_pure ?_)
    exact wpAny_bind (call_own X x (wpAny_pure hq))
  unfold Builtin.Str.strOf
  repeat (first | with_reducible refine wpAny_cRoomFor hu ?_ | with_reducible refine sp ?_ | wp_step)
  exact hq

theorem str_own {prog : Program} {w' : World} {Q : Value → Shared → Prop} (X : (Mine.hd.heap_39 w.params).In s.heap) (x : ExcOwn s.heap e m tk) (hu : A.units + 2 < cLine) (hq : Q (.str m tk) s) :
    wpAny (model prog w') A (call (.type "str") [.ref e]) Q E s :=
  callType_new F.called_str (by decide) (F.typeCall_str_1 _) (F.newCall_str_1 _) (fun obj => F.args_object_init_2 obj _) F.entry_str_new
    (meets_str_new (S := fun A' R s' => A'.units + 1 < cLine ∧ (Mine.hd.heap_39 w.params).In s'.heap ∧ ExcOwn s'.heap e m tk ∧ R (.ok (.ret (.str m tk))) s')
      fun _ _ A' _ _ hq => strOf_own (A := A'.in1) hq.2.1 hq.2.2.1 hq.1 hq.2.2.2)
    ⟨(show A.units + 1 + 1 < cLine from hu), X, x, typeIs_str _ _ _, hq⟩
end
end Mine

-- part C5
namespace Mine
open PySem PySem.W PySem.Calls PyProof.Rows
set_option Elab.async false
set_option maxRecDepth 100000

theorem off_C5 : True := by w_top off; trivial


local macro_rules | `(tactic| walk_at "mine:enter") => `(tactic| (refine' code_def ?k1 ?k2 ?k3 ?k4 ?k5 ?kA ?kF ?kK ?k6 ?k7 ?k8 ?k9 ?kB ?_ ?c2 ?c3 ?c4 ?c5; (case kA => exact rfl); (case kF => exact rfl); (case kK => first | exact rfl | assumption); (case k1 => k_asm); (case k2 => k_asm); (case k3 => k_asm); (case k4 => k_asm); (case k5 => k_asm); (case k6 => k_is); (case k7 => k_is); (case k8 => ktr_room); (case k9 => first | exact BindsTo.of_eq rfl | exact binds_K (by k_in) rfl (by k_is) rfl rfl rfl); (case c5 => decide); (case kB => exact locs rfl); (case c2 => exact rfl); (case c3 => exact rfl); (case c4 => exact rfl); k_whole; intro g' L' h' FG' F' N' B' X' T'; (try dsimp only); (try k_lift B'); (try k_fold)))
local macro_rules | `(tactic| walk_at "call ref") => `(tactic| (k_here; (refine wpAny_call ?_); k_dflt (walk_at "mine:enter")))


/-- a def with a try of its own, called from the law's frame: whatever cells that frame has -/
theorem enter_try {prog : Program} {w : World} {A₀ A : Around} {s : Shared} {base h₀ : Heap} {L : Addr} {m : Str → Option Value} {env : Env} {news : List (Addr × Obj)} {K : Frag} {p : Program} {loose : List Str} {mean : ExcName → Option Value} {mg mb : Str → Option Value}
    {R : Result → Shared → Prop} {name qual : Str} {params : Arguments} {body : List Stmt} {scope : Scope} {dV kV doc pm cdv ct oc : Value} {an od : Option Addr} {osl : Array (Option Value)} {f : Addr} {args : Args} {binds : List (Str × Value)}
    (B : Below A₀ base [] h₀) (F : Fr h₀ L s.heap m) (X₀ : K.In h₀) (N : News h₀ L s.heap news) (T : Top p loose mean mg mb h₀) (hA : A.frames = some [env]) (hf : env.frame = some L) (hke : env.scope.kind = .function)
    (ho : K.lookup f = some ⟨oc, od, .func (fnOf name qual params body scope dV kV doc pm an cdv ct), osl⟩) (hcd : codeIn K cdv qual = true) (hroom : A.depth < recursionLimit)
    (hbind : BindsTo s (fnOf name qual params body scope dV kV doc pm an cdv ct) args binds) (hloc : ∀ y ∈ binds, scope.names.lookup y.1 = some .local)
    (h : ∀ g L' h₁, Fr h₀ L g m → Fr g L' h₁ (fun y => binds.reverse.lookup y) → News g L' h₁ news → Below A base [env] g → K.In g → Top p loose mean mg mb g → KtsDicts ([env].filterMap (·.frame)) g →
      wpAny (model prog w) (A.deeper (envOf qual scope L' f cdv)) (execs body (envOf qual scope L' f cdv))
        (fun fl s' => LeaveS0 ([env].filterMap (·.frame)) h₀ L m g R (match fl with | .ret v => v | _ => .none) s')
        (fun e s' => wpAny (model prog w) (A.deeper (envOf qual scope L' f cdv)) (leaving (envOf qual scope L' f cdv) e) (fun _ s'' => R (.error e) s'') (fun e' s'' => R (.error e') s'') s')
        { s with heap := h₁, toks := s.toks + binds.length })
    (hco : scope.isCoroutine = false) (hgen : scope.isGenerator = false) (hk : scope.kind = .function)
    (hcell : ∀ x ∈ scope.names, x.2 ≠ .cell) : codeAny (model prog w) A (.call (.ref f) args) R s := by
  have X := X₀.keeps F.keep
  obtain ⟨FG, BG, st, -⟩ := groundX (R := R) B F N hA hf hke
  have hfs : [env].filterMap (·.frame) = [L] := by simp [hf]
  obtain ⟨oL, es, ep, hLg, hLd, hLk, hLf⟩ := FG.ns
  refine codeAny_call_def (fd := fnOf name qual params body scope dV kV doc pm an cdv ct) (body := body) (binds := binds) hroom (X _ _ ho) rfl (T.nolimit.keeps F.keep) (codeRec_of X hcd) rfl hbind hcell hloc (fun h₁ hns hk₁ => ?_) hco hgen hk
  refine wpAny_mono (h _ s.heap.objs.size h₁ FG ⟨hns, fun b o e => hk₁ b o (of_hideAll _ e), Nat.le_of_eq (hideAll_size _ _)⟩
    (fun q hq => ⟨hk₁ _ _ (N q hq).1, Nat.ne_of_lt (Heap.lt_size (N q hq).1), hideAll_none _ (List.mem_map_of_mem hq)⟩) BG (X₀.keeps st) (T.keeps st) (fun b hb => ?_)) (fun fl s' hl => ?_) fun _ _ y => y
  · rw [hfs] at hb
    rw [List.mem_singleton.mp hb]
    exact ⟨oL, es, ep, hLg, hLd⟩
  · obtain ⟨g', L', m', news', T', F', N', k⟩ := hl
    rw [hfs] at T'
    have nL₀ : h₀.get? L = none := by
      cases q : h₀.get? L with
      | none => rfl
      | some o => exact absurd (Nat.lt_of_lt_of_le (Heap.lt_size q) F.above) (Nat.lt_irrefl _)
    obtain ⟨sl, hs⟩ := T'.up hLg
    have old : ∀ b o, h₀.get? b = some o → g'.get? b = some o := fun b o e => T'.other b o (st b o e) fun q => by
      rw [List.mem_singleton.mp q, nL₀] at e; cases e
    refine k ⟨⟨_, es, ep, F'.keep _ _ hs, hLd, hLk, hLf⟩, fun b o e => F'.keep b o (old b o e), F.above⟩ fun q hq => ⟨(N' q hq).1, fun z => ?_, ?_⟩
    · have := (N' q hq).2.2; rw [z, hs] at this; cases this
    · cases z : h₀.get? q.1 with
      | none => rfl
      | some o => have := (N' q hq).2.2; rw [old _ _ z] at this; cases this

local macro_rules | `(tactic| walk_at "mine:try") => `(tactic| (refine' enter_try ?k1 ?k2 ?k3 ?k4 ?k5 ?kA ?kF ?kK ?k6 ?k7 ?k8 ?k9 ?kB ?_ ?c2 ?c3 ?c4 ?c5; (case kA => exact rfl); (case kF => exact rfl); (case kK => first | exact rfl | assumption); (case k1 => k_asm); (case k2 => k_asm); (case k3 => k_asm); (case k4 => k_asm); (case k5 => k_asm); (case k6 => k_is); (case k7 => k_is); (case k8 => ktr_room); (case k9 => first | exact BindsTo.of_eq rfl | exact binds_K (by k_in) rfl (by k_is) rfl rfl rfl); (case c5 => decide); (case kB => exact locs rfl); (case c2 => exact rfl); (case c3 => exact rfl); (case c4 => exact rfl); k_whole; intro g' L' h' FG' F' N' B' X' T' D'; (try dsimp only); (try k_lift B'); (try k_fold)))

theorem str_ownK {w w' : World} {prog : Program} {A : Around} {E : Value → Shared → Prop} {s : Shared} {h₀ : Heap} {L : Addr} {m : Str → Option Value} {news : List (Addr × Obj)} {e t : Addr} {x : Str} {tk : Tok} {Q : Value → Shared → Prop} (X : (Mine.hd.heap_39 w.params).In h₀) (F : Fr h₀ L s.heap m) (N : News h₀ L s.heap news)
    (G : Got news e t (.ref 103) [.str x tk]) (hu : A.units + 2 < cLine) (hq : Q (.str x tk) s) : wpAny (model prog w') A (call (.type "str") [.ref e]) Q E s := by
  obtain ⟨oe, ot, ws, nt, h1, h2, hc, hd, h0, htc, htd⟩ := G
  exact str_own (X.keeps F.keep) ⟨oe, ws, t, ot, nt, (N _ h1).1, hc, hd, h0, (N _ h2).1, htc, htd⟩ hu hq
local macro_rules | `(tactic| walk_at "call type:str") => `(tactic| (k_here; (with_reducible show wpAny _ _ (call (Value.type "str") [Value.ref _]) _ _ _); k_dflt (refine' str_ownK ?X ?F ?N ?G ?u ?_; (case X => k_asm); (case F => k_asm); (case G => assumption); (case N => assumption); (case u => ktr_units); k_whole)))

def BoolTells (w : World) (f : Addr) (vs : List Value) (r : Bool) : Prop :=
  ∀ (p : Program) (loose : List Str) (mean : ExcName → Option Value) (mg mb : Str → Option Value) (dp un : Nat) (gd : Option (List Code)) (cn : Str) (cs : Scope) (a : Addr) (ccd : Value) (cl : List (Str × Addr)) (A₀ : Around) (base h₀ : Heap) (L : Addr) (m : Str → Option Value) (news : List (Addr × Obj)) (s : Shared)
    (Q E : Value → Shared → Prop),
    Below A₀ base [] h₀ → Fr h₀ L s.heap m → (Mine.hd.heap_39 w.params).In base → (Mine.hd.heap_39 w.params).In h₀ → News h₀ L s.heap news → Top p loose mean mg mb base → Top p loose mean mg mb h₀ → cs.kind = .function → dp + 4 < recursionLimit → un + 40 < cLine →
    (∀ (h' : Heap) (tk' : Nat), Fr h₀ L h' m → News h₀ L h' news → Q (.bool r) { s with heap := h', toks := tk' }) →
    wpAny (model Challenge.rw_wy0015_01.row.prog w) (ktrTop dp un gd cn cs L a ccd cl []) (call (.ref f) vs) Q E s

set_option maxHeartbeats 8000000 in
theorem refused1 (w : World) (x : Str) (t : Tok) (hz : x.length ≤ 1000000) (e1 : (Txt.slice x none (some 3) != Str.ofString "257") = true) : BoolTells w 133 [.str x t] true := by
  unfold BoolTells
  k_fill
  intro p loose mean mg mb dp un gd cn cs a ccd cl A₀ base h₀ L m news s Q E B F XB X N TB T hk hd hu hret
  refine wpAny_call ?_
  k_dflt (walk_at "mine:try")
  k_steps
  all_goals (rw [show (x == x) = true from beq_self_eq_true x]; exact hret _ _ (by assumption) (by assumption))
end Mine

-- part W5
namespace Mine
open PySem PySem.W PySem.Calls PyProof.Rows
set_option Elab.async false
set_option maxRecDepth 100000
set_option maxHeartbeats 8000000

noncomputable def lawFn : { x : List Stmt × Scope // ∀ P : Params, ∃ oc od qual name params dV kV doc pm an cdv ct osl, (Mine.hd.heap_39 P).lookup 138 = some ⟨oc, od, .func (fnOf name qual params x.1 x.2 dV kV doc pm an cdv ct), osl⟩ } :=
  ⟨⟨_, _⟩, fun _ => ⟨_, _, _, _, _, _, _, _, _, _, _, _, _, rfl⟩⟩
noncomputable def lawBody : List Stmt := lawFn.1.1
noncomputable def lawScope : Scope := lawFn.1.2
noncomputable abbrev lawEnv (L a : Addr) (cd : Value) : Env := envOfC (Str.ofString "law") lawScope L a cd

/-- what is known around the law's frame -/
structure LawCtx (w : World) (mean : ExcName → Option Value) (mg mb : Str → Option Value) (h₀ : Heap) : Prop where
  KX : (Mine.hd.heap_39 w.params).In h₀
  X : Flt.MathXP Mine.hd.view_39 mg h₀
  V : LooseAre [] mg h₀
  GL : Glob 0 mg mb (List.map itemOf (recsOf Mine.hd.view_39)) (scalarsOf [] ++ constsW Mine.hd.view_39) [] (namesW Mine.hd.view_39 (["_quoted", "_paren_depth", "insort_right", "bisect_right", "insort_left", "bisect_left"].map Str.ofString)) h₀
  T : Top Mine.hd.view_39 (looseW Mine.hd.view_39 (["_quoted", "_paren_depth", "insort_right", "bisect_right", "insort_left", "bisect_left"].map Str.ofString)) mean mg mb h₀
  B : Tables Mine.hd.view_39 w mg h₀
  TE : TopE Mine.hd.view_39 (looseW Mine.hd.view_39 (["_quoted", "_paren_depth", "insort_right", "bisect_right", "insort_left", "bisect_left"].map Str.ofString)) mg h₀
  TW : TopW Mine.hd.view_39 mg h₀

def look (l : List (Str × Value)) : Str → Option Value := fun x => l.lookup x

theorem slice_step {prog : Program} {w : World} {A : Around} {E : Value → Shared → Prop} {s : Shared} {h₀ : Heap} {L l : Addr} {m : Str → Option Value} {news : List (Addr × Obj)} {value slice : PySem.Expr} {vs : List Value} {ns : List Int} {vl vu vk : Value} {lo hi st : Option Int} {ops : List Value} {Q : Value → Shared → Prop}
    (F : Fr h₀ L s.heap m) (N : News h₀ L s.heap news) (hl : s.heap.IsList l vs.toArray) (pl : IsPart vl lo) (pu : IsPart vu hi) (pk : IsPart vk st) (h0 : st ≠ some 0) (hi' : IntsAre vs ns)
    (h : ∀ D ws h' ms, Fr h₀ L h' m → News h₀ L h' ((D, listOf (List.toArray ws) 0) :: news) → (∀ p ∈ news, p.1 < D) → IntsAre ws ms → Q (.ref D) { s with heap := h' })
    (hs : subscripted slice false (.ref l) (.ref s.heap.objs.size) = operate ops (getItem (.ref l) (.ref s.heap.objs.size))) (ht : ∀ r, letTemporaryGo value (.ref l) r = pure ()) (hz : vs.toArray.size ≤ sizeLine) :
    wpAny (model prog w) A (subscriptTail value slice (.ref l) (.ref s.heap.objs.size)) Q E { s with heap := s.heap.push { cls := .type "slice", data := .fields #[vl, vu, vk] } } := by
  refine slice_list3 F N hl pl pu pk h0 (fun h' F' N' => h _ (slicePick vs.toArray lo hi st).toList h' _ F' ?_ (fun p hp => Nat.lt_succ_of_lt (Heap.lt_size (N p hp).1)) (hi'.pick lo hi st)) hs ht hz
  rw [Array.toArray_toList]
  exact N'

theorem off_W5 : True := by w_top off; trivial


local macro_rules | `(tactic| walk_at "subscriptTail Name Slice ref ref") => `(tactic| (k_here; (with_reducible show wpAny _ _ (subscriptTail _ (PySem.Expr.Slice _ none (some _) _) (Value.ref _) (Value.ref _)) _ _ _); k_dflt (refine' slice_step ?F ?N ?l ?p ?q ?k ?o ?i ?_ ?s ?t ?z; (case F => k_asm); (case N => k_asm); (case l => kmk_list); (case p => kmk_part); (case q => kmk_part); (case k => kmk_part); (case o => decide); (case i => l_ints); (case s => with_unfolding_all rfl); (case t => kmk_pure); (case z => kmk_size)); intro D' ws' h' ms' F' N' l1 hI'; (try k_lt l1); (try k_sweep)))

theorem comp_step {prog : Program} {w : World} {A : Around} {s : Shared} {h₀ : Heap} {L : Addr} {m : Str → Option Value} {env : Env} {elt : PySem.Expr} {x : Str} {scope : Scope} {cl : List (Str × Addr)} {S : List (Addr × Obj) → Prop} {P : Nat → Value → Prop} {Fin : List Value → List (Addr × Obj) → Prop} {k i : Nat} {ys : List Value} {news : List (Addr × Obj)} (R : Value → Prop)
    (turn : ∀ v I oI C oC D m₂ h tk (E' : Value → Shared → Prop), P i v → LCg.NsObj oC m₂ → m₂ x = some v → Fr h₀ L h m → News h₀ L h ((I, oI) :: (C, oC) :: (D, LCg.lst ys) :: news) →
      (∀ (y : Value) (h' : Heap) (tk' : Nat) (all : List (Addr × Obj)), Fr h₀ L h' m → News h₀ L h' all → (∀ p ∈ (I, oI) :: (C, oC) :: (D, LCg.lst ys) :: news, p ∈ all) → R y → E' y { s with heap := h', toks := tk' }) →
      wpAny (model prog w) A (eval elt (compEnvC scope cl C env)) E' (fun _ _ => False) { s with heap := h, toks := tk })
    (hS : S news)
    (next : ∀ y, R y → LCg.CompRest prog w A h₀ L m env elt x scope cl s S P Fin k (i + 1) (ys ++ [y]) news) :
    LCg.CompRest prog w A h₀ L m env elt x scope cl s S P Fin (k + 1) i ys news := by
  refine LCg.CompRest.succ ?_
  intro v I oI C oC D m₂ h tk E' hv hC hx F N off ne
  refine wpAny_mono (turn v I oI C oC D m₂ h tk _ hv hC hx F N ?_) (fun _ _ q => q) (fun _ _ q => q.elim)
  intro y h' tk' all F' N' sub hR
  exact LCg.CompEnd.intro F' N' news sub off hS (next y hR)

local macro_rules | `(tactic| walk_at "eval ListComp") => `(tactic| (k_here; k_dflt (refine LCg.ListComp_U (F₀ := by k_asm) (by rfl) (by decide) (by rfl) (by decide) (by rfl) ?_); k_dflt lcg_toSrc))
local macro_rules | `(tactic| walk_at "exec Assign cons ListComp") => `(tactic| (k_here; k_dflt (refine LCg.Assign_ListComp_U (F₀ := by k_asm) (by rfl) (by with_unfolding_all rfl) (by rfl) (by decide) (by rfl) (by decide) (by rfl) (by rfl) (by rfl) ?_); k_dflt lcg_toSrc))
local macro_rules | `(tactic| walk_at "CompSrc") => `(tactic| (k_here; k_dflt (first
  | (refine LCg.CompSrc.ledger (by rfl) (by k_asm) (by k_asm) (by k_mem) (by first | size_fits | exact Nat.le_of_ble_eq_true rfl) ?_; intro g'; lcg_lit)
  | (refine LCg.CompSrc.base (by rfl) (by k_asm) (by k_asm) (by assumption) (by first | size_fits | exact Nat.le_of_ble_eq_true rfl) ?_; intro g'; lcg_lit)
  | (refine LCg.CompSrc.range (by rfl) (by k_asm) (by k_asm) (by assumption) (by first | decide | rfl) (by first | rfl | decide) (by first | size_fits | exact Nat.le_of_ble_eq_true rfl) ?_; intro g'; lcg_lit))))
local macro_rules | `(tactic| walk_at "eval Name") => `(tactic| (k_here; (with_reducible show wpAny _ _ (eval (PySem.Expr.Name _ _) (compEnvC _ _ _ _)) _ _ _); k_dflt (first
  | refine LCgL.ld_own (by k_asm) (by k_mem) (by with_reducible assumption) (by with_reducible assumption) ?_
  | refine lcf_free (by k_asm) (by rfl) (by k_mem) (by with_reducible assumption) ?_
  | refine LCgL.ld_global (by k_asm) (by k_asm) (by k_asm) (by k_is) ?_
  | refine LCgL.ld_built (by k_asm) (by k_asm) (by k_asm) (by k_is) (by boot_by_name) (by decide) ?_)))
local macro_rules | `(tactic| walk_at "mine:go") => `(tactic| (repeat' ((fail_if_success (with_reducible show LCg.CompRest _ _ _ _ _ _ _ _ _ _ _ _ _ _ _ _ _ _ _)); (fail_if_success (with_reducible show wpAny _ _ (execs (_ :: _) _) _ _ _)); first | (k_unfold; (try dsimp only)) | walk1 | (dsimp only; walk1) | (leave1; walk_say "STEP leave1"; (try dsimp only)))))
local macro_rules | `(tactic| walk_at "mine:line") => `(tactic| (walk1; (try ((with_reducible show wpAny _ _ (execs (_ :: _) _) _ _ _); walk1)); walk_at "mine:go"))
local macro_rules | `(tactic| walk_at "mine:sub") => `(tactic| (intro p hp; (repeat (first | exact hp | apply List.mem_cons_of_mem))))

/-- no two entries of the ledger are alike -/
def Apart (l : List (Addr × Obj)) : Prop := l.Pairwise fun p q => q.1 ≠ p.1
theorem Apart.cons' {h₀ hh : Heap} {L D : Addr} {o : Obj} : ∀ {l : List (Addr × Obj)}, News h₀ L hh ((D, o) :: l) → LCg.Off1 D l → Apart l → Apart ((D, o) :: l) := by
  intro l N h hl
  clear N
  refine List.pairwise_cons.mpr ⟨?_, hl⟩
  clear hl
  induction l with
  | nil => intro q hq; cases hq
  | cons p r ih =>
    intro q hq
    rcases List.mem_cons.mp hq with rfl | hq
    · exact h.1
    · exact ih h.2 q hq
theorem Apart.below {h₀ hh : Heap} {L D : Addr} {o : Obj} {l : List (Addr × Obj)} (_ : News h₀ L hh ((D, o) :: l)) (h : ∀ p ∈ l, p.1 < D) (hl : Apart l) : Apart ((D, o) :: l) := List.pairwise_cons.mpr ⟨fun q hq => Nat.ne_of_lt (h q hq), hl⟩
theorem Apart.rest {p : Addr × Obj} {l : List (Addr × Obj)} (h : Apart (p :: l)) : Apart l := (List.pairwise_cons.mp h).2
theorem Apart.ne {p : Addr × Obj} {l : List (Addr × Obj)} (h : Apart (p :: l)) : ∀ q ∈ l, q.1 ≠ p.1 := (List.pairwise_cons.mp h).1
theorem Apart.head {D : Addr} {o o' : Obj} {l : List (Addr × Obj)} (h : Apart ((D, o) :: l)) : Apart ((D, o') :: l) := List.pairwise_cons.mpr (List.pairwise_cons.mp h)
theorem Apart.sub {l l' : List (Addr × Obj)} (h : Apart l) (q : l'.Sublist l) : Apart l' := List.Pairwise.sublist q h
theorem Apart.flip {p q : Addr × Obj} {l : List (Addr × Obj)} (h : Apart (p :: q :: l)) : Apart (q :: p :: l) := by
  obtain ⟨h1, h2⟩ := List.pairwise_cons.mp h
  obtain ⟨h3, h4⟩ := List.pairwise_cons.mp h2
  refine List.pairwise_cons.mpr ⟨fun r hr => ?_, List.pairwise_cons.mpr ⟨fun r hr => h1 r (.tail _ hr), h4⟩⟩
  rcases List.mem_cons.mp hr with rfl | hr
  · exact (h1 q (.head _)).symm
  · exact h3 r hr
inductive AtIn (c : Addr) (o : Obj) : List (Addr × Obj) → (Obj → List (Addr × Obj)) → Prop
  | head {r : List (Addr × Obj)} : AtIn c o ((c, o) :: r) (fun o' => (c, o') :: r)
  | tail {p : Addr × Obj} {l : List (Addr × Obj)} {g : Obj → List (Addr × Obj)} : AtIn c o l g → AtIn c o (p :: l) (fun o' => p :: g o')
theorem AtIn.mem {c : Addr} {o : Obj} {l : List (Addr × Obj)} {g : Obj → List (Addr × Obj)} (h : AtIn c o l g) : (c, o) ∈ l := by
  induction h with
  | head => exact .head _
  | tail _ ih => exact .tail _ ih
theorem AtIn.adr {c : Addr} {o : Obj} {l : List (Addr × Obj)} {g : Obj → List (Addr × Obj)} (h : AtIn c o l g) (o' : Obj) : ∀ q ∈ g o', ∃ q' ∈ l, q'.1 = q.1 := by
  induction h with
  | head =>
    intro q hq
    rcases List.mem_cons.mp hq with rfl | hq
    · exact ⟨_, .head _, rfl⟩
    · exact ⟨q, .tail _ hq, rfl⟩
  | tail _ ih =>
    intro q hq
    rcases List.mem_cons.mp hq with rfl | hq
    · exact ⟨_, .head _, rfl⟩
    · obtain ⟨q', h1, h2⟩ := ih q hq
      exact ⟨q', .tail _ h1, h2⟩
theorem AtIn.apart {c : Addr} {o : Obj} {l : List (Addr × Obj)} {g : Obj → List (Addr × Obj)} (h : AtIn c o l g) (P : Apart l) (o' : Obj) : Apart (g o') := by
  induction h with
  | head => exact P.head
  | tail h ih =>
    refine List.pairwise_cons.mpr ⟨fun q hq => ?_, ih P.rest⟩
    obtain ⟨q', h1, h2⟩ := h.adr o' q hq
    rw [← h2]
    exact P.ne q' h1
theorem AtIn.upd {c : Addr} {o : Obj} {l : List (Addr × Obj)} {g : Obj → List (Addr × Obj)} (h : AtIn c o l g) (P : Apart l) : UpdF c o l g := by
  induction h with
  | head => exact UpdF.head P.ne
  | tail h ih => exact UpdF.tail (Ne.symm (P.ne _ h.mem)) (ih P.rest)
theorem storeA {M : Model} {A : Around} {E : Value → Shared → Prop} {s : Shared} {h₀ : Heap} {L a : Addr} {m : Str → Option Value} {cn : Str} {cs : Scope} {ccd : Value} {cl : List (Str × Addr)}
    {x : Str} {v : Value} {news : List (Addr × Obj)} {g : Obj → List (Addr × Obj)} {c : Addr} {o : Obj} {v₀ : Option Value} {Q : Unit → Shared → Prop} (F : Fr h₀ L s.heap m) (N : News h₀ L s.heap news) (P : Apart news) (hc : cl.lookup x = some c) (U : AtIn c o news g) (hd : o.data = .cell v₀)
    (h : ∀ h' o', Fr h₀ L h' m → News h₀ L h' (g o') → Apart (g o') → o'.data = .cell (some v) → Q () { s with heap := h' })
    (hk : cs.kind = .function) (hx : (envX cn cs L a ccd cl).kindOf x = some .cell) : wpAny M A (storeName (envX cn cs L a ccd cl) x v) Q E s :=
  storeX_C F N hc (U.upd P) hd (fun h' o' F' N' d' => h h' o' F' N' (U.apart P o') d') hk hx

theorem AtIn.upd1 {c : Addr} {o o' : Obj} {l : List (Addr × Obj)} {g : Obj → List (Addr × Obj)} (h : AtIn c o l g) (P : Apart l) : Upd c o o' l (g o') := by
  induction h with
  | head => exact Upd.head P.ne
  | tail h ih => exact Upd.tail (Ne.symm (P.ne _ h.mem)) (ih P.rest)
theorem appendA {prog : Program} {w : World} {A : Around} {E : Value → Shared → Prop} {s : Shared} {h₀ : Heap} {L D : Addr} {m : Str → Option Value} {news : List (Addr × Obj)} {g : Obj → List (Addr × Obj)} {its : Array Value} {n : Nat} {x : Value} {Q : Value → Shared → Prop} (F : Fr h₀ L s.heap m) (N : News h₀ L s.heap news) (P : Apart news) (U : AtIn D (listOf its n) news g)
    (h : ∀ h', Fr h₀ L h' m → News h₀ L h' (g (listOf (its.push x) (n + 1))) → Apart (g (listOf (its.push x) (n + 1))) → Q .none { s with heap := h' }) (hsz : its.size ≤ sizeLine) : wpAny (model prog w) A (call (.builtin "list.append") [.ref D, x]) Q E s :=
  append_K F N (U.upd1 P) (fun h' F' N' => h h' F' N' (U.apart P _)) hsz

/-- the law's frame goes on well from statement n, with these locals and this ledger -/
def Goes (w : World) (h₀ : Heap) (L a : Addr) (cd : Value) (Q : Flow → Shared → Prop) (E : Value → Shared → Prop) (s : Shared) (n : Nat) (m : List (Str × Value)) (news : List (Addr × Obj)) : Prop :=
  ∀ (h : Heap) (tk : Nat), Fr h₀ L h (look m) → News h₀ L h news → Apart news → wpAny (model Challenge.rw_wy0015_01.row.prog w) (callerA.deeper (lawEnv L a cd)) (execs (lawBody.drop n) (lawEnv L a cd)) Q E { s with heap := h, toks := tk }
theorem look_cons (x : Str) (v : Value) (l : List (Str × Value)) (z : Str) : look ((x, v) :: l) z = if z = x then some v else look l z := by
  unfold look
  by_cases e : z = x
  · subst e
    simp [List.lookup]
  · have e' : (z == x) = false := beq_false_of_ne e
    simp [List.lookup, e, e']
def cellsN (L : Addr) (o1 o2 o3 o4 o5 o6 : Obj) : List (Addr × Obj) := [(L+1+1+1+1+1+1, o6), (L+1+1+1+1+1, o5), (L+1+1+1+1, o4), (L+1+1+1, o3), (L+1+1, o2), (L+1, o1)]
theorem news_sub {h₀ h : Heap} {L : Addr} {all news : List (Addr × Obj)} (N : News h₀ L h all) (sub : ∀ p ∈ news, p ∈ all) : News h₀ L h news := fun p hp => N p (sub p hp)
local macro_rules | `(tactic| walk_at "mine:look") => `(tactic| first | assumption | (refine Fr_eq (by assumption) ?_; intro z; first | exact rfl | (simp only [look_cons]; exact rfl) | (simp only [look_cons]; done) | (simp only [look_cons]; split <;> rfl) | (dsimp only; exact rfl)))
local macro_rules | `(tactic| walk_at "mine:led") => `(tactic| (refine news_sub (by assumption) ?_; (try unfold cellsN); lcg_sub))
local macro_rules | `(tactic| walk_at "mine:part") => `(tactic| (refine Apart.sub (by assumption) ?_; (try unfold cellsN); repeat (first | exact List.Sublist.slnil | refine List.Sublist.cons_cons _ ?_ | refine List.Sublist.cons _ ?_)))
local macro_rules | `(tactic| walk_at "mine:at") => `(tactic| first | exact AtIn.head | (refine' AtIn.tail ?b; (case b => walk_at "mine:at")))
local macro_rules | `(tactic| walk_at "storeName") => `(tactic| (k_here; k_dflt (refine' storeA ?F ?N ?P ?c ?U ?d ?_ ?a ?b; (case a => rfl); (case b => rfl); (case F => k_asm); (case N => k_asm); (case P => with_reducible assumption); (case c => rfl); (case U => walk_at "mine:at"); (case d => k_asm); k_whole); intro h' o' F' N' P' d'; (try dsimp only at N' P'); (try k_sweep)))
local macro_rules | `(tactic| walk_at "newList") => `(tactic| (k_here; k_dflt (refine' newList_K ?k1 ?k2 ?_; (case k1 => k_asm); (case k2 => k_asm); k_whole); intro l' h' F' N' l1; have P' := Apart.below N' l1 (by with_reducible assumption); clear l1; (try k_sweep)))
local macro_rules | `(tactic| walk_at "call builtin:list.append") => `(tactic| (k_here; k_dflt (refine' appendA ?F ?N ?P ?U ?_ ?z; (case F => k_asm); (case N => k_asm); (case P => with_reducible assumption); (case U => walk_at "mine:at"); (case z => exact Nat.le_of_ble_eq_true rfl); k_whole); intro h' F' N' P'; (try simp only [List.push_toArray, List.cons_append, List.nil_append] at N' P'); (try k_sweep)))
local macro_rules | `(tactic| walk_at "FinE") => `(tactic| ((unfold LCg.FinE); intro D' h' tk' F' N' o1'; have P' := Apart.cons' N' o1' (by with_reducible assumption); clear o1'; (try simp only [List.nil_append, List.cons_append] at N' P'); (try dsimp only); (try k_sweep)))
local macro_rules | `(tactic| walk_at "FinA") => `(tactic| ((unfold LCg.FinA); intro D' h' tk' F' N' o1'; have P' := Apart.cons' N' o1' (by with_reducible assumption); clear o1'; (try simp only [List.nil_append, List.cons_append] at N' P'); (try dsimp only); (try k_sweep)))

theorem segA1 {w : World} {mean : ExcName → Option Value} {mg mb : Str → Option Value} {h₀ : Heap} {L a : Addr} {cd : Value} {s : Shared} {Q : Flow → Shared → Prop} {E : Value → Shared → Prop} {l : Addr} {vs : List Value} {ns : List Int} {o1 o2 o3 o4 o5 o6 : Obj}
    (C : LawCtx w mean mg mb h₀) (K0 : Below callerA h₀ [] h₀) (hl : h₀.IsList l vs.toArray) (hi : IntsAre vs ns) (hz : (PyData.list (List.map PyData.int ns)).layable0 = true)
    (d1 : o1.data = .cell (some (.ref l))) (d2 : o2.data = .cell none)
    (next : ∀ c0 c1 c2 c3 t0 t1 t2 t3 A o2, Goes w h₀ L a cd Q E s 2 [(Str.ofString "cells", .ref A)] ((A, LCg.lst [.int c0 t0, .int c1 t1, .int c2 t2, .int c3 t3]) :: cellsN L o1 o2 o3 o4 o5 o6)) :
    Goes w h₀ L a cd Q E s 0 [] (cellsN L o1 o2 o3 o4 o5 o6) := by
  obtain ⟨KX, X, V, GL, T, B, TE, TW⟩ := C
  intro h tk F N P
  revert KX
  k_fill
  intro KX
  unfold cellsN at N P
  conv in (execs _ _) => arg 1; whnf
  walk_at "mine:line"
  walk_at "mine:line"
  refine comp_step (fun y => ∃ c t, y = Value.int c t) ?_ ?_ ?_
  · intro v I oI C oC D m₂ h tk E' hv hC hx F N ret
    obtain ⟨t9, rfl⟩ := hv
    walk_at "mine:go"
    refine ret _ _ _ _ (by assumption) (by assumption) (by walk_at "mine:sub") ⟨_, _, rfl⟩
  · exact True.intro
  rintro _ ⟨c0, t0, rfl⟩
  refine comp_step (fun y => ∃ c t, y = Value.int c t) ?_ ?_ ?_
  · intro v I oI C oC D m₂ h tk E' hv hC hx F N ret
    obtain ⟨t9, rfl⟩ := hv
    walk_at "mine:go"
    refine ret _ _ _ _ (by assumption) (by assumption) (by walk_at "mine:sub") ⟨_, _, rfl⟩
  · exact True.intro
  rintro _ ⟨c1, t1, rfl⟩
  refine comp_step (fun y => ∃ c t, y = Value.int c t) ?_ ?_ ?_
  · intro v I oI C oC D m₂ h tk E' hv hC hx F N ret
    obtain ⟨t9, rfl⟩ := hv
    walk_at "mine:go"
    refine ret _ _ _ _ (by assumption) (by assumption) (by walk_at "mine:sub") ⟨_, _, rfl⟩
  · exact True.intro
  rintro _ ⟨c2, t2, rfl⟩
  refine comp_step (fun y => ∃ c t, y = Value.int c t) ?_ ?_ ?_
  · intro v I oI C oC D m₂ h tk E' hv hC hx F N ret
    obtain ⟨t9, rfl⟩ := hv
    walk_at "mine:go"
    refine ret _ _ _ _ (by assumption) (by assumption) (by walk_at "mine:sub") ⟨_, _, rfl⟩
  · exact True.intro
  rintro _ ⟨c3, t3, rfl⟩
  refine LCg.CompRest.zero ?_
  walk_at "mine:go"
  refine' next c0 c1 c2 c3 t0 t1 t2 t3 _ _ _ _ ?F ?N ?P
  case F => walk_at "mine:look"
  case N => walk_at "mine:led"
  case P => walk_at "mine:part"
end Mine

-- part W6
namespace Mine
open PySem PySem.W PySem.Calls PyProof.Rows
set_option Elab.async false
set_option maxRecDepth 100000
set_option maxHeartbeats 8000000

theorem off_W6 : True := by w_top off; trivial
local macro_rules | `(tactic| walk_at "mine:pad0") => `(tactic| skip)


local macro_rules | `(tactic| walk_at "subscriptTail Name Slice ref ref") => `(tactic| (k_here; (with_reducible show wpAny _ _ (subscriptTail _ (PySem.Expr.Slice _ none (some _) _) (Value.ref _) (Value.ref _)) _ _ _); k_dflt (refine' slice_step ?F ?N ?l ?p ?q ?k ?o ?i ?_ ?s ?t ?z; (case F => k_asm); (case N => k_asm); (case l => kmk_list); (case p => kmk_part); (case q => kmk_part); (case k => kmk_part); (case o => decide); (case i => l_ints); (case s => with_unfolding_all rfl); (case t => kmk_pure); (case z => kmk_size)); intro D' ws' h' ms' F' N' l1 hI'; (try k_lt l1); (try k_sweep)))

local macro_rules | `(tactic| walk_at "eval ListComp") => `(tactic| (k_here; k_dflt (refine LCg.ListComp_U (F₀ := by k_asm) (by rfl) (by decide) (by rfl) (by decide) (by rfl) ?_); k_dflt lcg_toSrc))
local macro_rules | `(tactic| walk_at "exec Assign cons ListComp") => `(tactic| (k_here; k_dflt (refine LCg.Assign_ListComp_U (F₀ := by k_asm) (by rfl) (by with_unfolding_all rfl) (by rfl) (by decide) (by rfl) (by decide) (by rfl) (by rfl) (by rfl) ?_); k_dflt lcg_toSrc))
local macro_rules | `(tactic| walk_at "CompSrc") => `(tactic| (k_here; k_dflt (first
  | (refine LCg.CompSrc.ledger (by rfl) (by k_asm) (by k_asm) (by k_mem) (by first | size_fits | exact Nat.le_of_ble_eq_true rfl) ?_; intro g'; lcg_lit)
  | (refine LCg.CompSrc.base (by rfl) (by k_asm) (by k_asm) (by assumption) (by first | size_fits | exact Nat.le_of_ble_eq_true rfl) ?_; intro g'; lcg_lit)
  | (refine LCg.CompSrc.range (by rfl) (by k_asm) (by k_asm) (by assumption) (by first | decide | rfl) (by first | rfl | decide) (by first | size_fits | exact Nat.le_of_ble_eq_true rfl) ?_; intro g'; lcg_lit))))
local macro_rules | `(tactic| walk_at "eval Name") => `(tactic| (k_here; (with_reducible show wpAny _ _ (eval (PySem.Expr.Name _ _) (compEnvC _ _ _ _)) _ _ _); k_dflt (first
  | refine LCgL.ld_own (by k_asm) (by k_mem) (by with_reducible assumption) (by with_reducible assumption) ?_
  | refine lcf_free (by k_asm) (by rfl) (by k_mem) (by with_reducible assumption) ?_
  | refine LCgL.ld_global (by k_asm) (by k_asm) (by k_asm) (by k_is) ?_
  | refine LCgL.ld_built (by k_asm) (by k_asm) (by k_asm) (by k_is) (by boot_by_name) (by decide) ?_)))
local macro_rules | `(tactic| walk_at "mine:go") => `(tactic| (repeat' ((fail_if_success (with_reducible show LCg.CompRest _ _ _ _ _ _ _ _ _ _ _ _ _ _ _ _ _ _ _)); (fail_if_success (with_reducible show wpAny _ _ (execs (_ :: _) _) _ _ _)); first | (k_unfold; (try dsimp only)) | walk1 | (dsimp only; walk1) | (leave1; walk_say "STEP leave1"; (try dsimp only)))))
local macro_rules | `(tactic| walk_at "mine:line") => `(tactic| (walk1; (try ((with_reducible show wpAny _ _ (execs (_ :: _) _) _ _ _); walk1)); walk_at "mine:go"))
local macro_rules | `(tactic| walk_at "mine:sub") => `(tactic| (intro p hp; (repeat (first | exact hp | apply List.mem_cons_of_mem))))

local macro_rules | `(tactic| walk_at "mine:look") => `(tactic| first | assumption | (refine Fr_eq (by assumption) ?_; intro z; first | exact rfl | (simp only [look_cons]; exact rfl) | (simp only [look_cons]; done) | (dsimp only; exact rfl)))
local macro_rules | `(tactic| walk_at "mine:led") => `(tactic| (refine news_sub (by assumption) ?_; (try unfold cellsN); lcg_sub))
local macro_rules | `(tactic| walk_at "mine:part") => `(tactic| (refine Apart.sub (by assumption) ?_; (try unfold cellsN); repeat (first | exact List.Sublist.slnil | refine List.Sublist.cons_cons _ ?_ | refine List.Sublist.cons _ ?_)))
local macro_rules | `(tactic| walk_at "mine:at") => `(tactic| first | exact AtIn.head | (refine' AtIn.tail ?b; (case b => walk_at "mine:at")))
local macro_rules | `(tactic| walk_at "storeName") => `(tactic| (k_here; k_dflt (refine' storeA ?F ?N ?P ?c ?U ?d ?_ ?a ?b; (case a => rfl); (case b => rfl); (case F => k_asm); (case N => k_asm); (case P => with_reducible assumption); (case c => rfl); (case U => walk_at "mine:at"); (case d => k_asm); k_whole); intro h' o' F' N' P' d'; (try dsimp only at N' P'); (try k_sweep)))
local macro_rules | `(tactic| walk_at "newList") => `(tactic| (k_here; k_dflt (refine' newList_K ?k1 ?k2 ?_; (case k1 => k_asm); (case k2 => k_asm); k_whole); intro l' h' F' N' l1; have P' := Apart.below N' l1 (by with_reducible assumption); clear l1; (try k_sweep)))
local macro_rules | `(tactic| walk_at "call builtin:list.append") => `(tactic| (k_here; k_dflt (refine' appendA ?F ?N ?P ?U ?_ ?z; (case F => k_asm); (case N => k_asm); (case P => with_reducible assumption); (case U => walk_at "mine:at"); (case z => exact Nat.le_of_ble_eq_true rfl); k_whole); intro h' F' N' P'; (try simp only [List.push_toArray, List.cons_append, List.nil_append] at N' P'); (try k_sweep)))
local macro_rules | `(tactic| walk_at "FinE") => `(tactic| ((unfold LCg.FinE); intro D' h' tk' F' N' o1'; have P' := Apart.cons' N' o1' (by with_reducible assumption); clear o1'; (try simp only [List.nil_append, List.cons_append] at N' P'); (try dsimp only); (try k_sweep)))
local macro_rules | `(tactic| walk_at "FinA") => `(tactic| ((unfold LCg.FinA); intro D' h' tk' F' N' o1'; have P' := Apart.cons' N' o1' (by with_reducible assumption); clear o1'; (try simp only [List.nil_append, List.cons_append] at N' P'); (try dsimp only); (try k_sweep)))

theorem segA2 {w : World} {mean : ExcName → Option Value} {mg mb : Str → Option Value} {h₀ : Heap} {L a : Addr} {cd : Value} {s : Shared} {Q : Flow → Shared → Prop} {E : Value → Shared → Prop} {A : Addr} {c0 c1 c2 c3 : Int} {t0 t1 t2 t3 : Tok} {o1 o2 o3 o4 o5 o6 : Obj}
    (C : LawCtx w mean mg mb h₀) (K0 : Below callerA h₀ [] h₀)
    (d3 : o3.data = .cell none)
    (next : ∀ e0 e1 e2 e3 e4 u0 u1 u2 u3 u4 B ep (o3 : Obj), e0 = Int.fmod c0 7 - 3 → e1 = Int.fmod c1 7 - 3 → e2 = Int.fmod c2 7 - 3 → e3 = Int.fmod c3 7 - 3 → e4 = 1 - (e0 + (e1 + (e2 + (e3 + 0)))) → o3.data = .cell (some (.ref B)) →
      Goes w h₀ L a cd Q E s 4 [(Str.ofString "cells", .ref A)] ((B, listOf #[.int e0 u0, .int e1 u1, .int e2 u2, .int e3 u3, .int e4 u4] ep) :: (A, LCg.lst [.int c0 t0, .int c1 t1, .int c2 t2, .int c3 t3]) :: cellsN L o1 o2 o3 o4 o5 o6)) :
    Goes w h₀ L a cd Q E s 2 [(Str.ofString "cells", .ref A)] ((A, LCg.lst [.int c0 t0, .int c1 t1, .int c2 t2, .int c3 t3]) :: cellsN L o1 o2 o3 o4 o5 o6) := by
  obtain ⟨KX, X, V, GL, T, B, TE, TW⟩ := C
  intro h tk F N P
  revert KX
  k_fill
  intro KX
  unfold cellsN at N P
  conv in (execs _ _) => arg 1; whnf
  walk_at "mine:line"
  refine comp_step (fun y => ∃ t, y = Value.int (Int.fmod c0 7 - 3) t) ?_ ?_ ?_
  · intro v I oI C oC D m₂ h tk E' hv hC hx F N ret
    lcg_open hv
    walk_at "mine:go"
    refine ret _ _ _ _ (by assumption) (by assumption) (by walk_at "mine:sub") ⟨_, rfl⟩
  · lcg_src
  rintro _ ⟨u0, rfl⟩
  refine comp_step (fun y => ∃ t, y = Value.int (Int.fmod c1 7 - 3) t) ?_ ?_ ?_
  · intro v I oI C oC D m₂ h tk E' hv hC hx F N ret
    lcg_open hv
    walk_at "mine:go"
    refine ret _ _ _ _ (by assumption) (by assumption) (by walk_at "mine:sub") ⟨_, rfl⟩
  · lcg_src
  rintro _ ⟨u1, rfl⟩
  refine comp_step (fun y => ∃ t, y = Value.int (Int.fmod c2 7 - 3) t) ?_ ?_ ?_
  · intro v I oI C oC D m₂ h tk E' hv hC hx F N ret
    lcg_open hv
    walk_at "mine:go"
    refine ret _ _ _ _ (by assumption) (by assumption) (by walk_at "mine:sub") ⟨_, rfl⟩
  · lcg_src
  rintro _ ⟨u2, rfl⟩
  refine comp_step (fun y => ∃ t, y = Value.int (Int.fmod c3 7 - 3) t) ?_ ?_ ?_
  · intro v I oI C oC D m₂ h tk E' hv hC hx F N ret
    lcg_open hv
    walk_at "mine:go"
    refine ret _ _ _ _ (by assumption) (by assumption) (by walk_at "mine:sub") ⟨_, rfl⟩
  · lcg_src
  rintro _ ⟨u3, rfl⟩
  generalize he0 : Int.fmod c0 7 - 3 = e0
  generalize he1 : Int.fmod c1 7 - 3 = e1
  generalize he2 : Int.fmod c2 7 - 3 = e2
  generalize he3 : Int.fmod c3 7 - 3 = e3
  refine LCg.CompRest.zero ?_
  walk_at "mine:go"
  walk_at "mine:line"
  refine' next e0 e1 e2 e3 _ u0 u1 u2 u3 _ _ _ _ he0.symm he1.symm he2.symm he3.symm rfl (by assumption) _ _ ?F ?N ?P
  case F => walk_at "mine:look"
  case N => walk_at "mine:led"
  case P => walk_at "mine:part"

theorem segA3 {w : World} {mean : ExcName → Option Value} {mg mb : Str → Option Value} {h₀ : Heap} {L a : Addr} {cd : Value} {s : Shared} {Q : Flow → Shared → Prop} {E : Value → Shared → Prop} {A : Addr} {c0 c1 c2 c3 : Int} {t0 t1 t2 t3 : Tok} {o1 o2 o3 o4 o5 o6 : Obj}
    (C : LawCtx w mean mg mb h₀) (K0 : Below callerA h₀ [] h₀) {e0 e1 e2 e3 e4 : Int} {u0 u1 u2 u3 u4 : Tok} {B : Addr} {ep : Nat}
    (d4 : o4.data = .cell none)
    (next : ∀ k0 k1 k2 k3 k4 v0 v1 v2 v3 v4 G ep' (o4 : Obj), k0 = Int.fmod (Int.fdiv c0 7) 5 → k1 = Int.fmod (Int.fdiv c1 7) 5 → k2 = Int.fmod (Int.fdiv c2 7) 5 → k3 = Int.fmod (Int.fdiv c3 7) 5 → k4 = Int.fmod (k0 + (k1 + (k2 + (k3 + 0)))) 5 → o4.data = .cell (some (.ref G)) →
      Goes w h₀ L a cd Q E s 6 [(Str.ofString "cells", .ref A)] ((G, listOf #[.int k0 v0, .int k1 v1, .int k2 v2, .int k3 v3, .int k4 v4] ep') :: (B, listOf #[.int e0 u0, .int e1 u1, .int e2 u2, .int e3 u3, .int e4 u4] ep) :: (A, LCg.lst [.int c0 t0, .int c1 t1, .int c2 t2, .int c3 t3]) :: cellsN L o1 o2 o3 o4 o5 o6)) :
    Goes w h₀ L a cd Q E s 4 [(Str.ofString "cells", .ref A)] ((B, listOf #[.int e0 u0, .int e1 u1, .int e2 u2, .int e3 u3, .int e4 u4] ep) :: (A, LCg.lst [.int c0 t0, .int c1 t1, .int c2 t2, .int c3 t3]) :: cellsN L o1 o2 o3 o4 o5 o6) := by
  obtain ⟨KX, X, V, GL, T, B, TE, TW⟩ := C
  intro h tk F N P
  revert KX
  k_fill
  intro KX
  unfold cellsN at N P
  conv in (execs _ _) => arg 1; whnf
  walk_at "mine:line"
  refine comp_step (fun y => ∃ t, y = Value.int (Int.fmod (Int.fdiv c0 7) 5) t) ?_ ?_ ?_
  · intro v I oI C oC D m₂ h tk E' hv hC hx F N ret
    lcg_open hv
    walk_at "mine:go"
    refine ret _ _ _ _ (by assumption) (by assumption) (by walk_at "mine:sub") ⟨_, rfl⟩
  · lcg_src
  rintro _ ⟨v0, rfl⟩
  refine comp_step (fun y => ∃ t, y = Value.int (Int.fmod (Int.fdiv c1 7) 5) t) ?_ ?_ ?_
  · intro v I oI C oC D m₂ h tk E' hv hC hx F N ret
    lcg_open hv
    walk_at "mine:go"
    refine ret _ _ _ _ (by assumption) (by assumption) (by walk_at "mine:sub") ⟨_, rfl⟩
  · lcg_src
  rintro _ ⟨v1, rfl⟩
  refine comp_step (fun y => ∃ t, y = Value.int (Int.fmod (Int.fdiv c2 7) 5) t) ?_ ?_ ?_
  · intro v I oI C oC D m₂ h tk E' hv hC hx F N ret
    lcg_open hv
    walk_at "mine:go"
    refine ret _ _ _ _ (by assumption) (by assumption) (by walk_at "mine:sub") ⟨_, rfl⟩
  · lcg_src
  rintro _ ⟨v2, rfl⟩
  refine comp_step (fun y => ∃ t, y = Value.int (Int.fmod (Int.fdiv c3 7) 5) t) ?_ ?_ ?_
  · intro v I oI C oC D m₂ h tk E' hv hC hx F N ret
    lcg_open hv
    walk_at "mine:go"
    refine ret _ _ _ _ (by assumption) (by assumption) (by walk_at "mine:sub") ⟨_, rfl⟩
  · lcg_src
  rintro _ ⟨v3, rfl⟩
  generalize he0 : Int.fmod (Int.fdiv c0 7) 5 = k0
  generalize he1 : Int.fmod (Int.fdiv c1 7) 5 = k1
  generalize he2 : Int.fmod (Int.fdiv c2 7) 5 = k2
  generalize he3 : Int.fmod (Int.fdiv c3 7) 5 = k3
  refine LCg.CompRest.zero ?_
  walk_at "mine:go"
  walk_at "mine:line"
  refine' next k0 k1 k2 k3 _ v0 v1 v2 v3 _ _ _ _ he0.symm he1.symm he2.symm he3.symm rfl (by assumption) _ _ ?F ?N ?P
  case F => walk_at "mine:look"
  case N => walk_at "mine:led"
  case P => walk_at "mine:part"
end Mine

-- part W7
namespace Mine
open PySem PySem.W PySem.Calls PyProof.Rows
set_option Elab.async false
set_option maxRecDepth 100000
set_option maxHeartbeats 8000000

theorem comp_push {prog : Program} {w : World} {A : Around} {s : Shared} {h₀ : Heap} {L : Addr} {m : Str → Option Value} {env : Env} {elt : PySem.Expr} {x : Str} {scope : Scope} {cl : List (Str × Addr)} {S : List (Addr × Obj) → Prop} {P : Nat → Value → Prop} {Fin : List Value → List (Addr × Obj) → Prop} {k i : Nat} {ys : List Value} {news : List (Addr × Obj)} (R : Obj → Prop)
    (turn : ∀ v I oI C oC D m₂ h tk (E' : Value → Shared → Prop), P i v → LCg.NsObj oC m₂ → m₂ x = some v → Fr h₀ L h m → News h₀ L h ((I, oI) :: (C, oC) :: (D, LCg.lst ys) :: news) →
      (∀ (T : Addr) (o : Obj) (h' : Heap) (tk' : Nat), Fr h₀ L h' m → News h₀ L h' ((T, o) :: (I, oI) :: (C, oC) :: (D, LCg.lst ys) :: news) → (∀ p ∈ (I, oI) :: (C, oC) :: (D, LCg.lst ys) :: news, p.1 < T) → R o → E' (.ref T) { s with heap := h', toks := tk' }) →
      wpAny (model prog w) A (eval elt (compEnvC scope cl C env)) E' (fun _ _ => False) { s with heap := h, toks := tk })
    (hS : ∀ T o, S ((T, o) :: news))
    (next : ∀ T o, R o → (∀ p ∈ news, p.1 < T) → LCg.CompRest prog w A h₀ L m env elt x scope cl s S P Fin k (i + 1) (ys ++ [.ref T]) ((T, o) :: news)) :
    LCg.CompRest prog w A h₀ L m env elt x scope cl s S P Fin (k + 1) i ys news := by
  refine LCg.CompRest.succ ?_
  intro v I oI C oC D m₂ h tk E' hv hC hx F N off ne
  refine wpAny_mono (turn v I oI C oC D m₂ h tk _ hv hC hx F N ?_) (fun _ _ q => q) (fun _ _ q => q.elim)
  intro T o h' tk' F' N' l hR
  refine LCg.CompEnd.intro F' N' ((T, o) :: news) ?_ ⟨⟨?_, ?_, ?_⟩, off⟩ (hS T o) (next T o hR (fun p hp => l p (.tail _ (.tail _ (.tail _ hp)))))
  · intro p hp
    rcases List.mem_cons.mp hp with rfl | hp
    · exact .tail _ (.head _)
    rcases List.mem_cons.mp hp with rfl | hp
    · exact .tail _ (.tail _ (.head _))
    rcases List.mem_cons.mp hp with rfl | hp
    · exact .tail _ (.tail _ (.tail _ (.head _)))
    rcases List.mem_cons.mp hp with rfl | hp
    · exact .head _
    · exact .tail _ (.tail _ (.tail _ (.tail _ hp)))
  · exact (Nat.ne_of_lt (l (I, oI) (.head _))).symm
  · exact (Nat.ne_of_lt (l (C, oC) (.tail _ (.head _)))).symm
  · exact (Nat.ne_of_lt (l (D, _) (.tail _ (.tail _ (.head _))))).symm

theorem off_W7 : True := by w_top off; trivial
local macro_rules | `(tactic| walk_at "mine:pad0") => `(tactic| skip)


theorem lab_use {w : World} {p : Program} {loose : List Str} {mean : ExcName → Option Value} {mg mb : Str → Option Value} {h₀ : Heap} {L fa : Addr} {cd : Value} {m : Str → Option Value} {news : List (Addr × Obj)} {s : Shared} {Q E : Value → Shared → Prop} {vs : List Value} {x y : Str} {i : Int}
    (K0 : Below callerA h₀ [] h₀) (F : Fr h₀ L s.heap m) (X : (Mine.hd.heap_39 w.params).In h₀) (N : News h₀ L s.heap news) (T : Top p loose mean mg mb h₀) (C : LabTells w vs x y i)
    (ret : ∀ (T : Addr) (t1 t2 t3 : Tok) (h' : Heap) (tk' : Nat), Fr h₀ L h' m → News h₀ L h' ((T, ({ cls := .type "tuple", data := .seq #[.str x t1, .str y t2, .int i t3] 0 } : Obj)) :: news) → (∀ p ∈ news, p.1 < T) → Q (.ref T) { s with heap := h', toks := tk' }) :
    wpAny (model Challenge.rw_wy0015_01.row.prog w) (callerA.deeper (lawEnv L fa cd)) (call (.ref 119) vs) Q E s :=
  C p loose mean mg mb _ _ _ _ _ _ _ _ [] callerA h₀ h₀ L m news s Q E K0 F X N T rfl (by decide) (by decide) ret
local macro_rules | `(tactic| walk_at "call ref") => `(tactic| (k_here; (with_reducible show wpAny _ _ (call (Value.ref 119) _) _ _ _); k_dflt (refine' lab_use ?k1 ?k2 ?k3 ?k4 ?k5 (lab1 _ _ _ _ _ ?kH) ?_; (case k1 => k_asm); (case k2 => k_asm); (case k3 => k_asm); (case k4 => k_asm); (case k5 => k_asm); (case kH => first | exact Nat.le_of_ble_eq_true rfl | decide); k_whole; intro T' t1' t2' t3' h' tk' F' N' l1; (try dsimp only); (try k_sweep))))

local macro_rules | `(tactic| walk_at "subscriptTail Name Slice ref ref") => `(tactic| (k_here; (with_reducible show wpAny _ _ (subscriptTail _ (PySem.Expr.Slice _ none (some _) _) (Value.ref _) (Value.ref _)) _ _ _); k_dflt (refine' slice_step ?F ?N ?l ?p ?q ?k ?o ?i ?_ ?s ?t ?z; (case F => k_asm); (case N => k_asm); (case l => kmk_list); (case p => kmk_part); (case q => kmk_part); (case k => kmk_part); (case o => decide); (case i => l_ints); (case s => with_unfolding_all rfl); (case t => kmk_pure); (case z => kmk_size)); intro D' ws' h' ms' F' N' l1 hI'; (try k_lt l1); (try k_sweep)))

local macro_rules | `(tactic| walk_at "eval ListComp") => `(tactic| (k_here; k_dflt (refine LCg.ListComp_U (F₀ := by k_asm) (by rfl) (by decide) (by rfl) (by decide) (by rfl) ?_); k_dflt lcg_toSrc))
local macro_rules | `(tactic| walk_at "exec Assign cons ListComp") => `(tactic| (k_here; k_dflt (refine LCg.Assign_ListComp_U (F₀ := by k_asm) (by rfl) (by with_unfolding_all rfl) (by rfl) (by decide) (by rfl) (by decide) (by rfl) (by rfl) (by rfl) ?_); k_dflt lcg_toSrc))
local macro_rules | `(tactic| walk_at "CompSrc") => `(tactic| (k_here; k_dflt (first
  | (refine LCg.CompSrc.ledger (by rfl) (by k_asm) (by k_asm) (by k_mem) (by first | size_fits | exact Nat.le_of_ble_eq_true rfl) ?_; intro g'; lcg_lit)
  | (refine LCg.CompSrc.base (by rfl) (by k_asm) (by k_asm) (by assumption) (by first | size_fits | exact Nat.le_of_ble_eq_true rfl) ?_; intro g'; lcg_lit)
  | (refine LCg.CompSrc.range (by rfl) (by k_asm) (by k_asm) (by assumption) (by first | decide | rfl) (by first | rfl | decide) (by first | size_fits | exact Nat.le_of_ble_eq_true rfl) ?_; intro g'; lcg_lit))))
local macro_rules | `(tactic| walk_at "eval Name") => `(tactic| (k_here; (with_reducible show wpAny _ _ (eval (PySem.Expr.Name _ _) (compEnvC _ _ _ _)) _ _ _); k_dflt (first
  | refine LCgL.ld_own (by k_asm) (by k_mem) (by with_reducible assumption) (by with_reducible assumption) ?_
  | refine lcf_free (by k_asm) (by rfl) (by k_mem) (by with_reducible assumption) ?_
  | refine LCgL.ld_global (by k_asm) (by k_asm) (by k_asm) (by k_is) ?_
  | refine LCgL.ld_built (by k_asm) (by k_asm) (by k_asm) (by k_is) (by boot_by_name) (by decide) ?_)))
local macro_rules | `(tactic| walk_at "mine:go") => `(tactic| (repeat' ((fail_if_success (with_reducible show LCg.CompRest _ _ _ _ _ _ _ _ _ _ _ _ _ _ _ _ _ _ _)); (fail_if_success (with_reducible show wpAny _ _ (execs (_ :: _) _) _ _ _)); first | (k_unfold; (try dsimp only)) | walk1 | (dsimp only; walk1) | (leave1; walk_say "STEP leave1"; (try dsimp only)))))
local macro_rules | `(tactic| walk_at "mine:line") => `(tactic| (walk1; (try ((with_reducible show wpAny _ _ (execs (_ :: _) _) _ _ _); walk1)); walk_at "mine:go"))
local macro_rules | `(tactic| walk_at "mine:sub") => `(tactic| (intro p hp; (repeat (first | exact hp | apply List.mem_cons_of_mem))))

local macro_rules | `(tactic| walk_at "mine:look") => `(tactic| first | assumption | (refine Fr_eq (by assumption) ?_; intro z; first | exact rfl | (simp only [look_cons]; exact rfl) | (simp only [look_cons]; done) | (dsimp only; exact rfl)))
local macro_rules | `(tactic| walk_at "mine:led") => `(tactic| (refine news_sub (by assumption) ?_; (try unfold cellsN); lcg_sub))
local macro_rules | `(tactic| walk_at "mine:part") => `(tactic| (refine Apart.sub (by assumption) ?_; (try unfold cellsN); repeat (first | exact List.Sublist.slnil | refine List.Sublist.cons_cons _ ?_ | refine List.Sublist.cons _ ?_)))
local macro_rules | `(tactic| walk_at "mine:at") => `(tactic| first | exact AtIn.head | (refine' AtIn.tail ?b; (case b => walk_at "mine:at")))
local macro_rules | `(tactic| walk_at "storeName") => `(tactic| (k_here; k_dflt (refine' storeA ?F ?N ?P ?c ?U ?d ?_ ?a ?b; (case a => rfl); (case b => rfl); (case F => k_asm); (case N => k_asm); (case P => with_reducible assumption); (case c => rfl); (case U => walk_at "mine:at"); (case d => k_asm); k_whole); intro h' o' F' N' P' d'; (try dsimp only at N' P'); (try k_sweep)))
local macro_rules | `(tactic| walk_at "newList") => `(tactic| (k_here; k_dflt (refine' newList_K ?k1 ?k2 ?_; (case k1 => k_asm); (case k2 => k_asm); k_whole); intro l' h' F' N' l1; have P' := Apart.below N' l1 (by with_reducible assumption); clear l1; (try k_sweep)))
local macro_rules | `(tactic| walk_at "call builtin:list.append") => `(tactic| (k_here; k_dflt (refine' appendA ?F ?N ?P ?U ?_ ?z; (case F => k_asm); (case N => k_asm); (case P => with_reducible assumption); (case U => walk_at "mine:at"); (case z => exact Nat.le_of_ble_eq_true rfl); k_whole); intro h' F' N' P'; (try simp only [List.push_toArray, List.cons_append, List.nil_append] at N' P'); (try k_sweep)))
local macro_rules | `(tactic| walk_at "FinE") => `(tactic| ((unfold LCg.FinE); intro D' h' tk' F' N' o1'; have P' := Apart.cons' N' o1' (by with_reducible assumption); clear o1'; (try simp only [List.nil_append, List.cons_append] at N' P'); (try dsimp only); (try k_sweep)))
local macro_rules | `(tactic| walk_at "FinA") => `(tactic| ((unfold LCg.FinA); intro D' h' tk' F' N' o1'; have P' := Apart.cons' N' o1' (by with_reducible assumption); clear o1'; (try simp only [List.nil_append, List.cons_append] at N' P'); (try dsimp only); (try k_sweep)))

theorem Apart.low {D : Addr} {o : Obj} {l : List (Addr × Obj)} (h : ∀ p ∈ l, p.1 < D) (hl : Apart l) : Apart ((D, o) :: l) := List.pairwise_cons.mpr ⟨fun q hq => Nat.ne_of_lt (h q hq), hl⟩
/-- what _law_label gave -/
def IsPartO (k : Int) (c : String) (o : Obj) : Prop := ∃ t1 t2 t3, o = { cls := .type "tuple", data := .seq #[.str (labS k (Str.ofString c)) t1, .str (nameS k (Str.ofString c)) t2, .int (moreI k) t3] 0 }
theorem segB1 {w : World} {mean : ExcName → Option Value} {mg mb : Str → Option Value} {h₀ : Heap} {L a : Addr} {cd : Value} {s : Shared} {Q : Flow → Shared → Prop} {E : Value → Shared → Prop} {A : Addr} {c0 c1 c2 c3 : Int} {t0 t1 t2 t3 : Tok} {o1 o2 o3 o4 o5 o6 : Obj}
    (C : LawCtx w mean mg mb h₀) (K0 : Below callerA h₀ [] h₀) {e0 e1 e2 e3 e4 k0 k1 k2 k3 k4 : Int} {u0 u1 u2 u3 u4 v0 v1 v2 v3 v4 : Tok} {B G : Addr} {ep ep' : Nat}
    (d4 : o4.data = .cell (some (.ref G))) (d5 : o5.data = .cell none)
    (next : ∀ T0 T1 T2 T3 T4 p0 p1 p2 p3 p4 H (o5 : Obj), IsPartO k0 "a" p0 → IsPartO k1 "b" p1 → IsPartO k2 "c" p2 → IsPartO k3 "d" p3 → IsPartO k4 "e" p4 → o5.data = .cell (some (.ref H)) →
      Goes w h₀ L a cd Q E s 7 [(Str.ofString "cells", .ref A)] ((H, LCg.lst [.ref T0, .ref T1, .ref T2, .ref T3, .ref T4]) :: (T4, p4) :: (T3, p3) :: (T2, p2) :: (T1, p1) :: (T0, p0) :: (B, listOf #[.int e0 u0, .int e1 u1, .int e2 u2, .int e3 u3, .int e4 u4] ep) :: (A, LCg.lst [.int c0 t0, .int c1 t1, .int c2 t2, .int c3 t3]) :: cellsN L o1 o2 o3 o4 o5 o6)) :
    Goes w h₀ L a cd Q E s 6 [(Str.ofString "cells", .ref A)] ((G, listOf #[.int k0 v0, .int k1 v1, .int k2 v2, .int k3 v3, .int k4 v4] ep') :: (B, listOf #[.int e0 u0, .int e1 u1, .int e2 u2, .int e3 u3, .int e4 u4] ep) :: (A, LCg.lst [.int c0 t0, .int c1 t1, .int c2 t2, .int c3 t3]) :: cellsN L o1 o2 o3 o4 o5 o6) := by
  obtain ⟨KX, X, V, GL, T, B, TE, TW⟩ := C
  intro h tk F N P
  revert KX
  k_fill
  intro KX
  unfold cellsN at N P
  conv in (execs _ _) => arg 1; whnf
  walk_at "mine:line"
  refine comp_push (IsPartO k0 "a") ?_ ?_ ?_
  · intro v I oI C oC D m₂ h tk E' hv hC hx F N ret
    obtain ⟨t9, rfl⟩ := hv
    walk_at "mine:go"
    exact ret _ _ _ _ (by assumption) (by assumption) (by assumption) ⟨_, _, _, rfl⟩
  · intros; exact True.intro
  intro T0 p0 hp0 lt0
  have P := Apart.low (o := p0) lt0 P
  refine comp_push (IsPartO k1 "b") ?_ ?_ ?_
  · intro v I oI C oC D m₂ h tk E' hv hC hx F N ret
    obtain ⟨t9, rfl⟩ := hv
    walk_at "mine:go"
    exact ret _ _ _ _ (by assumption) (by assumption) (by assumption) ⟨_, _, _, rfl⟩
  · intros; exact True.intro
  intro T1 p1 hp1 lt1
  have P := Apart.low (o := p1) lt1 P
  refine comp_push (IsPartO k2 "c") ?_ ?_ ?_
  · intro v I oI C oC D m₂ h tk E' hv hC hx F N ret
    obtain ⟨t9, rfl⟩ := hv
    walk_at "mine:go"
    exact ret _ _ _ _ (by assumption) (by assumption) (by assumption) ⟨_, _, _, rfl⟩
  · intros; exact True.intro
  intro T2 p2 hp2 lt2
  have P := Apart.low (o := p2) lt2 P
  refine comp_push (IsPartO k3 "d") ?_ ?_ ?_
  · intro v I oI C oC D m₂ h tk E' hv hC hx F N ret
    obtain ⟨t9, rfl⟩ := hv
    walk_at "mine:go"
    exact ret _ _ _ _ (by assumption) (by assumption) (by assumption) ⟨_, _, _, rfl⟩
  · intros; exact True.intro
  intro T3 p3 hp3 lt3
  have P := Apart.low (o := p3) lt3 P
  refine comp_push (IsPartO k4 "e") ?_ ?_ ?_
  · intro v I oI C oC D m₂ h tk E' hv hC hx F N ret
    obtain ⟨t9, rfl⟩ := hv
    walk_at "mine:go"
    exact ret _ _ _ _ (by assumption) (by assumption) (by assumption) ⟨_, _, _, rfl⟩
  · intros; exact True.intro
  intro T4 p4 hp4 lt4
  have P := Apart.low (o := p4) lt4 P
  refine LCg.CompRest.zero ?_
  walk_at "mine:go"
  refine' next T0 T1 T2 T3 T4 p0 p1 p2 p3 p4 _ _ hp0 hp1 hp2 hp3 hp4 (by assumption) _ _ ?F ?N ?P
  case F => walk_at "mine:look"
  case N => walk_at "mine:led"
  case P => walk_at "mine:part"
end Mine

-- part P1
namespace Mine
open PySem PySem.W PyProof.Rows
set_option maxRecDepth 100000

theorem rep_fold (c : Nat) : ∀ (n : Nat) (acc : Array Nat), ((List.replicate n #[c]).foldl (· ++ ·) acc).toList = acc.toList ++ List.replicate n c
  | 0, acc => by simp
  | n + 1, acc => by
    rw [List.replicate_succ, List.foldl_cons, rep_fold c n]
    simp [List.replicate_succ]

theorem mul_list (x : Str) (c : Nat) (hx : x.cps = #[c]) (n : Int) : (Txt.mul x n).cps.toList = List.replicate n.toNat c := by
  unfold Txt.mul
  by_cases h1 : n < 1
  · rw [if_pos h1, show n.toNat = 0 by omega]
    rfl
  · rw [if_neg h1]
    by_cases h2 : n = 1
    · subst h2
      rw [if_pos (by simp), hx]
      rfl
    · have h3 : (n == 1 || x.length == 0) = false := by
        have : x.length = 1 := by unfold Str.length; rw [hx]; rfl
        simp [this, h2]
      rw [h3, if_neg (by simp)]
      simp only [hx]
      rw [rep_fold]
      rfl

/-- the run as code points -/
def runL (e : Int) : List Nat := if e = 0 then [41, 34, 34, 91, 123, 39, 92, 40, 39, 92] else List.replicate e.toNat 40 ++ (List.replicate (-e).toNat 41 ++ [92])
def runR (e : Int) : List Nat := if e = 0 then [41, 91, 123, 39, 92, 40, 39, 92] else List.replicate e.toNat 40 ++ (List.replicate (-e).toNat 41 ++ [92])
theorem runS_list (e : Int) : (runS e).cps.toList = runL e := by
  unfold runS runL
  by_cases h : e = 0
  · rw [if_pos h, if_pos h]
    rfl
  · rw [if_neg h, if_neg h, Str.cps_append, Str.cps_append, Array.toList_append, Array.toList_append, mul_list (Str.ofString "(") 40 rfl, mul_list (Str.ofString ")") 41 rfl, List.append_assoc]
    rfl

def labL (k : Int) (ch : Nat) : List Nat :=
  if k = 0 then [34, 32, ch, 32, 34] else if k = 1 then [34, ch, 34, 34, 40, 34] else if k = 2 then [34, 41, 41, 92, ch, 34] else if k = 3 then [34, ch, 40, 92, 34, 40, 40, 34] else [34, ch, 40, 92, 92, 34]
theorem labS_list (k : Int) (c : Str) (ch : Nat) (hc : c.cps = #[ch]) : (labS k c).cps.toList = labL k ch := by
  unfold labS labL
  split
  · simp only [Str.cps_append, Array.toList_append, hc]; rfl
  split
  · simp only [Str.cps_append, Array.toList_append, hc]; rfl
  split
  · simp only [Str.cps_append, Array.toList_append, hc]; rfl
  split
  · simp only [Str.cps_append, Array.toList_append, hc]; rfl
  · simp only [Str.cps_append, Array.toList_append, hc]; rfl
def nameL (k : Int) (ch : Nat) : List Nat :=
  if k = 0 then [32, ch, 32] else if k = 1 then [ch, 34, 40] else if k = 2 then [41, 41, 92, ch] else if k = 3 then [ch, 40, 92] else [ch, 40, 92, 92]
theorem nameS_list (k : Int) (c : Str) (ch : Nat) (hc : c.cps = #[ch]) : (nameS k c).cps.toList = nameL k ch := by
  unfold nameS nameL
  split
  · simp only [Str.cps_append, Array.toList_append, hc]; rfl
  split
  · simp only [Str.cps_append, Array.toList_append, hc]; rfl
  split
  · simp only [Str.cps_append, Array.toList_append, hc]; rfl
  split
  · simp only [Str.cps_append, Array.toList_append, hc]; rfl
  · simp only [Str.cps_append, Array.toList_append, hc]; rfl

theorem Strips.cons {c : Nat} {l r : List Nat} (hc : c ≠ 34) (h : Strips l r) : Strips (c :: l) (c :: r) := by
  induction h with
  | stop hf => exact .stop (by simp [find, hc, hf])
  | @go l r a n hf hs ih =>
    have hf' : find (c :: l) = some (a + 1, n) := by simp [find, hc, hf]
    have := Strips.go hf' (r := r) (by rw [show a + 1 + n = (a + n) + 1 by omega, List.drop_succ_cons]; exact hs)
    simpa using this
theorem Strips.quoted {m r : List Nat} {n : Nat} (hb : body m = n) (hm : m[n]? = some 34) (h : Strips (m.drop (n + 1)) r) : Strips (34 :: m) r := by
  have hf : find (34 :: m) = some (0, n + 2) := by simp [find, hb, hm]
  have := Strips.go hf (r := r) (by rw [show 0 + (n + 2) = (n + 1) + 1 by omega, List.drop_succ_cons]; exact h)
  simpa using this
theorem Strips.all {l r r' : List Nat} (hl : ∀ c ∈ l, c ≠ 34) (h : Strips r r') : Strips (l ++ r) (l ++ r') := by
  induction l with
  | nil => exact h
  | cons c l ih => exact .cons (hl c (.head _)) (ih fun d hd => hl d (.tail _ hd))
theorem body_mark (X : List Nat) : body (34 :: X) = 0 := by cases X <;> simp [body]
theorem body_plain {c : Nat} {l : List Nat} (h1 : c ≠ 34) (h2 : c ≠ 92) (hl : l ≠ []) : body (c :: l) = body l + 1 := by
  cases l with
  | nil => exact absurd rfl hl
  | cons y r => simp [body, h1, h2]
theorem body_esc {y : Nat} {l : List Nat} (h : y ≠ 10) : body (92 :: y :: l) = body l + 2 := by simp [body, h]

/-- a label is struck out whole -/
theorem strip_lab (k : Int) {ch : Nat} (h1 : ch ≠ 34) (h2 : ch ≠ 92) (h3 : ch ≠ 10) {X r : List Nat} (h : Strips X r) : Strips (labL k ch ++ X) r := by
  unfold labL
  split
  · refine Strips.quoted (n := 3) ?_ rfl h
    simp [body_plain, body_mark, h1, h2]
  split
  · refine Strips.quoted (n := 1) ?_ rfl (Strips.quoted (n := 1) ?_ rfl h)
    · simp [body_plain, body_mark, h1, h2]
    · simp [body_plain, body_mark]
  split
  · refine Strips.quoted (n := 4) ?_ rfl h
    simp [body_plain, body_mark, body_esc, h3]
  split
  · refine Strips.quoted (n := 6) ?_ rfl h
    simp [body_plain, body_mark, body_esc, h1, h2]
  · refine Strips.quoted (n := 4) ?_ rfl h
    simp [body_plain, body_mark, body_esc, h1, h2]
theorem strip_run (e : Int) {X r : List Nat} (h : Strips X r) : Strips (runL e ++ X) (runR e ++ r) := by
  unfold runL runR
  by_cases he : e = 0
  · rw [if_pos he, if_pos he]
    refine Strips.cons (by decide) (Strips.quoted (n := 0) (body_mark _) rfl ?_)
    exact Strips.all (l := [91, 123, 39, 92, 40, 39, 92]) (by decide) h
  · rw [if_neg he, if_neg he]
    refine Strips.all (fun c hc => ?_) h
    rcases List.mem_append.mp hc with hc | hc
    · rw [List.eq_of_mem_replicate hc]; decide
    rcases List.mem_append.mp hc with hc | hc
    · rw [List.eq_of_mem_replicate hc]; decide
    · rw [List.mem_singleton.mp hc]; decide
theorem D_append (l r : List Nat) : D (l ++ r) = D l + D r := by
  unfold D
  rw [List.map_append, List.count_append, List.count_append]
  omega
theorem D_run (e : Int) : D (runR e) = e := by
  unfold runR
  by_cases he : e = 0
  · rw [if_pos he, he]; decide
  · rw [if_neg he, D_append, D_append]
    unfold D
    simp only [List.map_replicate, List.count_replicate]
    have : ((40 : Nat).toUInt8 == 40) = true := by decide
    have : ((40 : Nat).toUInt8 == 41) = false := by decide
    have : ((41 : Nat).toUInt8 == 40) = false := by decide
    have : ((41 : Nat).toUInt8 == 41) = true := by decide
    have : List.count (40 : UInt8) (List.map (fun x : Nat => x.toUInt8) [92]) = 0 := by decide
    have : List.count (41 : UInt8) (List.map (fun x : Nat => x.toUInt8) [92]) = 0 := by decide
    simp [*]
    omega

/-- one piece of the ring: kind, letter, step -/
structure Pc where
  k : Int
  ch : Nat
  e : Int
def Pc.ok (p : Pc) : Prop := p.ch ≠ 34 ∧ p.ch ≠ 92 ∧ p.ch ≠ 10 ∧ p.ch < 128 ∧ -20 ≤ p.e ∧ p.e ≤ 20
def Pc.l (p : Pc) : List Nat := labL p.k p.ch ++ runL p.e
def catL : List Pc → List Nat
  | [] => []
  | p :: r => p.l ++ catL r
def sumE : List Pc → Int
  | [] => 0
  | p :: r => p.e + sumE r
theorem catL_append (a b : List Pc) : catL (a ++ b) = catL a ++ catL b := by
  induction a with
  | nil => rfl
  | cons p r ih => simp only [List.cons_append, catL, ih, List.append_assoc]
theorem strips_nil : Strips [] [] := .stop rfl
theorem D_nil : D [] = 0 := rfl
theorem strips_cat : ∀ (ps : List Pc), (∀ p ∈ ps, p.ok) → ∃ r, Strips (catL ps) r ∧ D r = sumE ps
  | [], _ => ⟨[], strips_nil, rfl⟩
  | p :: ps, h => by
    obtain ⟨r, h1, h2⟩ := strips_cat ps fun q hq => h q (.tail _ hq)
    obtain ⟨a, b, c, _⟩ := h p (.head _)
    refine ⟨runR p.e ++ r, ?_, ?_⟩
    · simp only [catL, Pc.l, List.append_assoc]
      exact strip_lab _ a b c (strip_run _ h1)
    · rw [D_append, D_run, h2]; rfl
theorem labL_small (k : Int) {ch : Nat} (h : ch < 128) : (∀ c ∈ labL k ch, c < 128) ∧ (labL k ch).length ≤ 8 := by
  unfold labL
  split
  · constructor <;> simp [h]
  split
  · constructor <;> simp [h]
  split
  · constructor <;> simp [h]
  split <;> constructor <;> simp [h]
theorem runL_small (e : Int) (h1 : -20 ≤ e) (h2 : e ≤ 20) : (∀ c ∈ runL e, c < 128) ∧ (runL e).length ≤ 41 := by
  unfold runL
  split
  · constructor <;> simp
  · constructor
    · intro c hc
      rcases List.mem_append.mp hc with hc | hc
      · rw [List.eq_of_mem_replicate hc]; decide
      rcases List.mem_append.mp hc with hc | hc
      · rw [List.eq_of_mem_replicate hc]; decide
      · rw [List.mem_singleton.mp hc]; decide
    · simp only [List.length_append, List.length_replicate, List.length_singleton]
      omega
theorem pc_small {p : Pc} (h : p.ok) : (∀ c ∈ p.l, c < 128) ∧ p.l.length ≤ 49 := by
  obtain ⟨_, _, _, a, b, c⟩ := h
  have h1 := labL_small p.k a
  have h2 := runL_small p.e b c
  constructor
  · intro d hd
    rcases List.mem_append.mp hd with hd | hd
    · exact h1.1 d hd
    · exact h2.1 d hd
  · simp only [Pc.l, List.length_append]; omega
theorem cat_small : ∀ (ps : List Pc), (∀ p ∈ ps, p.ok) → (∀ c ∈ catL ps, c < 128) ∧ (catL ps).length ≤ 49 * ps.length
  | [], _ => ⟨fun c hc => (nomatch hc), Nat.le_refl _⟩
  | p :: ps, h => by
    have h1 := pc_small (h p (.head _))
    have h2 := cat_small ps fun q hq => h q (.tail _ hq)
    constructor
    · intro d hd
      rcases List.mem_append.mp hd with hd | hd
      · exact h1.1 d hd
      · exact h2.1 d hd
    · simp only [catL, List.length_append, List.length_cons]; omega

/-- the octets of a text of small code points -/
def octs (x : Str) : Array UInt8 := x.cps.map (·.toUInt8)
theorem octs_list {x : Str} {l : List Nat} (hx : x.cps.toList = l) (h : ∀ c ∈ l, c < 128) : (octs x).toList.map (·.toNat) = l := by
  unfold octs
  rw [Array.toList_map, hx, List.map_map]
  conv => rhs; rw [← List.map_id l]
  refine List.map_congr_left fun c hc => ?_
  have := h c hc
  show (c.toUInt8).toNat = c
  rw [show c.toUInt8 = UInt8.ofNat c from rfl, UInt8.toNat_ofNat']
  omega
theorem octs_size {x : Str} {l : List Nat} (hx : x.cps.toList = l) : (octs x).size = l.length := by
  unfold octs
  rw [Array.size_map, ← hx, Array.length_toList]
theorem str_len {x : Str} {l : List Nat} (hx : x.cps.toList = l) : x.length = l.length := by rw [← hx, Array.length_toList]; rfl
theorem key_cat {x : Str} {ps : List Pc} {t : Tok} (hx : x.cps.toList = catL ps) (h : ∀ p ∈ ps, p.ok) (hn : ps.length ≤ 10) : Key (.bytes (octs x) t) (sumE ps) := by
  obtain ⟨r, h1, h2⟩ := strips_cat ps h
  have h3 := cat_small ps h
  refine ⟨_, t, r, rfl, ?_, ?_, h2.symm⟩
  · rw [octs_size hx]; omega
  · rw [octs_list hx h3.1]; exact h1
theorem ascii_cat {x : Str} {ps : List Pc} (hx : x.cps.toList = catL ps) (h : ∀ p ∈ ps, p.ok) : Ascii x := by
  intro c hc
  rw [hx] at hc
  exact (cat_small ps h).1 c hc
theorem len_cat {x : Str} {ps : List Pc} (hx : x.cps.toList = catL ps) (h : ∀ p ∈ ps, p.ok) : x.length ≤ 49 * ps.length := by
  rw [str_len hx]
  exact (cat_small ps h).2
end Mine

-- part W8
namespace Mine
open PySem PySem.W PySem.Calls PyProof.Rows
set_option Elab.async false
set_option maxRecDepth 100000
set_option maxHeartbeats 8000000

theorem str_use {w : World} {p : Program} {loose : List Str} {mean : ExcName → Option Value} {mg mb : Str → Option Value} {h₀ : Heap} {L fa f : Addr} {cd : Value} {m : Str → Option Value} {news : List (Addr × Obj)} {s : Shared} {Q E : Value → Shared → Prop} {vs : List Value} {x : Str}
    (K0 : Below callerA h₀ [] h₀) (F : Fr h₀ L s.heap m) (X : (Mine.hd.heap_39 w.params).In h₀) (N : News h₀ L s.heap news) (T : Top p loose mean mg mb h₀) (C : StrTells w f vs x)
    (ret : ∀ (t : Tok) (h' : Heap) (tk' : Nat), Fr h₀ L h' m → News h₀ L h' news → Q (.str x t) { s with heap := h', toks := tk' }) :
    wpAny (model Challenge.rw_wy0015_01.row.prog w) (callerA.deeper (lawEnv L fa cd)) (call (.ref f) vs) Q E s :=
  C p loose mean mg mb _ _ _ _ _ _ _ _ [] callerA h₀ h₀ L m news s Q E K0 F X N T rfl (by decide) (by decide) ret
theorem add_lab_run {prog : Program} {w : World} {A : Around} {E : Value → Shared → Prop} {s : Shared} {k e : Int} {c : Str} {ch : Nat} {t u : Tok} {Q : Value → Shared → Prop} (hc : c.cps = #[ch]) (hch : ch < 128) (he : -20 ≤ e ∧ e ≤ 20)
    (h : ∀ t' tk, Q (.str (labS k c ++ runS e) t') { s with toks := tk }) : wpAny (model prog w) A (binaryOp .Add (.str (labS k c) t) (.str (runS e) u)) Q E s := by
  refine PyProof.Rows.add_str h ?_
  have h1 := (labL_small k hch).2
  have h2 := (runL_small e he.1 he.2).2
  rw [str_len (labS_list k c ch hc), str_len (runS_list e), sizeLine_eq]
  omega
def pieceS (k : Int) (c : String) (e : Int) : Str := labS k (Str.ofString c) ++ runS e

theorem off_W8 : True := by w_top off; trivial
local macro_rules | `(tactic| walk_at "mine:pad0") => `(tactic| skip)


local macro_rules | `(tactic| walk_at "subscriptTail Name Slice ref ref") => `(tactic| (k_here; (with_reducible show wpAny _ _ (subscriptTail _ (PySem.Expr.Slice _ none (some _) _) (Value.ref _) (Value.ref _)) _ _ _); k_dflt (refine' slice_step ?F ?N ?l ?p ?q ?k ?o ?i ?_ ?s ?t ?z; (case F => k_asm); (case N => k_asm); (case l => kmk_list); (case p => kmk_part); (case q => kmk_part); (case k => kmk_part); (case o => decide); (case i => l_ints); (case s => with_unfolding_all rfl); (case t => kmk_pure); (case z => kmk_size)); intro D' ws' h' ms' F' N' l1 hI'; (try k_lt l1); (try k_sweep)))

local macro_rules | `(tactic| walk_at "eval ListComp") => `(tactic| (k_here; k_dflt (refine LCg.ListComp_U (F₀ := by k_asm) (by rfl) (by decide) (by rfl) (by decide) (by rfl) ?_); k_dflt lcg_toSrc))
local macro_rules | `(tactic| walk_at "exec Assign cons ListComp") => `(tactic| (k_here; k_dflt (refine LCg.Assign_ListComp_U (F₀ := by k_asm) (by rfl) (by with_unfolding_all rfl) (by rfl) (by decide) (by rfl) (by decide) (by rfl) (by rfl) (by rfl) ?_); k_dflt lcg_toSrc))
local macro_rules | `(tactic| walk_at "CompSrc") => `(tactic| (k_here; k_dflt (first
  | (refine LCg.CompSrc.ledger (by rfl) (by k_asm) (by k_asm) (by k_mem) (by first | size_fits | exact Nat.le_of_ble_eq_true rfl) ?_; intro g'; lcg_lit)
  | (refine LCg.CompSrc.base (by rfl) (by k_asm) (by k_asm) (by assumption) (by first | size_fits | exact Nat.le_of_ble_eq_true rfl) ?_; intro g'; lcg_lit)
  | (refine LCg.CompSrc.range (by rfl) (by k_asm) (by k_asm) (by assumption) (by first | decide | rfl) (by first | rfl | decide) (by first | size_fits | exact Nat.le_of_ble_eq_true rfl) ?_; intro g'; lcg_lit))))
local macro_rules | `(tactic| walk_at "eval Name") => `(tactic| (k_here; (with_reducible show wpAny _ _ (eval (PySem.Expr.Name _ _) (compEnvC _ _ _ _)) _ _ _); k_dflt (first
  | refine LCgL.ld_own (by k_asm) (by k_mem) (by with_reducible assumption) (by with_reducible assumption) ?_
  | refine lcf_free (by k_asm) (by rfl) (by k_mem) (by with_reducible assumption) ?_
  | refine LCgL.ld_global (by k_asm) (by k_asm) (by k_asm) (by k_is) ?_
  | refine LCgL.ld_built (by k_asm) (by k_asm) (by k_asm) (by k_is) (by boot_by_name) (by decide) ?_)))
local macro_rules | `(tactic| walk_at "mine:go") => `(tactic| (repeat' ((fail_if_success (with_reducible show LCg.CompRest _ _ _ _ _ _ _ _ _ _ _ _ _ _ _ _ _ _ _)); (fail_if_success (with_reducible show wpAny _ _ (execs (_ :: _) _) _ _ _)); first | (k_unfold; (try dsimp only)) | walk1 | (dsimp only; walk1) | (leave1; walk_say "STEP leave1"; (try dsimp only)))))
local macro_rules | `(tactic| walk_at "mine:line") => `(tactic| (walk1; (try ((with_reducible show wpAny _ _ (execs (_ :: _) _) _ _ _); walk1)); walk_at "mine:go"))
local macro_rules | `(tactic| walk_at "mine:sub") => `(tactic| (intro p hp; (repeat (first | exact hp | apply List.mem_cons_of_mem))))

local macro_rules | `(tactic| walk_at "mine:look") => `(tactic| first | assumption | (refine Fr_eq (by assumption) ?_; intro z; first | exact rfl | (simp only [look_cons]; exact rfl) | (simp only [look_cons]; done) | (dsimp only; exact rfl)))
local macro_rules | `(tactic| walk_at "mine:led") => `(tactic| (refine news_sub (by assumption) ?_; (try unfold cellsN); lcg_sub))
local macro_rules | `(tactic| walk_at "mine:part") => `(tactic| (refine Apart.sub (by assumption) ?_; (try unfold cellsN); repeat (first | exact List.Sublist.slnil | refine List.Sublist.cons_cons _ ?_ | refine List.Sublist.cons _ ?_)))
local macro_rules | `(tactic| walk_at "mine:at") => `(tactic| first | exact AtIn.head | (refine' AtIn.tail ?b; (case b => walk_at "mine:at")))
local macro_rules | `(tactic| walk_at "storeName") => `(tactic| (k_here; k_dflt (refine' storeA ?F ?N ?P ?c ?U ?d ?_ ?a ?b; (case a => rfl); (case b => rfl); (case F => k_asm); (case N => k_asm); (case P => with_reducible assumption); (case c => rfl); (case U => walk_at "mine:at"); (case d => k_asm); k_whole); intro h' o' F' N' P' d'; (try dsimp only at N' P'); (try k_sweep)))
local macro_rules | `(tactic| walk_at "newList") => `(tactic| (k_here; k_dflt (refine' newList_K ?k1 ?k2 ?_; (case k1 => k_asm); (case k2 => k_asm); k_whole); intro l' h' F' N' l1; have P' := Apart.below N' l1 (by with_reducible assumption); clear l1; (try k_sweep)))
local macro_rules | `(tactic| walk_at "call builtin:list.append") => `(tactic| (k_here; k_dflt (refine' appendA ?F ?N ?P ?U ?_ ?z; (case F => k_asm); (case N => k_asm); (case P => with_reducible assumption); (case U => walk_at "mine:at"); (case z => exact Nat.le_of_ble_eq_true rfl); k_whole); intro h' F' N' P'; (try simp only [List.push_toArray, List.cons_append, List.nil_append] at N' P'); (try k_sweep)))
local macro_rules | `(tactic| walk_at "FinE") => `(tactic| ((unfold LCg.FinE); intro D' h' tk' F' N' o1'; have P' := Apart.cons' N' o1' (by with_reducible assumption); clear o1'; (try simp only [List.nil_append, List.cons_append] at N' P'); (try dsimp only); (try k_sweep)))
local macro_rules | `(tactic| walk_at "FinA") => `(tactic| ((unfold LCg.FinA); intro D' h' tk' F' N' o1'; have P' := Apart.cons' N' o1' (by with_reducible assumption); clear o1'; (try simp only [List.nil_append, List.cons_append] at N' P'); (try dsimp only); (try k_sweep)))


local macro_rules | `(tactic| walk_at "binaryOp Add str str") => `(tactic| (k_here; (with_reducible show wpAny _ _ (binaryOp Operator.Add (Value.str (labS _ _) _) (Value.str (runS _) _)) _ _ _); k_dflt (refine add_lab_run rfl (by decide) (by assumption) ?_; intro _ _)))
local macro_rules | `(tactic| walk_at "call ref") => `(tactic| (k_here; (with_reducible show wpAny _ _ (call (Value.ref 126) _) _ _ _); k_dflt (refine' str_use ?k1 ?k2 ?k3 ?k4 ?k5 (run1 _ _ _ ?kH ?kG) ?_; (case k1 => k_asm); (case k2 => k_asm); (case k3 => k_asm); (case k4 => k_asm); (case k5 => k_asm); (case kH => first | omega | exact And.left (by assumption)); (case kG => first | omega | exact And.right (by assumption)); k_whole; intro t1' h' tk' F' N'; (try dsimp only); (try k_sweep))))
theorem segB2 {w : World} {mean : ExcName → Option Value} {mg mb : Str → Option Value} {h₀ : Heap} {L a : Addr} {cd : Value} {s : Shared} {Q : Flow → Shared → Prop} {E : Value → Shared → Prop} {A : Addr} {c0 c1 c2 c3 : Int} {t0 t1 t2 t3 : Tok} {o1 o2 o3 o4 o5 o6 : Obj}
    (C : LawCtx w mean mg mb h₀) (K0 : Below callerA h₀ [] h₀) {e0 e1 e2 e3 e4 k0 k1 k2 k3 k4 : Int} {u0 u1 u2 u3 u4 v0 v1 v2 v3 v4 : Tok} {B G H T0 T1 T2 T3 T4 : Addr} {ep ep' : Nat} {p0 p1 p2 p3 p4 : Obj}
    (d3 : o3.data = .cell (some (.ref B))) (d5 : o5.data = .cell (some (.ref H))) (d6 : o6.data = .cell none)
    (hp0 : IsPartO k0 "a" p0) (hp1 : IsPartO k1 "b" p1) (hp2 : IsPartO k2 "c" p2) (hp3 : IsPartO k3 "d" p3) (hp4 : IsPartO k4 "e" p4)
    (he0 : -20 ≤ e0 ∧ e0 ≤ 20) (he1 : -20 ≤ e1 ∧ e1 ≤ 20) (he2 : -20 ≤ e2 ∧ e2 ≤ 20) (he3 : -20 ≤ e3 ∧ e3 ≤ 20) (he4 : -20 ≤ e4 ∧ e4 ≤ 20)
    (next : ∀ w0 w1 w2 w3 w4 J (o6 : Obj), o6.data = .cell (some (.ref J)) →
      Goes w h₀ L a cd Q E s 8 [(Str.ofString "cells", .ref A)] ((J, LCg.lst [.str (pieceS k0 "a" e0) w0, .str (pieceS k1 "b" e1) w1, .str (pieceS k2 "c" e2) w2, .str (pieceS k3 "d" e3) w3, .str (pieceS k4 "e" e4) w4]) :: (H, LCg.lst [.ref T0, .ref T1, .ref T2, .ref T3, .ref T4]) :: (T4, p4) :: (T3, p3) :: (T2, p2) :: (T1, p1) :: (T0, p0) :: (B, listOf #[.int e0 u0, .int e1 u1, .int e2 u2, .int e3 u3, .int e4 u4] ep) :: (A, LCg.lst [.int c0 t0, .int c1 t1, .int c2 t2, .int c3 t3]) :: cellsN L o1 o2 o3 o4 o5 o6)) :
    Goes w h₀ L a cd Q E s 7 [(Str.ofString "cells", .ref A)] ((H, LCg.lst [.ref T0, .ref T1, .ref T2, .ref T3, .ref T4]) :: (T4, p4) :: (T3, p3) :: (T2, p2) :: (T1, p1) :: (T0, p0) :: (B, listOf #[.int e0 u0, .int e1 u1, .int e2 u2, .int e3 u3, .int e4 u4] ep) :: (A, LCg.lst [.int c0 t0, .int c1 t1, .int c2 t2, .int c3 t3]) :: cellsN L o1 o2 o3 o4 o5 o6) := by
  obtain ⟨KX, X, V, GL, T, B, TE, TW⟩ := C
  intro h tk F N P
  revert KX
  k_fill
  intro KX
  unfold cellsN at N P
  obtain ⟨x0, y0, z0, rfl⟩ := hp0
  obtain ⟨x1, y1, z1, rfl⟩ := hp1
  obtain ⟨x2, y2, z2, rfl⟩ := hp2
  obtain ⟨x3, y3, z3, rfl⟩ := hp3
  obtain ⟨x4, y4, z4, rfl⟩ := hp4
  conv in (execs _ _) => arg 1; whnf
  walk_at "mine:line"
  refine comp_step (fun y => ∃ t, y = Value.str (pieceS k0 "a" e0) t) ?_ ?_ ?_
  · intro v I oI C oC D m₂ h tk E' hv hC hx F N ret
    obtain ⟨t9, rfl⟩ := hv
    walk_at "mine:go"
    exact ret _ _ _ _ (by assumption) (by assumption) (by walk_at "mine:sub") ⟨_, rfl⟩
  · exact True.intro
  rintro _ ⟨w0, rfl⟩
  refine comp_step (fun y => ∃ t, y = Value.str (pieceS k1 "b" e1) t) ?_ ?_ ?_
  · intro v I oI C oC D m₂ h tk E' hv hC hx F N ret
    obtain ⟨t9, rfl⟩ := hv
    walk_at "mine:go"
    exact ret _ _ _ _ (by assumption) (by assumption) (by walk_at "mine:sub") ⟨_, rfl⟩
  · exact True.intro
  rintro _ ⟨w1, rfl⟩
  refine comp_step (fun y => ∃ t, y = Value.str (pieceS k2 "c" e2) t) ?_ ?_ ?_
  · intro v I oI C oC D m₂ h tk E' hv hC hx F N ret
    obtain ⟨t9, rfl⟩ := hv
    walk_at "mine:go"
    exact ret _ _ _ _ (by assumption) (by assumption) (by walk_at "mine:sub") ⟨_, rfl⟩
  · exact True.intro
  rintro _ ⟨w2, rfl⟩
  refine comp_step (fun y => ∃ t, y = Value.str (pieceS k3 "d" e3) t) ?_ ?_ ?_
  · intro v I oI C oC D m₂ h tk E' hv hC hx F N ret
    obtain ⟨t9, rfl⟩ := hv
    walk_at "mine:go"
    exact ret _ _ _ _ (by assumption) (by assumption) (by walk_at "mine:sub") ⟨_, rfl⟩
  · exact True.intro
  rintro _ ⟨w3, rfl⟩
  refine comp_step (fun y => ∃ t, y = Value.str (pieceS k4 "e" e4) t) ?_ ?_ ?_
  · intro v I oI C oC D m₂ h tk E' hv hC hx F N ret
    obtain ⟨t9, rfl⟩ := hv
    walk_at "mine:go"
    exact ret _ _ _ _ (by assumption) (by assumption) (by walk_at "mine:sub") ⟨_, rfl⟩
  · exact True.intro
  rintro _ ⟨w4, rfl⟩
  refine LCg.CompRest.zero ?_
  walk_at "mine:go"
  refine' next w0 w1 w2 w3 w4 _ _ (by assumption) _ _ ?F ?N ?P
  case F => walk_at "mine:look"
  case N => walk_at "mine:led"
  case P => walk_at "mine:part"
end Mine

-- part W9
namespace Mine
open PySem PySem.W PySem.Calls PyProof.Rows
set_option Elab.async false
set_option maxRecDepth 100000
set_option maxHeartbeats 8000000

inductive StrsAre : List Value → List Pc → Prop
  | nil : StrsAre [] []
  | cons {q : Str} {w : Tok} {p : Pc} {vs : List Value} {ps : List Pc} : q.cps.toList = p.l → StrsAre vs ps → StrsAre (.str q w :: vs) (p :: ps)
theorem StrsAre.out {vs : List Value} {ps : List Pc} (h : StrsAre vs ps) : ∃ l : List (Str × Tok), vs = strValues l ∧ (∀ y ∈ l.map (·.1), ∃ p ∈ ps, y.cps.toList = p.l) ∧ (l.map (·.1)).length = ps.length ∧ ((Str.join (Str.ofString "") (l.map (·.1))).cps.toList = catL ps) := by
  induction h with
  | nil => exact ⟨[], rfl, fun y hy => (nomatch hy), rfl, rfl⟩
  | @cons q w p vs ps hq hv ih =>
    obtain ⟨l, rfl, h1, h2, h3⟩ := ih
    refine ⟨(q, w) :: l, rfl, ?_, by simpa using h2, ?_⟩
    · intro y hy
      rcases List.mem_cons.mp hy with rfl | hy
      · exact ⟨p, .head _, hq⟩
      · obtain ⟨p', a, b⟩ := h1 y hy
        exact ⟨p', .tail _ a, b⟩
    · cases l with
      | nil =>
        cases ps with
        | nil => simp [Str.join, catL, hq]
        | cons _ _ => simp at h2
      | cons a l =>
        have e0 : (Str.ofString "").cps.toList = [] := rfl
        show (q ++ Str.ofString "" ++ Str.join (Str.ofString "") (List.map (·.1) (a :: l))).cps.toList = _
        rw [Str.cps_append, Str.cps_append, Array.toList_append, Array.toList_append, h3, hq, e0]
        simp [catL]
theorem join_pcs {prog : Program} {w : World} {A : Around} {E : Value → Shared → Prop} {s : Shared} {t : Tok} {Q : Value → Shared → Prop} {D : Addr} {vs : List Value} {ps : List Pc} (hl : s.heap.IsList D vs.toArray) (hv : StrsAre vs ps) (hk : ∀ p ∈ ps, p.ok) (hn : ps.length ≤ 10)
    (hq : ∀ f t' k, f.cps.toList = catL ps → Q (.str f t') { s with toks := k }) : wpAny (model prog w) A (call (.builtin "str.join") [.str (Str.ofString "") t, .ref D]) Q E s := by
  obtain ⟨l, rfl, h1, h2, h3⟩ := hv.out
  refine SC.join (texts := l.map (·.1)) hl rfl ?_ fun t' k => hq _ t' k (by first | exact h3 | (rw [show Txt.join (Str.ofString "") (l.map (·.1)) = Str.join (Str.ofString "") (l.map (·.1)) from StrLaws.glued_eq_join _ _]; exact h3))
  unfold JoinOk
  rw [Bool.not_eq_true']
  refine StrLaws.joinFits (B := 49) (fun y hy => ?_) ?_
  · obtain ⟨p, a, b⟩ := h1 y hy
    rw [str_len b]
    exact (pc_small (hk p a)).2
  · rw [h2]
    rw [show (Str.ofString "").length = 0 from rfl]
    omega
theorem enc_pcs {prog : Program} {w : World} {A : Around} {E : Value → Shared → Prop} {s : Shared} {x : Str} {t : Tok} {Q : Value → Shared → Prop} {ps : List Pc} (hx : x.cps.toList = catL ps) (hk : ∀ p ∈ ps, p.ok) (hn : ps.length ≤ 10)
    (h : ∀ t' k, Q (.bytes (octs x) t') { s with toks := k }) : wpAny (model prog w) A (call (.builtin "str.encode") [.str x t]) Q E s :=
  call_encode (ascii_cat hx hk) (by have := len_cat hx hk; omega) h

theorem off_W9 : True := by w_top off; trivial


local macro_rules | `(tactic| walk_at "subscriptTail Name Slice ref ref") => `(tactic| (k_here; (with_reducible show wpAny _ _ (subscriptTail _ (PySem.Expr.Slice _ none (some _) _) (Value.ref _) (Value.ref _)) _ _ _); k_dflt (refine' slice_step ?F ?N ?l ?p ?q ?k ?o ?i ?_ ?s ?t ?z; (case F => k_asm); (case N => k_asm); (case l => kmk_list); (case p => kmk_part); (case q => kmk_part); (case k => kmk_part); (case o => decide); (case i => l_ints); (case s => with_unfolding_all rfl); (case t => kmk_pure); (case z => kmk_size)); intro D' ws' h' ms' F' N' l1 hI'; (try k_lt l1); (try k_sweep)))

local macro_rules | `(tactic| walk_at "eval ListComp") => `(tactic| (k_here; k_dflt (refine LCg.ListComp_U (F₀ := by k_asm) (by rfl) (by decide) (by rfl) (by decide) (by rfl) ?_); k_dflt lcg_toSrc))
local macro_rules | `(tactic| walk_at "exec Assign cons ListComp") => `(tactic| (k_here; k_dflt (refine LCg.Assign_ListComp_U (F₀ := by k_asm) (by rfl) (by with_unfolding_all rfl) (by rfl) (by decide) (by rfl) (by decide) (by rfl) (by rfl) (by rfl) ?_); k_dflt lcg_toSrc))
local macro_rules | `(tactic| walk_at "CompSrc") => `(tactic| (k_here; k_dflt (first
  | (refine LCg.CompSrc.ledger (by rfl) (by k_asm) (by k_asm) (by k_mem) (by first | size_fits | exact Nat.le_of_ble_eq_true rfl) ?_; intro g'; lcg_lit)
  | (refine LCg.CompSrc.base (by rfl) (by k_asm) (by k_asm) (by assumption) (by first | size_fits | exact Nat.le_of_ble_eq_true rfl) ?_; intro g'; lcg_lit)
  | (refine LCg.CompSrc.range (by rfl) (by k_asm) (by k_asm) (by assumption) (by first | decide | rfl) (by first | rfl | decide) (by first | size_fits | exact Nat.le_of_ble_eq_true rfl) ?_; intro g'; lcg_lit))))
local macro_rules | `(tactic| walk_at "eval Name") => `(tactic| (k_here; (with_reducible show wpAny _ _ (eval (PySem.Expr.Name _ _) (compEnvC _ _ _ _)) _ _ _); k_dflt (first
  | refine LCgL.ld_own (by k_asm) (by k_mem) (by with_reducible assumption) (by with_reducible assumption) ?_
  | refine lcf_free (by k_asm) (by rfl) (by k_mem) (by with_reducible assumption) ?_
  | refine LCgL.ld_global (by k_asm) (by k_asm) (by k_asm) (by k_is) ?_
  | refine LCgL.ld_built (by k_asm) (by k_asm) (by k_asm) (by k_is) (by boot_by_name) (by decide) ?_)))
local macro_rules | `(tactic| walk_at "mine:go") => `(tactic| (repeat' ((fail_if_success (with_reducible show LCg.CompRest _ _ _ _ _ _ _ _ _ _ _ _ _ _ _ _ _ _ _)); (fail_if_success (with_reducible show wpAny _ _ (execs (_ :: _) _) _ _ _)); first | (k_unfold; (try dsimp only)) | walk1 | (dsimp only; walk1) | (leave1; walk_say "STEP leave1"; (try dsimp only)))))
local macro_rules | `(tactic| walk_at "mine:line") => `(tactic| (walk1; (try ((with_reducible show wpAny _ _ (execs (_ :: _) _) _ _ _); walk1)); walk_at "mine:go"))
local macro_rules | `(tactic| walk_at "mine:sub") => `(tactic| (intro p hp; (repeat (first | exact hp | apply List.mem_cons_of_mem))))

local macro_rules | `(tactic| walk_at "mine:look") => `(tactic| first | assumption | (refine Fr_eq (by assumption) ?_; intro z; first | exact rfl | (simp only [look_cons]; exact rfl) | (simp only [look_cons]; done) | (dsimp only; exact rfl)))
local macro_rules | `(tactic| walk_at "mine:led") => `(tactic| (refine news_sub (by assumption) ?_; (try unfold cellsN); lcg_sub))
local macro_rules | `(tactic| walk_at "mine:part") => `(tactic| (refine Apart.sub (by assumption) ?_; (try unfold cellsN); repeat (first | exact List.Sublist.slnil | refine List.Sublist.cons_cons _ ?_ | refine List.Sublist.cons _ ?_)))
local macro_rules | `(tactic| walk_at "mine:at") => `(tactic| first | exact AtIn.head | (refine' AtIn.tail ?b; (case b => walk_at "mine:at")))
local macro_rules | `(tactic| walk_at "storeName") => `(tactic| (k_here; k_dflt (refine' storeA ?F ?N ?P ?c ?U ?d ?_ ?a ?b; (case a => rfl); (case b => rfl); (case F => k_asm); (case N => k_asm); (case P => with_reducible assumption); (case c => rfl); (case U => walk_at "mine:at"); (case d => k_asm); k_whole); intro h' o' F' N' P' d'; (try dsimp only at N' P'); (try k_sweep)))
local macro_rules | `(tactic| walk_at "newList") => `(tactic| (k_here; k_dflt (refine' newList_K ?k1 ?k2 ?_; (case k1 => k_asm); (case k2 => k_asm); k_whole); intro l' h' F' N' l1; have P' := Apart.below N' l1 (by with_reducible assumption); clear l1; (try k_sweep)))
local macro_rules | `(tactic| walk_at "call builtin:list.append") => `(tactic| (k_here; k_dflt (refine' appendA ?F ?N ?P ?U ?_ ?z; (case F => k_asm); (case N => k_asm); (case P => with_reducible assumption); (case U => walk_at "mine:at"); (case z => exact Nat.le_of_ble_eq_true rfl); k_whole); intro h' F' N' P'; (try simp only [List.push_toArray, List.cons_append, List.nil_append] at N' P'); (try k_sweep)))
local macro_rules | `(tactic| walk_at "FinE") => `(tactic| ((unfold LCg.FinE); intro D' h' tk' F' N' o1'; have P' := Apart.cons' N' o1' (by with_reducible assumption); clear o1'; (try simp only [List.nil_append, List.cons_append] at N' P'); (try dsimp only); (try k_sweep)))
local macro_rules | `(tactic| walk_at "FinA") => `(tactic| ((unfold LCg.FinA); intro D' h' tk' F' N' o1'; have P' := Apart.cons' N' o1' (by with_reducible assumption); clear o1'; (try simp only [List.nil_append, List.cons_append] at N' P'); (try dsimp only); (try k_sweep)))


local macro_rules | `(tactic| walk_at "mine:oks") => `(tactic| (repeat (first | exact List.forall_mem_nil _ | refine List.forall_mem_cons.mpr ⟨by assumption, ?_⟩)))
local macro_rules | `(tactic| walk_at "mine:strs") => `(tactic| (first | exact StrsAre.nil | (refine' StrsAre.cons ?a ?b; (case a => assumption); (case b => walk_at "mine:strs"))))
local macro_rules | `(tactic| walk_at "call builtin:str.join") => `(tactic| (k_here; (with_reducible show wpAny _ _ (call (Value.builtin "str.join") [Value.str _ _, Value.ref _]) _ _ _); k_dflt (refine' join_pcs ?jl ?jS ?jk ?jn ?_; (case jl => kmk_list); (case jS => walk_at "mine:strs"); (case jk => walk_at "mine:oks"); (case jn => exact Nat.le_of_ble_eq_true rfl)); intro f' t' k' hf'))
local macro_rules | `(tactic| walk_at "getMethod str") => `(tactic| (k_here; (refine gm_encode ?_)))
local macro_rules | `(tactic| walk_at "call builtin:str.encode") => `(tactic| (k_here; k_dflt (refine' enc_pcs ?ex ?ek ?en ?_; (case ex => assumption); (case ek => walk_at "mine:oks"); (case en => exact Nat.le_of_ble_eq_true rfl)); intro t' k'))
theorem segB3 {w : World} {mean : ExcName → Option Value} {mg mb : Str → Option Value} {h₀ : Heap} {L a : Addr} {cd : Value} {s : Shared} {Q : Flow → Shared → Prop} {E : Value → Shared → Prop} {A : Addr} {c0 c1 c2 c3 : Int} {t0 t1 t2 t3 : Tok} {o1 o2 o3 o4 o5 o6 : Obj}
    (C : LawCtx w mean mg mb h₀) (K0 : Below callerA h₀ [] h₀) {e0 e1 e2 e3 e4 : Int} {u0 u1 u2 u3 u4 w0 w1 w2 w3 w4 : Tok} {B H J T0 T1 T2 T3 T4 : Addr} {ep : Nat} {p0 p1 p2 p3 p4 : Obj} {q0 q1 q2 q3 q4 : Str} {P0 P1 P2 P3 P4 : Pc}
    (d6 : o6.data = .cell (some (.ref J))) (hq0 : q0.cps.toList = P0.l) (hq1 : q1.cps.toList = P1.l) (hq2 : q2.cps.toList = P2.l) (hq3 : q3.cps.toList = P3.l) (hq4 : q4.cps.toList = P4.l) (hk0 : P0.ok) (hk1 : P1.ok) (hk2 : P2.ok) (hk3 : P3.ok) (hk4 : P4.ok)
    (next : ∀ f0 f1 f2 f3 f4 x0 x1 x2 x3 x4 M, f0.cps.toList = catL [] → f1.cps.toList = catL [P0] → f2.cps.toList = catL [P0, P1] → f3.cps.toList = catL [P0, P1, P2] → f4.cps.toList = catL [P0, P1, P2, P3] →
      Goes w h₀ L a cd Q E s 9 [(Str.ofString "fronts", .ref M), (Str.ofString "cells", .ref A)] ((M, LCg.lst [.bytes (octs f0) x0, .bytes (octs f1) x1, .bytes (octs f2) x2, .bytes (octs f3) x3, .bytes (octs f4) x4]) :: (J, LCg.lst [.str q0 w0, .str q1 w1, .str q2 w2, .str q3 w3, .str q4 w4]) :: (H, LCg.lst [.ref T0, .ref T1, .ref T2, .ref T3, .ref T4]) :: (T4, p4) :: (T3, p3) :: (T2, p2) :: (T1, p1) :: (T0, p0) :: (B, listOf #[.int e0 u0, .int e1 u1, .int e2 u2, .int e3 u3, .int e4 u4] ep) :: (A, LCg.lst [.int c0 t0, .int c1 t1, .int c2 t2, .int c3 t3]) :: cellsN L o1 o2 o3 o4 o5 o6)) :
    Goes w h₀ L a cd Q E s 8 [(Str.ofString "cells", .ref A)] ((J, LCg.lst [.str q0 w0, .str q1 w1, .str q2 w2, .str q3 w3, .str q4 w4]) :: (H, LCg.lst [.ref T0, .ref T1, .ref T2, .ref T3, .ref T4]) :: (T4, p4) :: (T3, p3) :: (T2, p2) :: (T1, p1) :: (T0, p0) :: (B, listOf #[.int e0 u0, .int e1 u1, .int e2 u2, .int e3 u3, .int e4 u4] ep) :: (A, LCg.lst [.int c0 t0, .int c1 t1, .int c2 t2, .int c3 t3]) :: cellsN L o1 o2 o3 o4 o5 o6) := by
  obtain ⟨KX, X, V, GL, T, B, TE, TW⟩ := C
  intro h tk F N P
  revert KX
  k_fill
  intro KX
  unfold cellsN at N P
  conv in (execs _ _) => arg 1; whnf
  walk_at "mine:line"
  refine comp_step (fun y => ∃ f t, y = Value.bytes (octs f) t ∧ f.cps.toList = catL []) ?_ ?_ ?_
  · intro v I oI C oC D m₂ h tk E' hv hC hx F N ret
    obtain ⟨t9, rfl⟩ := hv
    walk_at "mine:go"
    refine ret _ _ _ _ (by assumption) (by assumption) (by walk_at "mine:sub") ⟨_, _, rfl, ?_⟩
    assumption
  · exact True.intro
  rintro _ ⟨f0, x0, rfl, hf0⟩
  refine comp_step (fun y => ∃ f t, y = Value.bytes (octs f) t ∧ f.cps.toList = catL [P0]) ?_ ?_ ?_
  · intro v I oI C oC D m₂ h tk E' hv hC hx F N ret
    obtain ⟨t9, rfl⟩ := hv
    walk_at "mine:go"
    refine ret _ _ _ _ (by assumption) (by assumption) (by walk_at "mine:sub") ⟨_, _, rfl, ?_⟩
    assumption
  · exact True.intro
  rintro _ ⟨f1, x1, rfl, hf1⟩
  refine comp_step (fun y => ∃ f t, y = Value.bytes (octs f) t ∧ f.cps.toList = catL [P0, P1]) ?_ ?_ ?_
  · intro v I oI C oC D m₂ h tk E' hv hC hx F N ret
    obtain ⟨t9, rfl⟩ := hv
    walk_at "mine:go"
    refine ret _ _ _ _ (by assumption) (by assumption) (by walk_at "mine:sub") ⟨_, _, rfl, ?_⟩
    assumption
  · exact True.intro
  rintro _ ⟨f2, x2, rfl, hf2⟩
  refine comp_step (fun y => ∃ f t, y = Value.bytes (octs f) t ∧ f.cps.toList = catL [P0, P1, P2]) ?_ ?_ ?_
  · intro v I oI C oC D m₂ h tk E' hv hC hx F N ret
    obtain ⟨t9, rfl⟩ := hv
    walk_at "mine:go"
    refine ret _ _ _ _ (by assumption) (by assumption) (by walk_at "mine:sub") ⟨_, _, rfl, ?_⟩
    assumption
  · exact True.intro
  rintro _ ⟨f3, x3, rfl, hf3⟩
  refine comp_step (fun y => ∃ f t, y = Value.bytes (octs f) t ∧ f.cps.toList = catL [P0, P1, P2, P3]) ?_ ?_ ?_
  · intro v I oI C oC D m₂ h tk E' hv hC hx F N ret
    obtain ⟨t9, rfl⟩ := hv
    walk_at "mine:go"
    refine ret _ _ _ _ (by assumption) (by assumption) (by walk_at "mine:sub") ⟨_, _, rfl, ?_⟩
    assumption
  · exact True.intro
  rintro _ ⟨f4, x4, rfl, hf4⟩
  refine LCg.CompRest.zero ?_
  walk_at "mine:go"
  refine' next f0 f1 f2 f3 f4 x0 x1 x2 x3 x4 _ hf0 hf1 hf2 hf3 hf4 _ _ ?F ?N ?P
  case F => walk_at "mine:look"
  case N => walk_at "mine:led"
  case P => walk_at "mine:part"
end Mine

-- part P2
namespace Mine
open PySem PySem.W PyProof.Rows
set_option maxRecDepth 100000

theorem insLR (x y : Int × Value) : ∀ l, insL x (insR y l) = insR y (insL x l)
  | [] => by
    simp only [insL, insR]
    by_cases h : y.1 < x.1
    · rw [if_pos h, if_neg (by omega)]
    · rw [if_neg h, if_pos (by omega)]
  | z :: r => by
    have ih := insLR x y r
    simp only [insL, insR]
    by_cases h1 : z.1 ≤ y.1
    · by_cases h2 : z.1 < x.1
      · simp only [h1, h2, if_true, insL, insR, ih]
      · have h3 : x.1 ≤ y.1 := by omega
        simp only [h1, h2, if_true, if_false, insL, insR, h3]
    · by_cases h2 : z.1 < x.1
      · have h3 : y.1 < x.1 := by omega
        simp only [h1, h2, h3, if_true, if_false, insL, insR]
      · by_cases h3 : y.1 < x.1
        · have h4 : ¬ x.1 ≤ y.1 := by omega
          simp only [h1, h2, h3, h4, if_true, if_false, insL, insR]
        · have h4 : x.1 ≤ y.1 := by omega
          simp only [h1, h2, h3, h4, if_true, if_false, insL, insR]
theorem ins_nil (x : Int × Value) : insL x [] = insR x [] := rfl
theorem rows_eq (a b c d e : Int × Value) : insL e (insL d (insL c (insL b (insL a [])))) = insR a (insR b (insR c (insR d (insR e [])))) := by
  rw [ins_nil a, insLR b a, ins_nil b, insLR c a, insLR c b, ins_nil c, insLR d a, insLR d b, insLR d c, ins_nil d, insLR e a, insLR e b, insLR e c, insLR e d, ins_nil e]

def Sorted (l : List (Int × Value)) : Prop := l.Pairwise fun a b => a.1 ≤ b.1
theorem insL_mem (x : Int × Value) : ∀ l, ∀ q ∈ insL x l, q = x ∨ q ∈ l
  | [], q, h => .inl (List.mem_singleton.mp h)
  | z :: r, q, h => by
    simp only [insL] at h
    split at h
    · rcases List.mem_cons.mp h with rfl | h
      · exact .inr (.head _)
      · rcases insL_mem x r q h with h | h
        · exact .inl h
        · exact .inr (.tail _ h)
    · rcases List.mem_cons.mp h with rfl | h
      · exact .inl rfl
      · exact .inr h
theorem insR_mem (x : Int × Value) : ∀ l, ∀ q ∈ insR x l, q = x ∨ q ∈ l
  | [], q, h => .inl (List.mem_singleton.mp h)
  | z :: r, q, h => by
    simp only [insR] at h
    split at h
    · rcases List.mem_cons.mp h with rfl | h
      · exact .inr (.head _)
      · rcases insR_mem x r q h with h | h
        · exact .inl h
        · exact .inr (.tail _ h)
    · rcases List.mem_cons.mp h with rfl | h
      · exact .inl rfl
      · exact .inr h
theorem insL_sorted (x : Int × Value) : ∀ l, Sorted l → Sorted (insL x l)
  | [], _ => List.pairwise_singleton ..
  | z :: r, h => by
    obtain ⟨h1, h2⟩ := List.pairwise_cons.mp h
    simp only [insL]
    split
    · refine List.pairwise_cons.mpr ⟨fun q hq => ?_, insL_sorted x r h2⟩
      rcases insL_mem x r q hq with rfl | hq
      · omega
      · exact h1 q hq
    · refine List.pairwise_cons.mpr ⟨fun q hq => ?_, h⟩
      rcases List.mem_cons.mp hq with rfl | hq
      · omega
      · have := h1 q hq; omega
theorem insR_sorted (x : Int × Value) : ∀ l, Sorted l → Sorted (insR x l)
  | [], _ => List.pairwise_singleton ..
  | z :: r, h => by
    obtain ⟨h1, h2⟩ := List.pairwise_cons.mp h
    simp only [insR]
    split
    · refine List.pairwise_cons.mpr ⟨fun q hq => ?_, insR_sorted x r h2⟩
      rcases insR_mem x r q hq with rfl | hq
      · omega
      · exact h1 q hq
    · refine List.pairwise_cons.mpr ⟨fun q hq => ?_, h⟩
      rcases List.mem_cons.mp hq with rfl | hq
      · omega
      · have := h1 q hq; omega
theorem insL_len (x : Int × Value) : ∀ l, (insL x l).length = l.length + 1
  | [] => rfl
  | z :: r => by
    simp only [insL]
    split
    · simp [insL_len x r]
    · simp
theorem insR_len (x : Int × Value) : ∀ l, (insR x l).length = l.length + 1
  | [] => rfl
  | z :: r => by
    simp only [insR]
    split
    · simp [insR_len x r]
    · simp

/-- a row as it grows: sorted, its keys true -/
structure RowOk (n : Nat) (l : List (Int × Value)) : Prop where
  len : l.length = n
  srt : Sorted l
  key : ∀ q ∈ l, Key q.2 q.1
theorem RowOk.nil : RowOk 0 [] := ⟨rfl, List.Pairwise.nil, fun q h => (nomatch h)⟩
theorem RowOk.left {n : Nat} {l : List (Int × Value)} {d : Int} {v : Value} (h : RowOk n l) (hk : Key v d) : RowOk (n + 1) (insL (d, v) l) :=
  ⟨by rw [insL_len, h.len], insL_sorted _ _ h.srt, fun q hq => (insL_mem _ _ q hq).elim (fun e => e ▸ hk) (h.key q)⟩
theorem RowOk.right {n : Nat} {l : List (Int × Value)} {d : Int} {v : Value} (h : RowOk n l) (hk : Key v d) : RowOk (n + 1) (insR (d, v) l) :=
  ⟨by rw [insR_len, h.len], insR_sorted _ _ h.srt, fun q hq => (insR_mem _ _ q hq).elim (fun e => e ▸ hk) (h.key q)⟩
theorem insL_tells {n : Nat} {l : List (Int × Value)} {d : Int} {v : Value} (w : World) (h : RowOk n l) (hn : n ≤ 4) (hk : Key v d) : InsTells w 71 (l.map (·.2)) v ((insL (d, v) l).map (·.2)) :=
  insLg w v d hk l (by rw [h.len]; omega) h.key h.srt
theorem insR_tells {n : Nat} {l : List (Int × Value)} {d : Int} {v : Value} (w : World) (h : RowOk n l) (hn : n ≤ 4) (hk : Key v d) : InsTells w 53 (l.map (·.2)) v ((insR (d, v) l).map (·.2)) :=
  insRg w v d hk l (by rw [h.len]; omega) h.key h.srt
end Mine

-- part W10
namespace Mine
open PySem PySem.W PySem.Calls PyProof.Rows
set_option Elab.async false
set_option maxRecDepth 100000
set_option maxHeartbeats 8000000

theorem ne_same {prog : Program} {w : World} {A : Around} {E : Value → Shared → Prop} {s : Shared} {l b : Addr} {items : Array Value} {Q : Value → Shared → Prop} (hl : s.heap.IsList l items) (hb : s.heap.IsList b items) (hu : A.units < cLine) (h : Q (.bool false) s) :
    wpAny (model prog w) A (compareOp .NotEq (.ref l) (.ref b)) Q E s := by
  refine SeqAt.RcNeAt.lists (e := fun _ => true) hl hb rfl hu (fun j _ _ => SeqAt.EqAt.same _) prog w E Q ?_
  have : ((List.range items.size).all fun _ => true) = true := by simp
  rw [this]
  exact h
theorem range_step {prog : Program} {w : World} {A : Around} {h₀ : Heap} {env : Env} {x : Str} {body : List Stmt} {Q : Flow → Shared → Prop} {s : Shared} {I : Addr} {a : Int} {n k i : Nat} {m : Str → Option Value} {news : List (Addr × Obj)} (mm : Tok → Str → Option Value) (R : List (Addr × Obj) → Prop)
    (turn : ∀ t h tk it (Post : Flow → Shared → Prop), Fr h₀ env.locals h (fun y => if y = x then some (.int (a + (i : Int)) t) else m y) → News h₀ env.locals h ((I, it) :: news) →
      (∀ h' tk' news', Fr h₀ env.locals h' (mm t) → News h₀ env.locals h' ((I, it) :: news') → (∀ p ∈ news', p.1 ≠ I) → R news' → Post .next { s with heap := h', toks := tk' }) →
      wpAny (model prog w) A (execs body env) Post (fun _ _ => False) { s with heap := h, toks := tk })
    (next : ∀ t news', R news' → (∀ p ∈ news', p.1 ≠ I) → RangeRest prog w A (fun _ _ => False) h₀ env x body Q s I a n k (i + 1) (mm t) news') :
    RangeRest prog w A (fun _ _ => False) h₀ env x body Q s I a n (k + 1) i m news := by
  refine RangeRest.succ fun t h tk F N => ?_
  refine turn t h tk _ _ F N ?_
  intro h' tk' news' F' N' off hR
  exact ⟨h', tk', mm t, news', rfl, F', N', off, next t news' hR off⟩
theorem allLt_out {I : Addr} : ∀ {l : List (Addr × Obj)}, AllLt I l → ∀ p ∈ l, p.1 < I
  | [], _, p, h => (nomatch h)
  | q :: l, hl, p, h => by
    rcases List.mem_cons.mp h with rfl | h
    · exact hl.1
    · exact allLt_out hl.2 p h
theorem Apart.congr {l l' : List (Addr × Obj)} (h : Apart l) (e : l'.map (·.1) = l.map (·.1)) : Apart l' := by
  have h1 : (l.map (·.1)).Pairwise (fun p q => q ≠ p) := List.pairwise_map.mpr h
  rw [← e] at h1
  exact List.pairwise_map.mp h1
structure LRow (n : Nat) (l : List (Int × Value)) : Prop where
  out : RowOk n l
structure RRow (n : Nat) (l : List (Int × Value)) : Prop where
  out : RowOk n l
theorem insL_tellsL {n : Nat} {l : List (Int × Value)} {d : Int} {v : Value} (w : World) (h : LRow n l) (hn : n ≤ 4) (hk : Key v d) : InsTells w 71 (l.map (·.2)) v ((insL (d, v) l).map (·.2)) := insL_tells w h.out hn hk
theorem insR_tellsR {n : Nat} {l : List (Int × Value)} {d : Int} {v : Value} (w : World) (h : RRow n l) (hn : n ≤ 4) (hk : Key v d) : InsTells w 53 (l.map (·.2)) v ((insR (d, v) l).map (·.2)) := insR_tells w h.out hn hk
theorem ins_use {w : World} {p : Program} {loose : List Str} {mean : ExcName → Option Value} {mg mb : Str → Option Value} {h₀ : Heap} {L fa f D : Addr} {cd v : Value} {m : Str → Option Value} {all : List (Addr × Obj)} {g : Obj → List (Addr × Obj)} {s : Shared} {Q E : Value → Shared → Prop} {items res : List Value} {ep : Nat}
    (K0 : Below callerA h₀ [] h₀) (F : Fr h₀ L s.heap m) (X : (Mine.hd.heap_39 w.params).In h₀) (N : News h₀ L s.heap all) (T : Top p loose mean mg mb h₀) (P : Apart all) (C : InsTells w f items v res) (U : AtIn D (listOf items.toArray ep) all g)
    (ret : ∀ (h' : Heap) (tk' ep' : Nat), Fr h₀ L h' m → News h₀ L h' (g (listOf res.toArray ep')) → Apart (g (listOf res.toArray ep')) → Q .none { s with heap := h', toks := tk' }) :
    wpAny (model Challenge.rw_wy0015_01.row.prog w) (callerA.deeper (lawEnv L fa cd)) (call (.ref f) [.ref D, v] [(Str.ofString "key", .ref 44)]) Q E s := by
  obtain ⟨pre, post, rfl, hg, h1, h2⟩ := (U.upd P).split
  refine C p loose mean mg mb _ _ _ _ _ _ _ _ [] callerA h₀ h₀ L m (pre ++ post) D ep s Q E K0 F X ?_ ?_ T rfl (by decide) (by decide) ?_
  · intro q hq
    rcases List.mem_cons.mp hq with rfl | hq
    · exact N _ (List.mem_append_right _ (.head _))
    · rcases List.mem_append.mp hq with hq | hq
      · exact N _ (List.mem_append_left _ hq)
      · exact N _ (List.mem_append_right _ (.tail _ hq))
  · intro q hq
    rcases List.mem_append.mp hq with hq | hq
    · exact h1 q hq
    · exact h2 q hq
  · intro h' tk' ep' F' N'
    refine ret h' tk' ep' F' ?_ (U.apart P _)
    rw [hg]
    intro q hq
    rcases List.mem_append.mp hq with hq | hq
    · exact N' _ (.tail _ (List.mem_append_left _ hq))
    · rcases List.mem_cons.mp hq with rfl | hq
      · exact N' _ (.head _)
      · exact N' _ (.tail _ (List.mem_append_right _ hq))

theorem off_W10 : True := by w_top off; trivial


local macro_rules | `(tactic| walk_at "subscriptTail Name Slice ref ref") => `(tactic| (k_here; (with_reducible show wpAny _ _ (subscriptTail _ (PySem.Expr.Slice _ none (some _) _) (Value.ref _) (Value.ref _)) _ _ _); k_dflt (refine' slice_step ?F ?N ?l ?p ?q ?k ?o ?i ?_ ?s ?t ?z; (case F => k_asm); (case N => k_asm); (case l => kmk_list); (case p => kmk_part); (case q => kmk_part); (case k => kmk_part); (case o => decide); (case i => l_ints); (case s => with_unfolding_all rfl); (case t => kmk_pure); (case z => kmk_size)); intro D' ws' h' ms' F' N' l1 hI'; (try k_lt l1); (try k_sweep)))

local macro_rules | `(tactic| walk_at "eval ListComp") => `(tactic| (k_here; k_dflt (refine LCg.ListComp_U (F₀ := by k_asm) (by rfl) (by decide) (by rfl) (by decide) (by rfl) ?_); k_dflt lcg_toSrc))
local macro_rules | `(tactic| walk_at "exec Assign cons ListComp") => `(tactic| (k_here; k_dflt (refine LCg.Assign_ListComp_U (F₀ := by k_asm) (by rfl) (by with_unfolding_all rfl) (by rfl) (by decide) (by rfl) (by decide) (by rfl) (by rfl) (by rfl) ?_); k_dflt lcg_toSrc))
local macro_rules | `(tactic| walk_at "CompSrc") => `(tactic| (k_here; k_dflt (first
  | (refine LCg.CompSrc.ledger (by rfl) (by k_asm) (by k_asm) (by k_mem) (by first | size_fits | exact Nat.le_of_ble_eq_true rfl) ?_; intro g'; lcg_lit)
  | (refine LCg.CompSrc.base (by rfl) (by k_asm) (by k_asm) (by assumption) (by first | size_fits | exact Nat.le_of_ble_eq_true rfl) ?_; intro g'; lcg_lit)
  | (refine LCg.CompSrc.range (by rfl) (by k_asm) (by k_asm) (by assumption) (by first | decide | rfl) (by first | rfl | decide) (by first | size_fits | exact Nat.le_of_ble_eq_true rfl) ?_; intro g'; lcg_lit))))
local macro_rules | `(tactic| walk_at "eval Name") => `(tactic| (k_here; (with_reducible show wpAny _ _ (eval (PySem.Expr.Name _ _) (compEnvC _ _ _ _)) _ _ _); k_dflt (first
  | refine LCgL.ld_own (by k_asm) (by k_mem) (by with_reducible assumption) (by with_reducible assumption) ?_
  | refine lcf_free (by k_asm) (by rfl) (by k_mem) (by with_reducible assumption) ?_
  | refine LCgL.ld_global (by k_asm) (by k_asm) (by k_asm) (by k_is) ?_
  | refine LCgL.ld_built (by k_asm) (by k_asm) (by k_asm) (by k_is) (by boot_by_name) (by decide) ?_)))
local macro_rules | `(tactic| walk_at "mine:go") => `(tactic| (repeat' ((fail_if_success (with_reducible show LCg.CompRest _ _ _ _ _ _ _ _ _ _ _ _ _ _ _ _ _ _ _)); (fail_if_success (with_reducible show RangeRest _ _ _ _ _ _ _ _ _ _ _ _ _ _ _ _ _)); (fail_if_success (with_reducible show wpAny _ _ (execs (_ :: _) _) _ _ _)); first | (k_unfold; (try dsimp only)) | walk1 | (dsimp only; walk1) | (leave1; walk_say "STEP leave1"; (try dsimp only)))))
local macro_rules | `(tactic| walk_at "mine:line") => `(tactic| (walk1; (try ((with_reducible show wpAny _ _ (execs (_ :: _) _) _ _ _); walk1)); walk_at "mine:go"))
local macro_rules | `(tactic| walk_at "mine:sub") => `(tactic| (intro p hp; (repeat (first | exact hp | apply List.mem_cons_of_mem))))

local macro_rules | `(tactic| walk_at "mine:look") => `(tactic| first | assumption | (refine Fr_eq (by assumption) ?_; intro z; first | exact rfl | (simp only [look_cons]; exact rfl) | (simp only [look_cons]; done) | (simp only [look_cons]; split <;> rfl) | (dsimp only; exact rfl)))
local macro_rules | `(tactic| walk_at "mine:led") => `(tactic| (refine news_sub (by assumption) ?_; (try unfold cellsN); lcg_sub))
local macro_rules | `(tactic| walk_at "mine:part") => `(tactic| (refine Apart.sub (by assumption) ?_; (try unfold cellsN); repeat (first | exact List.Sublist.slnil | refine List.Sublist.cons_cons _ ?_ | refine List.Sublist.cons _ ?_)))
local macro_rules | `(tactic| walk_at "mine:at") => `(tactic| first | exact AtIn.head | (refine' AtIn.tail ?b; (case b => walk_at "mine:at")))
local macro_rules | `(tactic| walk_at "storeName") => `(tactic| (k_here; k_dflt (refine' storeA ?F ?N ?P ?c ?U ?d ?_ ?a ?b; (case a => rfl); (case b => rfl); (case F => k_asm); (case N => k_asm); (case P => with_reducible assumption); (case c => rfl); (case U => walk_at "mine:at"); (case d => k_asm); k_whole); intro h' o' F' N' P' d'; (try dsimp only at N' P'); (try k_sweep)))
local macro_rules | `(tactic| walk_at "newList") => `(tactic| (k_here; k_dflt (refine' newList_K ?k1 ?k2 ?_; (case k1 => k_asm); (case k2 => k_asm); k_whole); intro l' h' F' N' l1; have P' := Apart.below N' l1 (by with_reducible assumption); clear l1; (try k_sweep)))
local macro_rules | `(tactic| walk_at "call builtin:list.append") => `(tactic| (k_here; k_dflt (refine' appendA ?F ?N ?P ?U ?_ ?z; (case F => k_asm); (case N => k_asm); (case P => with_reducible assumption); (case U => walk_at "mine:at"); (case z => exact Nat.le_of_ble_eq_true rfl); k_whole); intro h' F' N' P'; (try simp only [List.push_toArray, List.cons_append, List.nil_append] at N' P'); (try k_sweep)))
local macro_rules | `(tactic| walk_at "FinE") => `(tactic| ((unfold LCg.FinE); intro D' h' tk' F' N' o1'; have P' := Apart.cons' N' o1' (by with_reducible assumption); clear o1'; (try simp only [List.nil_append, List.cons_append] at N' P'); (try dsimp only); (try k_sweep)))
local macro_rules | `(tactic| walk_at "FinA") => `(tactic| ((unfold LCg.FinA); intro D' h' tk' F' N' o1'; have P' := Apart.cons' N' o1' (by with_reducible assumption); clear o1'; (try simp only [List.nil_append, List.cons_append] at N' P'); (try dsimp only); (try k_sweep)))


local macro_rules | `(tactic| walk_at "call ref") => `(tactic| (k_here; (with_reducible show wpAny _ _ (call (Value.ref 71) _ _) _ _ _); k_dflt (refine' ins_use ?i1 ?i2 ?i3 ?i4 ?i5 ?i6 (insL_tellsL _ ?i7 ?i8 ?i9) ?iu ?_; (case i1 => assumption); (case i2 => k_asm); (case i3 => assumption); (case i4 => k_asm); (case i5 => assumption); (case i6 => with_reducible assumption); (case i7 => assumption); (case i8 => exact Nat.le_of_ble_eq_true rfl); (case i9 => assumption); (case iu => walk_at "mine:at")); intro h' tk' ep' F' N' P'; (try dsimp only at N' P'); (try k_sweep)))
local macro_rules | `(tactic| walk_at "call ref") => `(tactic| (k_here; (with_reducible show wpAny _ _ (call (Value.ref 53) _ _) _ _ _); k_dflt (refine' ins_use ?i1 ?i2 ?i3 ?i4 ?i5 ?i6 (insR_tellsR _ ?i7 ?i8 ?i9) ?iu ?_; (case i1 => assumption); (case i2 => k_asm); (case i3 => assumption); (case i4 => k_asm); (case i5 => assumption); (case i6 => with_reducible assumption); (case i7 => assumption); (case i8 => exact Nat.le_of_ble_eq_true rfl); (case i9 => assumption); (case iu => walk_at "mine:at")); intro h' tk' ep' F' N' P'; (try dsimp only at N' P'); (try k_sweep)))
local macro_rules | `(tactic| walk_at "compareOp NotEq ref ref") => `(tactic| (k_here; k_dflt (refine' ne_same ?nel ?neb ?neu ?_; (case nel => exact News.isList (by k_asm) (by k_mem)); (case neb => exact News.isList (by k_asm) (by k_mem)); (case neu => exact Nat.le_of_ble_eq_true rfl))))
theorem segC {w : World} {mean : ExcName → Option Value} {mg mb : Str → Option Value} {h₀ : Heap} {L a : Addr} {cd : Value} {s : Shared} {Q : Flow → Shared → Prop} {A M : Addr} {rest : List (Addr × Obj)}
    (C : LawCtx w mean mg mb h₀) (K0 : Below callerA h₀ [] h₀) {z0 z1 z2 z3 z4 : Value} {d0 d1 d2 d3 d4 : Int}
    (hz0 : Key z0 d0) (hz1 : Key z1 d1) (hz2 : Key z2 d2) (hz3 : Key z3 d3) (hz4 : Key z4 d4)
    (next : ∀ t lO lR ep, Goes w h₀ L a cd Q (fun _ _ => False) s 13 [(Str.ofString "k", .int (0 + ((4 : Nat) : Int)) t), (Str.ofString "other", .ref lO), (Str.ofString "row", .ref lR), (Str.ofString "fronts", .ref M), (Str.ofString "cells", .ref A)] ((lR, listOf ((insL (d4, z4) (insL (d3, z3) (insL (d2, z2) (insL (d1, z1) (insL (d0, z0) []))))).map (·.2)).toArray ep) :: (M, LCg.lst [z0, z1, z2, z3, z4]) :: rest)) :
    Goes w h₀ L a cd Q (fun _ _ => False) s 9 [(Str.ofString "fronts", .ref M), (Str.ofString "cells", .ref A)] ((M, LCg.lst [z0, z1, z2, z3, z4]) :: rest) := by
  obtain ⟨KX, X, V, GL, T, B, TE, TW⟩ := C
  intro h tk F N P
  revert KX
  k_fill
  intro KX
  conv in (execs _ _) => arg 1; whnf
  walk_at "mine:line"
  walk_at "mine:line"
  walk1
  walk1
  rename_i lR hR PR hR2 x1 lO hO PO hO2 FO NO
  refine For_invVF (by assumption) rfl rfl ?_ (hE := PassesOwn.never)
  walk_at "mine:go"
  rename_i I l1
  have off : ∀ p ∈ ((lO, listOf #[] 0) :: (lR, listOf #[] 0) :: (M, LCg.lst [z0, z1, z2, z3, z4]) :: rest), p.1 ≠ I := by
    intro p hp; exact Nat.ne_of_lt (allLt_out (l := (lO, listOf #[] 0) :: (lR, listOf #[] 0) :: (M, LCg.lst [z0, z1, z2, z3, z4]) :: rest) l1 p hp)
  have r1 : LRow 0 [] := ⟨RowOk.nil⟩
  have r2 : RRow 0 [] := ⟨RowOk.nil⟩
  clear l1
  refine range_step (fun t => look [(Str.ofString "k", .int (0 + ((0 : Nat) : Int)) t), (Str.ofString "other", .ref lO), (Str.ofString "row", .ref lR), (Str.ofString "fronts", .ref M), (Str.ofString "cells", .ref A)]) (fun nw => ∃ ep ep', nw = (lO, listOf ((insR (d4, z4) []).map (·.2)).toArray ep) :: (lR, listOf ((insL (d0, z0) []).map (·.2)).toArray ep') :: (M, LCg.lst [z0, z1, z2, z3, z4]) :: rest) ?_ ?_
  · intro t h tk it Post F N ret
    have P : Apart ((I, it) :: _) := List.pairwise_cons.mpr ⟨fun q hq => off q hq, PO⟩
    conv in (execs _ _) => arg 1; whnf
    walk_at "mine:line"
    walk_at "mine:line"
    refine' ret _ _ _ ?F0 ?N0 ?O0 ⟨_, _, rfl⟩
    case F0 => walk_at "mine:look"
    case N0 => assumption
    case O0 => exact Apart.ne (p := (I, it)) (by assumption)
  rintro t _ ⟨ep, ep', rfl⟩ off
  replace PO := Apart.congr (l' := (lO, listOf ((insR (d4, z4) []).map (·.2)).toArray ep) :: (lR, listOf ((insL (d0, z0) []).map (·.2)).toArray ep') :: (M, LCg.lst [z0, z1, z2, z3, z4]) :: rest) PO rfl
  replace r1 : LRow 1 (insL (d0, z0) []) := ⟨r1.out.left (by assumption)⟩
  replace r2 : RRow 1 (insR (d4, z4) []) := ⟨r2.out.right (by assumption)⟩
  refine range_step (fun t => look [(Str.ofString "k", .int (0 + ((1 : Nat) : Int)) t), (Str.ofString "other", .ref lO), (Str.ofString "row", .ref lR), (Str.ofString "fronts", .ref M), (Str.ofString "cells", .ref A)]) (fun nw => ∃ ep ep', nw = (lO, listOf ((insR (d3, z3) (insR (d4, z4) [])).map (·.2)).toArray ep) :: (lR, listOf ((insL (d1, z1) (insL (d0, z0) [])).map (·.2)).toArray ep') :: (M, LCg.lst [z0, z1, z2, z3, z4]) :: rest) ?_ ?_
  · intro t h tk it Post F N ret
    have P : Apart ((I, it) :: _) := List.pairwise_cons.mpr ⟨fun q hq => off q hq, PO⟩
    conv in (execs _ _) => arg 1; whnf
    walk_at "mine:line"
    walk_at "mine:line"
    refine' ret _ _ _ ?F1 ?N1 ?O1 ⟨_, _, rfl⟩
    case F1 => walk_at "mine:look"
    case N1 => assumption
    case O1 => exact Apart.ne (p := (I, it)) (by assumption)
  rintro t _ ⟨ep, ep', rfl⟩ off
  replace PO := Apart.congr (l' := (lO, listOf ((insR (d3, z3) (insR (d4, z4) [])).map (·.2)).toArray ep) :: (lR, listOf ((insL (d1, z1) (insL (d0, z0) [])).map (·.2)).toArray ep') :: (M, LCg.lst [z0, z1, z2, z3, z4]) :: rest) PO rfl
  replace r1 : LRow 2 (insL (d1, z1) (insL (d0, z0) [])) := ⟨r1.out.left (by assumption)⟩
  replace r2 : RRow 2 (insR (d3, z3) (insR (d4, z4) [])) := ⟨r2.out.right (by assumption)⟩
  refine range_step (fun t => look [(Str.ofString "k", .int (0 + ((2 : Nat) : Int)) t), (Str.ofString "other", .ref lO), (Str.ofString "row", .ref lR), (Str.ofString "fronts", .ref M), (Str.ofString "cells", .ref A)]) (fun nw => ∃ ep ep', nw = (lO, listOf ((insR (d2, z2) (insR (d3, z3) (insR (d4, z4) []))).map (·.2)).toArray ep) :: (lR, listOf ((insL (d2, z2) (insL (d1, z1) (insL (d0, z0) []))).map (·.2)).toArray ep') :: (M, LCg.lst [z0, z1, z2, z3, z4]) :: rest) ?_ ?_
  · intro t h tk it Post F N ret
    have P : Apart ((I, it) :: _) := List.pairwise_cons.mpr ⟨fun q hq => off q hq, PO⟩
    conv in (execs _ _) => arg 1; whnf
    walk_at "mine:line"
    walk_at "mine:line"
    refine' ret _ _ _ ?F2 ?N2 ?O2 ⟨_, _, rfl⟩
    case F2 => walk_at "mine:look"
    case N2 => assumption
    case O2 => exact Apart.ne (p := (I, it)) (by assumption)
  rintro t _ ⟨ep, ep', rfl⟩ off
  replace PO := Apart.congr (l' := (lO, listOf ((insR (d2, z2) (insR (d3, z3) (insR (d4, z4) []))).map (·.2)).toArray ep) :: (lR, listOf ((insL (d2, z2) (insL (d1, z1) (insL (d0, z0) []))).map (·.2)).toArray ep') :: (M, LCg.lst [z0, z1, z2, z3, z4]) :: rest) PO rfl
  replace r1 : LRow 3 (insL (d2, z2) (insL (d1, z1) (insL (d0, z0) []))) := ⟨r1.out.left (by assumption)⟩
  replace r2 : RRow 3 (insR (d2, z2) (insR (d3, z3) (insR (d4, z4) []))) := ⟨r2.out.right (by assumption)⟩
  refine range_step (fun t => look [(Str.ofString "k", .int (0 + ((3 : Nat) : Int)) t), (Str.ofString "other", .ref lO), (Str.ofString "row", .ref lR), (Str.ofString "fronts", .ref M), (Str.ofString "cells", .ref A)]) (fun nw => ∃ ep ep', nw = (lO, listOf ((insR (d1, z1) (insR (d2, z2) (insR (d3, z3) (insR (d4, z4) [])))).map (·.2)).toArray ep) :: (lR, listOf ((insL (d3, z3) (insL (d2, z2) (insL (d1, z1) (insL (d0, z0) [])))).map (·.2)).toArray ep') :: (M, LCg.lst [z0, z1, z2, z3, z4]) :: rest) ?_ ?_
  · intro t h tk it Post F N ret
    have P : Apart ((I, it) :: _) := List.pairwise_cons.mpr ⟨fun q hq => off q hq, PO⟩
    conv in (execs _ _) => arg 1; whnf
    walk_at "mine:line"
    walk_at "mine:line"
    refine' ret _ _ _ ?F3 ?N3 ?O3 ⟨_, _, rfl⟩
    case F3 => walk_at "mine:look"
    case N3 => assumption
    case O3 => exact Apart.ne (p := (I, it)) (by assumption)
  rintro t _ ⟨ep, ep', rfl⟩ off
  replace PO := Apart.congr (l' := (lO, listOf ((insR (d1, z1) (insR (d2, z2) (insR (d3, z3) (insR (d4, z4) [])))).map (·.2)).toArray ep) :: (lR, listOf ((insL (d3, z3) (insL (d2, z2) (insL (d1, z1) (insL (d0, z0) [])))).map (·.2)).toArray ep') :: (M, LCg.lst [z0, z1, z2, z3, z4]) :: rest) PO rfl
  replace r1 : LRow 4 (insL (d3, z3) (insL (d2, z2) (insL (d1, z1) (insL (d0, z0) [])))) := ⟨r1.out.left (by assumption)⟩
  replace r2 : RRow 4 (insR (d1, z1) (insR (d2, z2) (insR (d3, z3) (insR (d4, z4) [])))) := ⟨r2.out.right (by assumption)⟩
  refine range_step (fun t => look [(Str.ofString "k", .int (0 + ((4 : Nat) : Int)) t), (Str.ofString "other", .ref lO), (Str.ofString "row", .ref lR), (Str.ofString "fronts", .ref M), (Str.ofString "cells", .ref A)]) (fun nw => ∃ ep ep', nw = (lO, listOf ((insR (d0, z0) (insR (d1, z1) (insR (d2, z2) (insR (d3, z3) (insR (d4, z4) []))))).map (·.2)).toArray ep) :: (lR, listOf ((insL (d4, z4) (insL (d3, z3) (insL (d2, z2) (insL (d1, z1) (insL (d0, z0) []))))).map (·.2)).toArray ep') :: (M, LCg.lst [z0, z1, z2, z3, z4]) :: rest) ?_ ?_
  · intro t h tk it Post F N ret
    have P : Apart ((I, it) :: _) := List.pairwise_cons.mpr ⟨fun q hq => off q hq, PO⟩
    conv in (execs _ _) => arg 1; whnf
    walk_at "mine:line"
    walk_at "mine:line"
    refine' ret _ _ _ ?F4 ?N4 ?O4 ⟨_, _, rfl⟩
    case F4 => walk_at "mine:look"
    case N4 => assumption
    case O4 => exact Apart.ne (p := (I, it)) (by assumption)
  rintro t _ ⟨ep, ep', rfl⟩ off
  replace PO := Apart.congr (l' := (lO, listOf ((insR (d0, z0) (insR (d1, z1) (insR (d2, z2) (insR (d3, z3) (insR (d4, z4) []))))).map (·.2)).toArray ep) :: (lR, listOf ((insL (d4, z4) (insL (d3, z3) (insL (d2, z2) (insL (d1, z1) (insL (d0, z0) []))))).map (·.2)).toArray ep') :: (M, LCg.lst [z0, z1, z2, z3, z4]) :: rest) PO rfl
  replace r1 : LRow 5 (insL (d4, z4) (insL (d3, z3) (insL (d2, z2) (insL (d1, z1) (insL (d0, z0) []))))) := ⟨r1.out.left (by assumption)⟩
  replace r2 : RRow 5 (insR (d0, z0) (insR (d1, z1) (insR (d2, z2) (insR (d3, z3) (insR (d4, z4) []))))) := ⟨r2.out.right (by assumption)⟩
  refine RangeRest.zero ?_
  intro h tk F N
  dsimp only
  rw [← rows_eq] at N PO
  generalize insL (d4, z4) (insL (d3, z3) (insL (d2, z2) (insL (d1, z1) (insL (d0, z0) [])))) = rowl at N PO next
  clear r1 r2 off
  walk_at "mine:line"
  refine' next t lO lR ep' _ _ ?FF ?NN ?PP
  case FF => assumption
  case NN => exact fun p hp => N p (.tail _ hp)
  case PP => exact PO.rest
end Mine

-- part W11
namespace Mine
open PySem PySem.W PySem.Calls PyProof.Rows
set_option Elab.async false
set_option maxRecDepth 100000
set_option maxHeartbeats 8000000

def forBody : Stmt → List Stmt
  | .For _ _ b _ _ => b
  | _ => []
noncomputable def pBody : List Stmt := match lawBody.drop 13 with
  | st :: _ => forBody st
  | [] => []
noncomputable def jBody : List Stmt := match pBody.drop 6 with
  | st :: _ => forBody st
  | [] => []
/-- a piece of code goes on well, whatever the locals beyond these -/
def GoesM (w : World) (h₀ : Heap) (L a : Addr) (cd : Value) (code : List Stmt) (Post : Flow → Shared → Prop) (s : Shared) (ok : (Str → Option Value) → Prop) (news : List (Addr × Obj)) : Prop :=
  ∀ (h : Heap) (tk : Nat) (m : Str → Option Value), Fr h₀ L h m → ok m → News h₀ L h news → Apart news → wpAny (model Challenge.rw_wy0015_01.row.prog w) (callerA.deeper (lawEnv L a cd)) (execs code (lawEnv L a cd)) Post (fun _ _ => False) { s with heap := h, toks := tk }
theorem loadX_Lm {M : Model} {A : Around} {E : Value → Shared → Prop} {s : Shared} {h₀ : Heap} {L a : Addr} {m : Str → Option Value} {cn : Str} {cs : Scope} {ccd : Value} {cl : List (Str × Addr)} {x : Str} {v : Value} {Q : Value → Shared → Prop} (F : Fr h₀ L s.heap m) (hv : m x = some v) (h : Q v s)
    (hk : cs.kind = .function) (hx : (envX cn cs L a ccd cl).kindOf x = some .local) : wpAny M A (loadName (envX cn cs L a ccd cl) x) Q E s := wpAny_loadName_local hk hx F.ns hv h
theorem index_bytes {prog : Program} {w : World} {A : Around} {E : Value → Shared → Prop} {s : Shared} {h₀ : Heap} {L D : Addr} {news : List (Addr × Obj)} {its : List Value} {b : Array UInt8} {t : Tok} {Q : Value → Shared → Prop} {k : Nat} {o : Obj} (N : News h₀ L s.heap news) (hm : (D, o) ∈ news) (ho : o = LCg.lst its)
    (hb : ∀ y ∈ its, ∃ c u, y = .bytes c u) (hk : k < its.length) (h9 : k ≤ 9) (hit : ∃ u, its[k]? = some (.bytes b u)) (hno : ∀ i, i < k → ∀ c u, its[i]? = some (.bytes c u) → c.toList ≠ b.toList)
    (h : Q (.int (k : Int) s.toks) { s with toks := s.toks + 1 }) : wpAny (model prog w) A (call (.builtin "list.index") [.ref D, .bytes b t]) Q E s := by
  subst ho
  have hsz : its.toArray.size = its.length := List.size_toArray
  refine call_meets PySem.F.slot_list_index ⟨_, (N _ hm).1, rfl⟩ PySem.F.entry_list_index (PySem.F.args_list_index_2 _ _)
    (SeqAt.list_indexAt D its.toArray its.length none #[] (.bytes b t) (isBytes b.toList) k (by rw [hsz]; exact hk) (by omega) ?_ ?_) ⟨(N _ hm).1, ?_, h⟩
  · obtain ⟨u, hu⟩ := hit
    have : its.toArray[k]'(by rw [hsz]; exact hk) = .bytes b u := by
      have h2 : its[k]? = some (its[k]'hk) := List.getElem?_eq_getElem hk
      rw [hu] at h2
      simpa using (Option.some.inj h2).symm
    rw [this]
    simp [isBytes]
  · intro i hi hlt
    have hi' : i < its.length := by omega
    obtain ⟨c, u, e⟩ := hb (its[i]'hi') (List.getElem_mem hi')
    have h2 : its[i]? = some (its[i]'hi') := List.getElem?_eq_getElem hi'
    rw [e] at h2
    have := hno i hlt c u h2
    have h3 : its.toArray[i]'hi = .bytes c u := by simpa using e
    rw [h3]
    simpa [isBytes] using this
  · intro y hy prog w E Q hq
    obtain ⟨c, u, rfl⟩ := hb y (by simpa using hy)
    refine eqBool_bytes ?_
    have : isBytes b.toList (.bytes c u) = decide (c.toList = b.toList) := by
      simp only [isBytes]
      rw [Bool.eq_iff_iff]; simp
    rw [← this]
    exact hq
theorem depth_at {w : World} {p : Program} {loose : List Str} {mean : ExcName → Option Value} {mg mb : Str → Option Value} {h₀ : Heap} {L fa : Addr} {cd : Value} {m : Str → Option Value} {news : List (Addr × Obj)} {s : Shared} {Q E : Value → Shared → Prop} {vs : List Value} {d : Int}
    (K0 : Below callerA h₀ [] h₀) (F : Fr h₀ L s.heap m) (X : (Mine.hd.heap_39 w.params).In h₀) (N : News h₀ L s.heap news) (T : Top p loose mean mg mb h₀) (C : DepthTells w vs d)
    (ret : ∀ (t : Tok) (h' : Heap) (tk' : Nat), Fr h₀ L h' m → News h₀ L h' news → Q (.int d t) { s with heap := h', toks := tk' }) :
    wpAny (model Challenge.rw_wy0015_01.row.prog w) (callerA.deeper (lawEnv L fa cd)) (call (.ref 44) vs) Q E s :=
  C p loose mean mg mb _ _ _ _ _ _ _ _ [] callerA h₀ h₀ L m news s Q E K0 F X N T rfl (by decide) (by decide) ret
theorem depthK2 (w : World) (v : Value) (d td : Int) (t : Tok) (h : Key v d) : DepthTells w [v, .int td t] (td + d) := by
  obtain ⟨b, u, r, rfl, hz, hS, rfl⟩ := h
  exact depth2 w b u t td r hz hS

theorem off_W11 : True := by w_top off; trivial


local macro_rules | `(tactic| walk_at "subscriptTail Name Slice ref ref") => `(tactic| (k_here; (with_reducible show wpAny _ _ (subscriptTail _ (PySem.Expr.Slice _ none (some _) _) (Value.ref _) (Value.ref _)) _ _ _); k_dflt (refine' slice_step ?F ?N ?l ?p ?q ?k ?o ?i ?_ ?s ?t ?z; (case F => k_asm); (case N => k_asm); (case l => kmk_list); (case p => kmk_part); (case q => kmk_part); (case k => kmk_part); (case o => decide); (case i => l_ints); (case s => with_unfolding_all rfl); (case t => kmk_pure); (case z => kmk_size)); intro D' ws' h' ms' F' N' l1 hI'; (try k_lt l1); (try k_sweep)))

local macro_rules | `(tactic| walk_at "eval ListComp") => `(tactic| (k_here; k_dflt (refine LCg.ListComp_U (F₀ := by k_asm) (by rfl) (by decide) (by rfl) (by decide) (by rfl) ?_); k_dflt lcg_toSrc))
local macro_rules | `(tactic| walk_at "exec Assign cons ListComp") => `(tactic| (k_here; k_dflt (refine LCg.Assign_ListComp_U (F₀ := by k_asm) (by rfl) (by with_unfolding_all rfl) (by rfl) (by decide) (by rfl) (by decide) (by rfl) (by rfl) (by rfl) ?_); k_dflt lcg_toSrc))
local macro_rules | `(tactic| walk_at "CompSrc") => `(tactic| (k_here; k_dflt (first
  | (refine LCg.CompSrc.ledger (by rfl) (by k_asm) (by k_asm) (by k_mem) (by first | size_fits | exact Nat.le_of_ble_eq_true rfl) ?_; intro g'; lcg_lit)
  | (refine LCg.CompSrc.base (by rfl) (by k_asm) (by k_asm) (by assumption) (by first | size_fits | exact Nat.le_of_ble_eq_true rfl) ?_; intro g'; lcg_lit)
  | (refine LCg.CompSrc.range (by rfl) (by k_asm) (by k_asm) (by assumption) (by first | decide | rfl) (by first | rfl | decide) (by first | size_fits | exact Nat.le_of_ble_eq_true rfl) ?_; intro g'; lcg_lit))))
local macro_rules | `(tactic| walk_at "eval Name") => `(tactic| (k_here; (with_reducible show wpAny _ _ (eval (PySem.Expr.Name _ _) (compEnvC _ _ _ _)) _ _ _); k_dflt (first
  | refine LCgL.ld_own (by k_asm) (by k_mem) (by with_reducible assumption) (by with_reducible assumption) ?_
  | refine lcf_free (by k_asm) (by rfl) (by k_mem) (by with_reducible assumption) ?_
  | refine LCgL.ld_global (by k_asm) (by k_asm) (by k_asm) (by k_is) ?_
  | refine LCgL.ld_built (by k_asm) (by k_asm) (by k_asm) (by k_is) (by boot_by_name) (by decide) ?_)))
local macro_rules | `(tactic| walk_at "mine:go") => `(tactic| (repeat' ((fail_if_success (with_reducible show LCg.CompRest _ _ _ _ _ _ _ _ _ _ _ _ _ _ _ _ _ _ _)); (fail_if_success (with_reducible show RangeRest _ _ _ _ _ _ _ _ _ _ _ _ _ _ _ _ _)); (fail_if_success (with_reducible show wpAny _ _ (execs (_ :: _) _) _ _ _)); first | (k_unfold; (try dsimp only)) | walk1 | (dsimp only; walk1) | (leave1; walk_say "STEP leave1"; (try dsimp only)))))
local macro_rules | `(tactic| walk_at "mine:line") => `(tactic| (walk1; (try ((with_reducible show wpAny _ _ (execs (_ :: _) _) _ _ _); walk1)); walk_at "mine:go"))
local macro_rules | `(tactic| walk_at "mine:sub") => `(tactic| (intro p hp; (repeat (first | exact hp | apply List.mem_cons_of_mem))))

local macro_rules | `(tactic| walk_at "mine:look") => `(tactic| first | assumption | (refine Fr_eq (by assumption) ?_; intro z; first | exact rfl | (simp only [look_cons]; exact rfl) | (simp only [look_cons]; done) | (simp only [look_cons]; split <;> rfl) | (dsimp only; exact rfl)))
local macro_rules | `(tactic| walk_at "mine:led") => `(tactic| (refine news_sub (by assumption) ?_; (try unfold cellsN); lcg_sub))
local macro_rules | `(tactic| walk_at "mine:part") => `(tactic| (refine Apart.sub (by assumption) ?_; (try unfold cellsN); repeat (first | exact List.Sublist.slnil | refine List.Sublist.cons_cons _ ?_ | refine List.Sublist.cons _ ?_)))
local macro_rules | `(tactic| walk_at "mine:at") => `(tactic| first | exact AtIn.head | (refine' AtIn.tail ?b; (case b => walk_at "mine:at")))
local macro_rules | `(tactic| walk_at "storeName") => `(tactic| (k_here; k_dflt (refine' storeA ?F ?N ?P ?c ?U ?d ?_ ?a ?b; (case a => rfl); (case b => rfl); (case F => k_asm); (case N => k_asm); (case P => with_reducible assumption); (case c => rfl); (case U => walk_at "mine:at"); (case d => k_asm); k_whole); intro h' o' F' N' P' d'; (try dsimp only at N' P'); (try k_sweep)))
local macro_rules | `(tactic| walk_at "newList") => `(tactic| (k_here; k_dflt (refine' newList_K ?k1 ?k2 ?_; (case k1 => k_asm); (case k2 => k_asm); k_whole); intro l' h' F' N' l1; have P' := Apart.below N' l1 (by with_reducible assumption); clear l1; (try k_sweep)))
local macro_rules | `(tactic| walk_at "call builtin:list.append") => `(tactic| (k_here; k_dflt (refine' appendA ?F ?N ?P ?U ?_ ?z; (case F => k_asm); (case N => k_asm); (case P => with_reducible assumption); (case U => walk_at "mine:at"); (case z => exact Nat.le_of_ble_eq_true rfl); k_whole); intro h' F' N' P'; (try simp only [List.push_toArray, List.cons_append, List.nil_append] at N' P'); (try k_sweep)))
local macro_rules | `(tactic| walk_at "FinE") => `(tactic| ((unfold LCg.FinE); intro D' h' tk' F' N' o1'; have P' := Apart.cons' N' o1' (by with_reducible assumption); clear o1'; (try simp only [List.nil_append, List.cons_append] at N' P'); (try dsimp only); (try k_sweep)))
local macro_rules | `(tactic| walk_at "FinA") => `(tactic| ((unfold LCg.FinA); intro D' h' tk' F' N' o1'; have P' := Apart.cons' N' o1' (by with_reducible assumption); clear o1'; (try simp only [List.nil_append, List.cons_append] at N' P'); (try dsimp only); (try k_sweep)))


local macro_rules | `(tactic| walk_at "eval Name") => `(tactic| (k_here; (with_reducible show wpAny _ _ (eval (PySem.Expr.Name _ _) (envOfC _ _ _ _ _)) _ _ _); k_dflt (first
  | (refine' nameX_L ?nF ?nv ?_ ?na ?nb; (case na => rfl); (case nb => rfl); (case nF => k_asm); (case nv => assumption); k_whole)
  | (refine' nameX_C ?cN ?cc ?cm ?cd ?_ ?ca ?cb; (case ca => rfl); (case cb => rfl); (case cN => k_asm); (case cc => rfl); (case cm => k_mem); (case cd => k_asm); k_whole)
  | (refine' nameX_K ?kF ?kX ?kT ?ke ?_ ?ka ?kb; (case ka => rfl); (case kb => rfl); (case kF => k_asm); (case kX => k_asm); (case kT => k_asm); (case ke => k_is); k_whole)
  | (refine' nameX_B ?bF ?bX ?bT ?be ?bv ?bn ?_ ?ba ?bb; (case ba => rfl); (case bb => rfl); (case bF => k_asm); (case bX => k_asm); (case bT => k_asm); (case be => k_is); (case bv => boot_fast); (case bn => decide); k_whole))))
local macro_rules | `(tactic| walk_at "loadName") => `(tactic| (k_here; k_dflt (refine' loadX_Lm ?lF ?lv ?_ ?la ?lb; (case la => rfl); (case lb => rfl); (case lF => k_asm); (case lv => assumption); k_whole)))
local macro_rules | `(tactic| walk_at "subscriptTail Name Name ref int") => `(tactic| (k_here; k_dflt (refine' item_listL (l := List.map _ _) ?sl ?s0 ?s1 ?sx ?_ ?ss ?sg; (case sl => exact News.isList (by k_asm) (by k_mem)); (case s0 => assumption); (case s1 => assumption); (case sx => assumption); (case ss => with_unfolding_all rfl); (case sg => kmk_pure); k_whole)))
local macro_rules | `(tactic| walk_at "call ref") => `(tactic| (k_here; (with_reducible show wpAny _ _ (call (Value.ref 44) [_]) _ _ _); k_dflt (refine' depth_at ?i1 ?i2 ?i3 ?i4 ?i5 (depthK _ _ _ ?i6) ?_; (case i1 => assumption); (case i2 => k_asm); (case i3 => assumption); (case i4 => k_asm); (case i5 => assumption); (case i6 => first | assumption | exact (show ∀ t : Tok, Key (Value.bytes _ t) _ by assumption) _)); intro t' h' tk' F' N'; (try k_sweep)))
local macro_rules | `(tactic| walk_at "call ref") => `(tactic| (k_here; (with_reducible show wpAny _ _ (call (Value.ref 44) [_, _]) _ _ _); k_dflt (refine' depth_at ?i1 ?i2 ?i3 ?i4 ?i5 (depthK2 _ _ _ _ _ ?i6) ?_; (case i1 => assumption); (case i2 => k_asm); (case i3 => assumption); (case i4 => k_asm); (case i5 => assumption); (case i6 => first | assumption | exact (show ∀ t : Tok, Key (Value.bytes _ t) _ by assumption) _)); intro t' h' tk' F' N'; (try k_sweep)))
theorem segD1_0 {w : World} {mean : ExcName → Option Value} {mg mb : Str → Option Value} {h₀ : Heap} {L a : Addr} {cd : Value} {s : Shared} {Post : Flow → Shared → Prop} {A M J H B T0 T1 T2 T3 T4 lR I9 : Addr} {o9 o1 o2 o3 o4 o5 o6 p0 p1 p2 p3 p4 : Obj}
    (C : LawCtx w mean mg mb h₀) (K0 : Below callerA h₀ [] h₀) {c0 c1 c2 c3 e0 e1 e2 e3 e4 pl : Int} {t0 t1 t2 t3 u0 u1 u2 u3 u4 w0 w1 w2 w3 w4 x0 x1 x2 x3 x4 tp : Tok} {ep er : Nat} {q0 q1 q2 q3 q4 f0 f1 f2 f3 f4 : Str} {rowl : List (Int × Value)}
    (d3 : o3.data = .cell (some (.ref B))) (hkey : Key (.bytes (octs f0) x0) (0)) 
    (hp0 : 0 ≤ pl) (hp1 : pl < 2 ^ 63) (hrow : (rowl.map (·.2))[pl.toNat]? = some (.bytes (octs f0) x0))
    (next : ∀ ts tk' td tu tl, GoesM w h₀ L a cd (pBody.drop 6) Post s (fun m => (m (Str.ofString "row") = some (.ref lR) ∧ m (Str.ofString "fronts") = some (.ref M) ∧ m (Str.ofString "cells") = some (.ref A) ∧ m (Str.ofString "place") = some (.int pl tp)) ∧ m (Str.ofString "k") = some (.int 0 tk') ∧ m (Str.ofString "start") = some (.int (Int.fdiv c0 35) ts) ∧ m (Str.ofString "depth") = some (.int (Int.fdiv c0 35) td) ∧ m (Str.ofString "due") = some (.int (Int.fdiv c0 35) tu) ∧ m (Str.ofString "low") = some (.int 0 tl)) ((I9, o9) :: (lR, listOf (rowl.map (·.2)).toArray er) :: (M, LCg.lst [.bytes (octs f0) x0, .bytes (octs f1) x1, .bytes (octs f2) x2, .bytes (octs f3) x3, .bytes (octs f4) x4]) :: (J, LCg.lst [.str q0 w0, .str q1 w1, .str q2 w2, .str q3 w3, .str q4 w4]) :: (H, LCg.lst [.ref T0, .ref T1, .ref T2, .ref T3, .ref T4]) :: (T4, p4) :: (T3, p3) :: (T2, p2) :: (T1, p1) :: (T0, p0) :: (B, listOf #[.int e0 u0, .int e1 u1, .int e2 u2, .int e3 u3, .int e4 u4] ep) :: (A, LCg.lst [.int c0 t0, .int c1 t1, .int c2 t2, .int c3 t3]) :: cellsN L o1 o2 o3 o4 o5 o6)) :
    GoesM w h₀ L a cd pBody Post s (fun m => m (Str.ofString "row") = some (.ref lR) ∧ m (Str.ofString "fronts") = some (.ref M) ∧ m (Str.ofString "cells") = some (.ref A) ∧ m (Str.ofString "place") = some (.int pl tp)) ((I9, o9) :: (lR, listOf (rowl.map (·.2)).toArray er) :: (M, LCg.lst [.bytes (octs f0) x0, .bytes (octs f1) x1, .bytes (octs f2) x2, .bytes (octs f3) x3, .bytes (octs f4) x4]) :: (J, LCg.lst [.str q0 w0, .str q1 w1, .str q2 w2, .str q3 w3, .str q4 w4]) :: (H, LCg.lst [.ref T0, .ref T1, .ref T2, .ref T3, .ref T4]) :: (T4, p4) :: (T3, p3) :: (T2, p2) :: (T1, p1) :: (T0, p0) :: (B, listOf #[.int e0 u0, .int e1 u1, .int e2 u2, .int e3 u3, .int e4 u4] ep) :: (A, LCg.lst [.int c0 t0, .int c1 t1, .int c2 t2, .int c3 t3]) :: cellsN L o1 o2 o3 o4 o5 o6) := by
  obtain ⟨KX, X, V, GL, T, B, TE, TW⟩ := C
  intro h tk m F ok N P
  revert KX
  k_fill
  intro KX
  unfold cellsN at N P
  conv in (execs _ _) => arg 1; whnf
  obtain ⟨m1, m2, m3, m4⟩ := ok
  walk_at "mine:line"
  refine index_bytes (k := 0) (its := [.bytes (octs f0) x0, .bytes (octs f1) x1, .bytes (octs f2) x2, .bytes (octs f3) x3, .bytes (octs f4) x4]) (o := LCg.lst [.bytes (octs f0) x0, .bytes (octs f1) x1, .bytes (octs f2) x2, .bytes (octs f3) x3, .bytes (octs f4) x4]) (by k_asm) (by k_mem) rfl ?_ (by exact Nat.le_of_ble_eq_true rfl) (by decide) ⟨_, rfl⟩ ?_ ?_
  · intro y hy
    simp only [List.mem_cons, List.not_mem_nil, or_false] at hy
    rcases hy with rfl | rfl | rfl | rfl | rfl <;> exact ⟨_, _, rfl⟩
  · intro i hi c u e
    exact absurd hi (Nat.not_lt_zero _)
  walk_at "mine:go"
  walk_at "mine:line"
  walk_at "mine:line"
  all_goals try (exfalso; omega)
  walk_at "mine:line"
  walk_at "mine:line"
  walk_at "mine:line"
  refine' next _ _ _ _ _ _ _ _ ?F1 ?M1 ?N1 ?P1
  case F1 => assumption
  case M1 =>
    refine ⟨⟨m1, m2, m3, m4⟩, ?_, ?_, ?_, ?_, ?_⟩
    · rfl
    · rfl
    · rfl
    · rfl
    · rfl
  case N1 => walk_at "mine:led"
  case P1 => walk_at "mine:part"

theorem segD1_1 {w : World} {mean : ExcName → Option Value} {mg mb : Str → Option Value} {h₀ : Heap} {L a : Addr} {cd : Value} {s : Shared} {Post : Flow → Shared → Prop} {A M J H B T0 T1 T2 T3 T4 lR I9 : Addr} {o9 o1 o2 o3 o4 o5 o6 p0 p1 p2 p3 p4 : Obj}
    (C : LawCtx w mean mg mb h₀) (K0 : Below callerA h₀ [] h₀) {c0 c1 c2 c3 e0 e1 e2 e3 e4 pl : Int} {t0 t1 t2 t3 u0 u1 u2 u3 u4 w0 w1 w2 w3 w4 x0 x1 x2 x3 x4 tp : Tok} {ep er : Nat} {q0 q1 q2 q3 q4 f0 f1 f2 f3 f4 : Str} {rowl : List (Int × Value)}
    (d3 : o3.data = .cell (some (.ref B))) (hkey : Key (.bytes (octs f1) x1) (e0 + (0))) (hn0 : (octs f0).toList ≠ (octs f1).toList)
    (hp0 : 0 ≤ pl) (hp1 : pl < 2 ^ 63) (hrow : (rowl.map (·.2))[pl.toNat]? = some (.bytes (octs f1) x1))
    (next : ∀ ts tk' td tu tl, GoesM w h₀ L a cd (pBody.drop 6) Post s (fun m => (m (Str.ofString "row") = some (.ref lR) ∧ m (Str.ofString "fronts") = some (.ref M) ∧ m (Str.ofString "cells") = some (.ref A) ∧ m (Str.ofString "place") = some (.int pl tp)) ∧ m (Str.ofString "k") = some (.int 1 tk') ∧ m (Str.ofString "start") = some (.int (Int.fdiv c1 35) ts) ∧ m (Str.ofString "depth") = some (.int (Int.fdiv c1 35) td) ∧ m (Str.ofString "due") = some (.int (Int.fdiv c1 35) tu) ∧ m (Str.ofString "low") = some (.int 0 tl)) ((I9, o9) :: (lR, listOf (rowl.map (·.2)).toArray er) :: (M, LCg.lst [.bytes (octs f0) x0, .bytes (octs f1) x1, .bytes (octs f2) x2, .bytes (octs f3) x3, .bytes (octs f4) x4]) :: (J, LCg.lst [.str q0 w0, .str q1 w1, .str q2 w2, .str q3 w3, .str q4 w4]) :: (H, LCg.lst [.ref T0, .ref T1, .ref T2, .ref T3, .ref T4]) :: (T4, p4) :: (T3, p3) :: (T2, p2) :: (T1, p1) :: (T0, p0) :: (B, listOf #[.int e0 u0, .int e1 u1, .int e2 u2, .int e3 u3, .int e4 u4] ep) :: (A, LCg.lst [.int c0 t0, .int c1 t1, .int c2 t2, .int c3 t3]) :: cellsN L o1 o2 o3 o4 o5 o6)) :
    GoesM w h₀ L a cd pBody Post s (fun m => m (Str.ofString "row") = some (.ref lR) ∧ m (Str.ofString "fronts") = some (.ref M) ∧ m (Str.ofString "cells") = some (.ref A) ∧ m (Str.ofString "place") = some (.int pl tp)) ((I9, o9) :: (lR, listOf (rowl.map (·.2)).toArray er) :: (M, LCg.lst [.bytes (octs f0) x0, .bytes (octs f1) x1, .bytes (octs f2) x2, .bytes (octs f3) x3, .bytes (octs f4) x4]) :: (J, LCg.lst [.str q0 w0, .str q1 w1, .str q2 w2, .str q3 w3, .str q4 w4]) :: (H, LCg.lst [.ref T0, .ref T1, .ref T2, .ref T3, .ref T4]) :: (T4, p4) :: (T3, p3) :: (T2, p2) :: (T1, p1) :: (T0, p0) :: (B, listOf #[.int e0 u0, .int e1 u1, .int e2 u2, .int e3 u3, .int e4 u4] ep) :: (A, LCg.lst [.int c0 t0, .int c1 t1, .int c2 t2, .int c3 t3]) :: cellsN L o1 o2 o3 o4 o5 o6) := by
  obtain ⟨KX, X, V, GL, T, B, TE, TW⟩ := C
  intro h tk m F ok N P
  revert KX
  k_fill
  intro KX
  unfold cellsN at N P
  conv in (execs _ _) => arg 1; whnf
  obtain ⟨m1, m2, m3, m4⟩ := ok
  walk_at "mine:line"
  refine index_bytes (k := 1) (its := [.bytes (octs f0) x0, .bytes (octs f1) x1, .bytes (octs f2) x2, .bytes (octs f3) x3, .bytes (octs f4) x4]) (o := LCg.lst [.bytes (octs f0) x0, .bytes (octs f1) x1, .bytes (octs f2) x2, .bytes (octs f3) x3, .bytes (octs f4) x4]) (by k_asm) (by k_mem) rfl ?_ (by exact Nat.le_of_ble_eq_true rfl) (by decide) ⟨_, rfl⟩ ?_ ?_
  · intro y hy
    simp only [List.mem_cons, List.not_mem_nil, or_false] at hy
    rcases hy with rfl | rfl | rfl | rfl | rfl <;> exact ⟨_, _, rfl⟩
  · intro i hi c u e
    match i, hi, e with
    | 0, _, e => (simp only [List.getElem?_cons_succ, List.getElem?_cons_zero, Option.some.injEq, Value.bytes.injEq] at e; rw [← e.1]; exact hn0)
    | n + 1, h, _ => exact absurd h (by omega)
  walk_at "mine:go"
  walk_at "mine:line"
  walk_at "mine:line"
  all_goals try (exfalso; omega)
  walk_at "mine:line"
  walk_at "mine:line"
  walk_at "mine:line"
  refine' next _ _ _ _ _ _ _ _ ?F1 ?M1 ?N1 ?P1
  case F1 => assumption
  case M1 =>
    refine ⟨⟨m1, m2, m3, m4⟩, ?_, ?_, ?_, ?_, ?_⟩
    · rfl
    · rfl
    · rfl
    · rfl
    · rfl
  case N1 => walk_at "mine:led"
  case P1 => walk_at "mine:part"

theorem segD1_2 {w : World} {mean : ExcName → Option Value} {mg mb : Str → Option Value} {h₀ : Heap} {L a : Addr} {cd : Value} {s : Shared} {Post : Flow → Shared → Prop} {A M J H B T0 T1 T2 T3 T4 lR I9 : Addr} {o9 o1 o2 o3 o4 o5 o6 p0 p1 p2 p3 p4 : Obj}
    (C : LawCtx w mean mg mb h₀) (K0 : Below callerA h₀ [] h₀) {c0 c1 c2 c3 e0 e1 e2 e3 e4 pl : Int} {t0 t1 t2 t3 u0 u1 u2 u3 u4 w0 w1 w2 w3 w4 x0 x1 x2 x3 x4 tp : Tok} {ep er : Nat} {q0 q1 q2 q3 q4 f0 f1 f2 f3 f4 : Str} {rowl : List (Int × Value)}
    (d3 : o3.data = .cell (some (.ref B))) (hkey : Key (.bytes (octs f2) x2) (e0 + (e1 + (0)))) (hn0 : (octs f0).toList ≠ (octs f2).toList) (hn1 : (octs f1).toList ≠ (octs f2).toList)
    (hp0 : 0 ≤ pl) (hp1 : pl < 2 ^ 63) (hrow : (rowl.map (·.2))[pl.toNat]? = some (.bytes (octs f2) x2))
    (next : ∀ ts tk' td tu tl, GoesM w h₀ L a cd (pBody.drop 6) Post s (fun m => (m (Str.ofString "row") = some (.ref lR) ∧ m (Str.ofString "fronts") = some (.ref M) ∧ m (Str.ofString "cells") = some (.ref A) ∧ m (Str.ofString "place") = some (.int pl tp)) ∧ m (Str.ofString "k") = some (.int 2 tk') ∧ m (Str.ofString "start") = some (.int (Int.fdiv c2 35) ts) ∧ m (Str.ofString "depth") = some (.int (Int.fdiv c2 35) td) ∧ m (Str.ofString "due") = some (.int (Int.fdiv c2 35) tu) ∧ m (Str.ofString "low") = some (.int 0 tl)) ((I9, o9) :: (lR, listOf (rowl.map (·.2)).toArray er) :: (M, LCg.lst [.bytes (octs f0) x0, .bytes (octs f1) x1, .bytes (octs f2) x2, .bytes (octs f3) x3, .bytes (octs f4) x4]) :: (J, LCg.lst [.str q0 w0, .str q1 w1, .str q2 w2, .str q3 w3, .str q4 w4]) :: (H, LCg.lst [.ref T0, .ref T1, .ref T2, .ref T3, .ref T4]) :: (T4, p4) :: (T3, p3) :: (T2, p2) :: (T1, p1) :: (T0, p0) :: (B, listOf #[.int e0 u0, .int e1 u1, .int e2 u2, .int e3 u3, .int e4 u4] ep) :: (A, LCg.lst [.int c0 t0, .int c1 t1, .int c2 t2, .int c3 t3]) :: cellsN L o1 o2 o3 o4 o5 o6)) :
    GoesM w h₀ L a cd pBody Post s (fun m => m (Str.ofString "row") = some (.ref lR) ∧ m (Str.ofString "fronts") = some (.ref M) ∧ m (Str.ofString "cells") = some (.ref A) ∧ m (Str.ofString "place") = some (.int pl tp)) ((I9, o9) :: (lR, listOf (rowl.map (·.2)).toArray er) :: (M, LCg.lst [.bytes (octs f0) x0, .bytes (octs f1) x1, .bytes (octs f2) x2, .bytes (octs f3) x3, .bytes (octs f4) x4]) :: (J, LCg.lst [.str q0 w0, .str q1 w1, .str q2 w2, .str q3 w3, .str q4 w4]) :: (H, LCg.lst [.ref T0, .ref T1, .ref T2, .ref T3, .ref T4]) :: (T4, p4) :: (T3, p3) :: (T2, p2) :: (T1, p1) :: (T0, p0) :: (B, listOf #[.int e0 u0, .int e1 u1, .int e2 u2, .int e3 u3, .int e4 u4] ep) :: (A, LCg.lst [.int c0 t0, .int c1 t1, .int c2 t2, .int c3 t3]) :: cellsN L o1 o2 o3 o4 o5 o6) := by
  obtain ⟨KX, X, V, GL, T, B, TE, TW⟩ := C
  intro h tk m F ok N P
  revert KX
  k_fill
  intro KX
  unfold cellsN at N P
  conv in (execs _ _) => arg 1; whnf
  obtain ⟨m1, m2, m3, m4⟩ := ok
  walk_at "mine:line"
  refine index_bytes (k := 2) (its := [.bytes (octs f0) x0, .bytes (octs f1) x1, .bytes (octs f2) x2, .bytes (octs f3) x3, .bytes (octs f4) x4]) (o := LCg.lst [.bytes (octs f0) x0, .bytes (octs f1) x1, .bytes (octs f2) x2, .bytes (octs f3) x3, .bytes (octs f4) x4]) (by k_asm) (by k_mem) rfl ?_ (by exact Nat.le_of_ble_eq_true rfl) (by decide) ⟨_, rfl⟩ ?_ ?_
  · intro y hy
    simp only [List.mem_cons, List.not_mem_nil, or_false] at hy
    rcases hy with rfl | rfl | rfl | rfl | rfl <;> exact ⟨_, _, rfl⟩
  · intro i hi c u e
    match i, hi, e with
    | 0, _, e => (simp only [List.getElem?_cons_succ, List.getElem?_cons_zero, Option.some.injEq, Value.bytes.injEq] at e; rw [← e.1]; exact hn0)
    | 1, _, e => (simp only [List.getElem?_cons_succ, List.getElem?_cons_zero, Option.some.injEq, Value.bytes.injEq] at e; rw [← e.1]; exact hn1)
    | n + 2, h, _ => exact absurd h (by omega)
  walk_at "mine:go"
  walk_at "mine:line"
  walk_at "mine:line"
  all_goals try (exfalso; omega)
  walk_at "mine:line"
  walk_at "mine:line"
  walk_at "mine:line"
  refine' next _ _ _ _ _ _ _ _ ?F1 ?M1 ?N1 ?P1
  case F1 => assumption
  case M1 =>
    refine ⟨⟨m1, m2, m3, m4⟩, ?_, ?_, ?_, ?_, ?_⟩
    · rfl
    · rfl
    · rfl
    · rfl
    · rfl
  case N1 => walk_at "mine:led"
  case P1 => walk_at "mine:part"

theorem segD1_3 {w : World} {mean : ExcName → Option Value} {mg mb : Str → Option Value} {h₀ : Heap} {L a : Addr} {cd : Value} {s : Shared} {Post : Flow → Shared → Prop} {A M J H B T0 T1 T2 T3 T4 lR I9 : Addr} {o9 o1 o2 o3 o4 o5 o6 p0 p1 p2 p3 p4 : Obj}
    (C : LawCtx w mean mg mb h₀) (K0 : Below callerA h₀ [] h₀) {c0 c1 c2 c3 e0 e1 e2 e3 e4 pl : Int} {t0 t1 t2 t3 u0 u1 u2 u3 u4 w0 w1 w2 w3 w4 x0 x1 x2 x3 x4 tp : Tok} {ep er : Nat} {q0 q1 q2 q3 q4 f0 f1 f2 f3 f4 : Str} {rowl : List (Int × Value)}
    (d3 : o3.data = .cell (some (.ref B))) (hkey : Key (.bytes (octs f3) x3) (e0 + (e1 + (e2 + (0))))) (hn0 : (octs f0).toList ≠ (octs f3).toList) (hn1 : (octs f1).toList ≠ (octs f3).toList) (hn2 : (octs f2).toList ≠ (octs f3).toList)
    (hp0 : 0 ≤ pl) (hp1 : pl < 2 ^ 63) (hrow : (rowl.map (·.2))[pl.toNat]? = some (.bytes (octs f3) x3))
    (next : ∀ ts tk' td tu tl, GoesM w h₀ L a cd (pBody.drop 6) Post s (fun m => (m (Str.ofString "row") = some (.ref lR) ∧ m (Str.ofString "fronts") = some (.ref M) ∧ m (Str.ofString "cells") = some (.ref A) ∧ m (Str.ofString "place") = some (.int pl tp)) ∧ m (Str.ofString "k") = some (.int 3 tk') ∧ m (Str.ofString "start") = some (.int (Int.fdiv c3 35) ts) ∧ m (Str.ofString "depth") = some (.int (Int.fdiv c3 35) td) ∧ m (Str.ofString "due") = some (.int (Int.fdiv c3 35) tu) ∧ m (Str.ofString "low") = some (.int 0 tl)) ((I9, o9) :: (lR, listOf (rowl.map (·.2)).toArray er) :: (M, LCg.lst [.bytes (octs f0) x0, .bytes (octs f1) x1, .bytes (octs f2) x2, .bytes (octs f3) x3, .bytes (octs f4) x4]) :: (J, LCg.lst [.str q0 w0, .str q1 w1, .str q2 w2, .str q3 w3, .str q4 w4]) :: (H, LCg.lst [.ref T0, .ref T1, .ref T2, .ref T3, .ref T4]) :: (T4, p4) :: (T3, p3) :: (T2, p2) :: (T1, p1) :: (T0, p0) :: (B, listOf #[.int e0 u0, .int e1 u1, .int e2 u2, .int e3 u3, .int e4 u4] ep) :: (A, LCg.lst [.int c0 t0, .int c1 t1, .int c2 t2, .int c3 t3]) :: cellsN L o1 o2 o3 o4 o5 o6)) :
    GoesM w h₀ L a cd pBody Post s (fun m => m (Str.ofString "row") = some (.ref lR) ∧ m (Str.ofString "fronts") = some (.ref M) ∧ m (Str.ofString "cells") = some (.ref A) ∧ m (Str.ofString "place") = some (.int pl tp)) ((I9, o9) :: (lR, listOf (rowl.map (·.2)).toArray er) :: (M, LCg.lst [.bytes (octs f0) x0, .bytes (octs f1) x1, .bytes (octs f2) x2, .bytes (octs f3) x3, .bytes (octs f4) x4]) :: (J, LCg.lst [.str q0 w0, .str q1 w1, .str q2 w2, .str q3 w3, .str q4 w4]) :: (H, LCg.lst [.ref T0, .ref T1, .ref T2, .ref T3, .ref T4]) :: (T4, p4) :: (T3, p3) :: (T2, p2) :: (T1, p1) :: (T0, p0) :: (B, listOf #[.int e0 u0, .int e1 u1, .int e2 u2, .int e3 u3, .int e4 u4] ep) :: (A, LCg.lst [.int c0 t0, .int c1 t1, .int c2 t2, .int c3 t3]) :: cellsN L o1 o2 o3 o4 o5 o6) := by
  obtain ⟨KX, X, V, GL, T, B, TE, TW⟩ := C
  intro h tk m F ok N P
  revert KX
  k_fill
  intro KX
  unfold cellsN at N P
  conv in (execs _ _) => arg 1; whnf
  obtain ⟨m1, m2, m3, m4⟩ := ok
  walk_at "mine:line"
  refine index_bytes (k := 3) (its := [.bytes (octs f0) x0, .bytes (octs f1) x1, .bytes (octs f2) x2, .bytes (octs f3) x3, .bytes (octs f4) x4]) (o := LCg.lst [.bytes (octs f0) x0, .bytes (octs f1) x1, .bytes (octs f2) x2, .bytes (octs f3) x3, .bytes (octs f4) x4]) (by k_asm) (by k_mem) rfl ?_ (by exact Nat.le_of_ble_eq_true rfl) (by decide) ⟨_, rfl⟩ ?_ ?_
  · intro y hy
    simp only [List.mem_cons, List.not_mem_nil, or_false] at hy
    rcases hy with rfl | rfl | rfl | rfl | rfl <;> exact ⟨_, _, rfl⟩
  · intro i hi c u e
    match i, hi, e with
    | 0, _, e => (simp only [List.getElem?_cons_succ, List.getElem?_cons_zero, Option.some.injEq, Value.bytes.injEq] at e; rw [← e.1]; exact hn0)
    | 1, _, e => (simp only [List.getElem?_cons_succ, List.getElem?_cons_zero, Option.some.injEq, Value.bytes.injEq] at e; rw [← e.1]; exact hn1)
    | 2, _, e => (simp only [List.getElem?_cons_succ, List.getElem?_cons_zero, Option.some.injEq, Value.bytes.injEq] at e; rw [← e.1]; exact hn2)
    | n + 3, h, _ => exact absurd h (by omega)
  walk_at "mine:go"
  walk_at "mine:line"
  walk_at "mine:line"
  all_goals try (exfalso; omega)
  walk_at "mine:line"
  walk_at "mine:line"
  walk_at "mine:line"
  refine' next _ _ _ _ _ _ _ _ ?F1 ?M1 ?N1 ?P1
  case F1 => assumption
  case M1 =>
    refine ⟨⟨m1, m2, m3, m4⟩, ?_, ?_, ?_, ?_, ?_⟩
    · rfl
    · rfl
    · rfl
    · rfl
    · rfl
  case N1 => walk_at "mine:led"
  case P1 => walk_at "mine:part"

theorem segD1_4 {w : World} {mean : ExcName → Option Value} {mg mb : Str → Option Value} {h₀ : Heap} {L a : Addr} {cd : Value} {s : Shared} {Post : Flow → Shared → Prop} {A M J H B T0 T1 T2 T3 T4 lR I9 : Addr} {o9 o1 o2 o3 o4 o5 o6 p0 p1 p2 p3 p4 : Obj}
    (C : LawCtx w mean mg mb h₀) (K0 : Below callerA h₀ [] h₀) {c0 c1 c2 c3 e0 e1 e2 e3 e4 pl : Int} {t0 t1 t2 t3 u0 u1 u2 u3 u4 w0 w1 w2 w3 w4 x0 x1 x2 x3 x4 tp : Tok} {ep er : Nat} {q0 q1 q2 q3 q4 f0 f1 f2 f3 f4 : Str} {rowl : List (Int × Value)}
    (d3 : o3.data = .cell (some (.ref B))) (hkey : Key (.bytes (octs f4) x4) (e0 + (e1 + (e2 + (e3 + (0)))))) (hn0 : (octs f0).toList ≠ (octs f4).toList) (hn1 : (octs f1).toList ≠ (octs f4).toList) (hn2 : (octs f2).toList ≠ (octs f4).toList) (hn3 : (octs f3).toList ≠ (octs f4).toList)
    (hp0 : 0 ≤ pl) (hp1 : pl < 2 ^ 63) (hrow : (rowl.map (·.2))[pl.toNat]? = some (.bytes (octs f4) x4))
    (next : ∀ ts tk' td tu tl, GoesM w h₀ L a cd (pBody.drop 6) Post s (fun m => (m (Str.ofString "row") = some (.ref lR) ∧ m (Str.ofString "fronts") = some (.ref M) ∧ m (Str.ofString "cells") = some (.ref A) ∧ m (Str.ofString "place") = some (.int pl tp)) ∧ m (Str.ofString "k") = some (.int 4 tk') ∧ m (Str.ofString "start") = some (.int (Int.fdiv c0 35) ts) ∧ m (Str.ofString "depth") = some (.int (Int.fdiv c0 35) td) ∧ m (Str.ofString "due") = some (.int (Int.fdiv c0 35) tu) ∧ m (Str.ofString "low") = some (.int 0 tl)) ((I9, o9) :: (lR, listOf (rowl.map (·.2)).toArray er) :: (M, LCg.lst [.bytes (octs f0) x0, .bytes (octs f1) x1, .bytes (octs f2) x2, .bytes (octs f3) x3, .bytes (octs f4) x4]) :: (J, LCg.lst [.str q0 w0, .str q1 w1, .str q2 w2, .str q3 w3, .str q4 w4]) :: (H, LCg.lst [.ref T0, .ref T1, .ref T2, .ref T3, .ref T4]) :: (T4, p4) :: (T3, p3) :: (T2, p2) :: (T1, p1) :: (T0, p0) :: (B, listOf #[.int e0 u0, .int e1 u1, .int e2 u2, .int e3 u3, .int e4 u4] ep) :: (A, LCg.lst [.int c0 t0, .int c1 t1, .int c2 t2, .int c3 t3]) :: cellsN L o1 o2 o3 o4 o5 o6)) :
    GoesM w h₀ L a cd pBody Post s (fun m => m (Str.ofString "row") = some (.ref lR) ∧ m (Str.ofString "fronts") = some (.ref M) ∧ m (Str.ofString "cells") = some (.ref A) ∧ m (Str.ofString "place") = some (.int pl tp)) ((I9, o9) :: (lR, listOf (rowl.map (·.2)).toArray er) :: (M, LCg.lst [.bytes (octs f0) x0, .bytes (octs f1) x1, .bytes (octs f2) x2, .bytes (octs f3) x3, .bytes (octs f4) x4]) :: (J, LCg.lst [.str q0 w0, .str q1 w1, .str q2 w2, .str q3 w3, .str q4 w4]) :: (H, LCg.lst [.ref T0, .ref T1, .ref T2, .ref T3, .ref T4]) :: (T4, p4) :: (T3, p3) :: (T2, p2) :: (T1, p1) :: (T0, p0) :: (B, listOf #[.int e0 u0, .int e1 u1, .int e2 u2, .int e3 u3, .int e4 u4] ep) :: (A, LCg.lst [.int c0 t0, .int c1 t1, .int c2 t2, .int c3 t3]) :: cellsN L o1 o2 o3 o4 o5 o6) := by
  obtain ⟨KX, X, V, GL, T, B, TE, TW⟩ := C
  intro h tk m F ok N P
  revert KX
  k_fill
  intro KX
  unfold cellsN at N P
  conv in (execs _ _) => arg 1; whnf
  obtain ⟨m1, m2, m3, m4⟩ := ok
  walk_at "mine:line"
  refine index_bytes (k := 4) (its := [.bytes (octs f0) x0, .bytes (octs f1) x1, .bytes (octs f2) x2, .bytes (octs f3) x3, .bytes (octs f4) x4]) (o := LCg.lst [.bytes (octs f0) x0, .bytes (octs f1) x1, .bytes (octs f2) x2, .bytes (octs f3) x3, .bytes (octs f4) x4]) (by k_asm) (by k_mem) rfl ?_ (by exact Nat.le_of_ble_eq_true rfl) (by decide) ⟨_, rfl⟩ ?_ ?_
  · intro y hy
    simp only [List.mem_cons, List.not_mem_nil, or_false] at hy
    rcases hy with rfl | rfl | rfl | rfl | rfl <;> exact ⟨_, _, rfl⟩
  · intro i hi c u e
    match i, hi, e with
    | 0, _, e => (simp only [List.getElem?_cons_succ, List.getElem?_cons_zero, Option.some.injEq, Value.bytes.injEq] at e; rw [← e.1]; exact hn0)
    | 1, _, e => (simp only [List.getElem?_cons_succ, List.getElem?_cons_zero, Option.some.injEq, Value.bytes.injEq] at e; rw [← e.1]; exact hn1)
    | 2, _, e => (simp only [List.getElem?_cons_succ, List.getElem?_cons_zero, Option.some.injEq, Value.bytes.injEq] at e; rw [← e.1]; exact hn2)
    | 3, _, e => (simp only [List.getElem?_cons_succ, List.getElem?_cons_zero, Option.some.injEq, Value.bytes.injEq] at e; rw [← e.1]; exact hn3)
    | n + 4, h, _ => exact absurd h (by omega)
  walk_at "mine:go"
  walk_at "mine:line"
  walk_at "mine:line"
  all_goals try (exfalso; omega)
  walk_at "mine:line"
  walk_at "mine:line"
  walk_at "mine:line"
  refine' next _ _ _ _ _ _ _ _ ?F1 ?M1 ?N1 ?P1
  case F1 => assumption
  case M1 =>
    refine ⟨⟨m1, m2, m3, m4⟩, ?_, ?_, ?_, ?_, ?_⟩
    · rfl
    · rfl
    · rfl
    · rfl
    · rfl
  case N1 => walk_at "mine:led"
  case P1 => walk_at "mine:part"

end Mine

-- part W12
namespace Mine
open PySem PySem.W PySem.Calls PyProof.Rows
set_option Elab.async false
set_option maxRecDepth 100000
set_option maxHeartbeats 8000000

theorem catL_one (p : Pc) : catL [p] = p.l := by simp [catL]
theorem enc_one {prog : Program} {w : World} {A : Around} {E : Value → Shared → Prop} {s : Shared} {x : Str} {t : Tok} {Q : Value → Shared → Prop} {p : Pc} (hx : x.cps.toList = p.l) (hk : p.ok)
    (h : ∀ t' k, Q (.bytes (octs x) t') { s with toks := k }) : wpAny (model prog w) A (call (.builtin "str.encode") [.str x t]) Q E s :=
  enc_pcs (ps := [p]) (by rw [catL_one]; exact hx) (List.forall_mem_cons.mpr ⟨hk, List.forall_mem_nil _⟩) (Nat.le_of_ble_eq_true rfl) h
theorem key_one {x : Str} {p : Pc} {t : Tok} {e : Int} (hx : x.cps.toList = p.l) (hk : p.ok) (he : p.e = e) : Key (.bytes (octs x) t) e := by
  have := key_cat (ps := [p]) (t := t) (x := x) (by rw [catL_one]; exact hx) (List.forall_mem_cons.mpr ⟨hk, List.forall_mem_nil _⟩) (Nat.le_of_ble_eq_true rfl)
  simpa [sumE, he] using this

theorem off_W12 : True := by w_top off; trivial


local macro_rules | `(tactic| walk_at "subscriptTail Name Slice ref ref") => `(tactic| (k_here; (with_reducible show wpAny _ _ (subscriptTail _ (PySem.Expr.Slice _ none (some _) _) (Value.ref _) (Value.ref _)) _ _ _); k_dflt (refine' slice_step ?F ?N ?l ?p ?q ?k ?o ?i ?_ ?s ?t ?z; (case F => k_asm); (case N => k_asm); (case l => kmk_list); (case p => kmk_part); (case q => kmk_part); (case k => kmk_part); (case o => decide); (case i => l_ints); (case s => with_unfolding_all rfl); (case t => kmk_pure); (case z => kmk_size)); intro D' ws' h' ms' F' N' l1 hI'; (try k_lt l1); (try k_sweep)))

local macro_rules | `(tactic| walk_at "eval ListComp") => `(tactic| (k_here; k_dflt (refine LCg.ListComp_U (F₀ := by k_asm) (by rfl) (by decide) (by rfl) (by decide) (by rfl) ?_); k_dflt lcg_toSrc))
local macro_rules | `(tactic| walk_at "exec Assign cons ListComp") => `(tactic| (k_here; k_dflt (refine LCg.Assign_ListComp_U (F₀ := by k_asm) (by rfl) (by with_unfolding_all rfl) (by rfl) (by decide) (by rfl) (by decide) (by rfl) (by rfl) (by rfl) ?_); k_dflt lcg_toSrc))
local macro_rules | `(tactic| walk_at "CompSrc") => `(tactic| (k_here; k_dflt (first
  | (refine LCg.CompSrc.ledger (by rfl) (by k_asm) (by k_asm) (by k_mem) (by first | size_fits | exact Nat.le_of_ble_eq_true rfl) ?_; intro g'; lcg_lit)
  | (refine LCg.CompSrc.base (by rfl) (by k_asm) (by k_asm) (by assumption) (by first | size_fits | exact Nat.le_of_ble_eq_true rfl) ?_; intro g'; lcg_lit)
  | (refine LCg.CompSrc.range (by rfl) (by k_asm) (by k_asm) (by assumption) (by first | decide | rfl) (by first | rfl | decide) (by first | size_fits | exact Nat.le_of_ble_eq_true rfl) ?_; intro g'; lcg_lit))))
local macro_rules | `(tactic| walk_at "eval Name") => `(tactic| (k_here; (with_reducible show wpAny _ _ (eval (PySem.Expr.Name _ _) (compEnvC _ _ _ _)) _ _ _); k_dflt (first
  | refine LCgL.ld_own (by k_asm) (by k_mem) (by with_reducible assumption) (by with_reducible assumption) ?_
  | refine lcf_free (by k_asm) (by rfl) (by k_mem) (by with_reducible assumption) ?_
  | refine LCgL.ld_global (by k_asm) (by k_asm) (by k_asm) (by k_is) ?_
  | refine LCgL.ld_built (by k_asm) (by k_asm) (by k_asm) (by k_is) (by boot_by_name) (by decide) ?_)))
local macro_rules | `(tactic| walk_at "mine:go") => `(tactic| (repeat' ((fail_if_success (with_reducible show LCg.CompRest _ _ _ _ _ _ _ _ _ _ _ _ _ _ _ _ _ _ _)); (fail_if_success (with_reducible show RangeRest _ _ _ _ _ _ _ _ _ _ _ _ _ _ _ _ _)); (fail_if_success (with_reducible show wpAny _ _ (execs (_ :: _) _) _ _ _)); first | (k_unfold; (try dsimp only)) | walk1 | (dsimp only; walk1) | (leave1; walk_say "STEP leave1"; (try dsimp only)))))
local macro_rules | `(tactic| walk_at "mine:line") => `(tactic| (walk1; (try ((with_reducible show wpAny _ _ (execs (_ :: _) _) _ _ _); walk1)); walk_at "mine:go"))
local macro_rules | `(tactic| walk_at "mine:sub") => `(tactic| (intro p hp; (repeat (first | exact hp | apply List.mem_cons_of_mem))))

local macro_rules | `(tactic| walk_at "mine:look") => `(tactic| first | assumption | (refine Fr_eq (by assumption) ?_; intro z; first | exact rfl | (simp only [look_cons]; exact rfl) | (simp only [look_cons]; done) | (simp only [look_cons]; split <;> rfl) | (dsimp only; exact rfl)))
local macro_rules | `(tactic| walk_at "mine:led") => `(tactic| (refine news_sub (by assumption) ?_; (try unfold cellsN); lcg_sub))
local macro_rules | `(tactic| walk_at "mine:part") => `(tactic| (refine Apart.sub (by assumption) ?_; (try unfold cellsN); repeat (first | exact List.Sublist.slnil | refine List.Sublist.cons_cons _ ?_ | refine List.Sublist.cons _ ?_)))
local macro_rules | `(tactic| walk_at "mine:at") => `(tactic| first | exact AtIn.head | (refine' AtIn.tail ?b; (case b => walk_at "mine:at")))
local macro_rules | `(tactic| walk_at "storeName") => `(tactic| (k_here; k_dflt (refine' storeA ?F ?N ?P ?c ?U ?d ?_ ?a ?b; (case a => rfl); (case b => rfl); (case F => k_asm); (case N => k_asm); (case P => with_reducible assumption); (case c => rfl); (case U => walk_at "mine:at"); (case d => k_asm); k_whole); intro h' o' F' N' P' d'; (try dsimp only at N' P'); (try k_sweep)))
local macro_rules | `(tactic| walk_at "newList") => `(tactic| (k_here; k_dflt (refine' newList_K ?k1 ?k2 ?_; (case k1 => k_asm); (case k2 => k_asm); k_whole); intro l' h' F' N' l1; have P' := Apart.below N' l1 (by with_reducible assumption); clear l1; (try k_sweep)))
local macro_rules | `(tactic| walk_at "call builtin:list.append") => `(tactic| (k_here; k_dflt (refine' appendA ?F ?N ?P ?U ?_ ?z; (case F => k_asm); (case N => k_asm); (case P => with_reducible assumption); (case U => walk_at "mine:at"); (case z => exact Nat.le_of_ble_eq_true rfl); k_whole); intro h' F' N' P'; (try simp only [List.push_toArray, List.cons_append, List.nil_append] at N' P'); (try k_sweep)))
local macro_rules | `(tactic| walk_at "FinE") => `(tactic| ((unfold LCg.FinE); intro D' h' tk' F' N' o1'; have P' := Apart.cons' N' o1' (by with_reducible assumption); clear o1'; (try simp only [List.nil_append, List.cons_append] at N' P'); (try dsimp only); (try k_sweep)))
local macro_rules | `(tactic| walk_at "FinA") => `(tactic| ((unfold LCg.FinA); intro D' h' tk' F' N' o1'; have P' := Apart.cons' N' o1' (by with_reducible assumption); clear o1'; (try simp only [List.nil_append, List.cons_append] at N' P'); (try dsimp only); (try k_sweep)))


local macro_rules | `(tactic| walk_at "eval Name") => `(tactic| (k_here; (with_reducible show wpAny _ _ (eval (PySem.Expr.Name _ _) (envOfC _ _ _ _ _)) _ _ _); k_dflt (first
  | (refine' nameX_L ?nF ?nv ?_ ?na ?nb; (case na => rfl); (case nb => rfl); (case nF => k_asm); (case nv => assumption); k_whole)
  | (refine' nameX_C ?cN ?cc ?cm ?cd ?_ ?ca ?cb; (case ca => rfl); (case cb => rfl); (case cN => k_asm); (case cc => rfl); (case cm => k_mem); (case cd => k_asm); k_whole)
  | (refine' nameX_K ?kF ?kX ?kT ?ke ?_ ?ka ?kb; (case ka => rfl); (case kb => rfl); (case kF => k_asm); (case kX => k_asm); (case kT => k_asm); (case ke => k_is); k_whole)
  | (refine' nameX_B ?bF ?bX ?bT ?be ?bv ?bn ?_ ?ba ?bb; (case ba => rfl); (case bb => rfl); (case bF => k_asm); (case bX => k_asm); (case bT => k_asm); (case be => k_is); (case bv => boot_fast); (case bn => decide); k_whole))))
local macro_rules | `(tactic| walk_at "loadName") => `(tactic| (k_here; k_dflt (refine' loadX_Lm ?lF ?lv ?_ ?la ?lb; (case la => rfl); (case lb => rfl); (case lF => k_asm); (case lv => assumption); k_whole)))
local macro_rules | `(tactic| walk_at "subscriptTail Name Name ref int") => `(tactic| (k_here; k_dflt (refine' item_listL (l := List.map _ _) ?sl ?s0 ?s1 ?sx ?_ ?ss ?sg; (case sl => exact News.isList (by k_asm) (by k_mem)); (case s0 => assumption); (case s1 => assumption); (case sx => assumption); (case ss => with_unfolding_all rfl); (case sg => kmk_pure); k_whole)))
local macro_rules | `(tactic| walk_at "call ref") => `(tactic| (k_here; (with_reducible show wpAny _ _ (call (Value.ref 44) [_]) _ _ _); k_dflt (refine' depth_at ?i1 ?i2 ?i3 ?i4 ?i5 (depthK _ _ _ ?i6) ?_; (case i1 => assumption); (case i2 => k_asm); (case i3 => assumption); (case i4 => k_asm); (case i5 => assumption); (case i6 => first | assumption | exact (show ∀ t : Tok, Key (Value.bytes _ t) _ by assumption) _)); intro t' h' tk' F' N'; (try k_sweep)))
local macro_rules | `(tactic| walk_at "call ref") => `(tactic| (k_here; (with_reducible show wpAny _ _ (call (Value.ref 44) [_, _]) _ _ _); k_dflt (refine' depth_at ?i1 ?i2 ?i3 ?i4 ?i5 (depthK2 _ _ _ _ _ ?i6) ?_; (case i1 => assumption); (case i2 => k_asm); (case i3 => assumption); (case i4 => k_asm); (case i5 => assumption); (case i6 => first | assumption | exact (show ∀ t : Tok, Key (Value.bytes _ t) _ by assumption) _)); intro t' h' tk' F' N'; (try k_sweep)))

local macro_rules | `(tactic| walk_at "mine:oks") => `(tactic| (repeat (first | exact List.forall_mem_nil _ | refine List.forall_mem_cons.mpr ⟨by assumption, ?_⟩)))
local macro_rules | `(tactic| walk_at "getMethod str") => `(tactic| (k_here; (refine gm_encode ?_)))
local macro_rules | `(tactic| walk_at "call builtin:str.encode") => `(tactic| (k_here; k_dflt (refine' enc_one ?ex ?ek ?_; (case ex => assumption); (case ek => assumption)); intro t' k'))
theorem turnJ_0 {w : World} {mean : ExcName → Option Value} {mg mb : Str → Option Value} {h₀ : Heap} {L a : Addr} {cd : Value} {s : Shared} {Post : Flow → Shared → Prop} {A M J H B T0 T1 T2 T3 T4 lR I9 : Addr} {o9 o1 o2 o3 o4 o5 o6 p0 p1 p2 p3 p4 : Obj}
    (C : LawCtx w mean mg mb h₀) (K0 : Below callerA h₀ [] h₀) {c0 c1 c2 c3 e0 e1 e2 e3 e4 pl : Int} {t0 t1 t2 t3 u0 u1 u2 u3 u4 w0 w1 w2 w3 w4 x0 x1 x2 x3 x4 tp : Tok} {ep er : Nat} {q0 q1 q2 q3 q4 f0 f1 f2 f3 f4 : Str} {P0 : Pc} {P1 : Pc} {P2 : Pc} {P3 : Pc} {P4 : Pc} {rowl : List (Int × Value)} {I : Addr} {it : Obj}
    (d3 : o3.data = .cell (some (.ref B))) (d6 : o6.data = .cell (some (.ref J))) (hq0 : q0.cps.toList = P0.l) (hk0 : P0.ok) (he0 : P0.e = e0)
    {h : Heap} {tk : Nat} {m : Str → Option Value} {d lo sv : Int} {tj td tu tl ts : Tok} (F : Fr h₀ L h m) (N : News h₀ L h ((I, it) :: ((I9, o9) :: (lR, listOf (rowl.map (·.2)).toArray er) :: (M, LCg.lst [.bytes (octs f0) x0, .bytes (octs f1) x1, .bytes (octs f2) x2, .bytes (octs f3) x3, .bytes (octs f4) x4]) :: (J, LCg.lst [.str q0 w0, .str q1 w1, .str q2 w2, .str q3 w3, .str q4 w4]) :: (H, LCg.lst [.ref T0, .ref T1, .ref T2, .ref T3, .ref T4]) :: (T4, p4) :: (T3, p3) :: (T2, p2) :: (T1, p1) :: (T0, p0) :: (B, listOf #[.int e0 u0, .int e1 u1, .int e2 u2, .int e3 u3, .int e4 u4] ep) :: (A, LCg.lst [.int c0 t0, .int c1 t1, .int c2 t2, .int c3 t3]) :: cellsN L o1 o2 o3 o4 o5 o6))) (P : Apart ((I, it) :: ((I9, o9) :: (lR, listOf (rowl.map (·.2)).toArray er) :: (M, LCg.lst [.bytes (octs f0) x0, .bytes (octs f1) x1, .bytes (octs f2) x2, .bytes (octs f3) x3, .bytes (octs f4) x4]) :: (J, LCg.lst [.str q0 w0, .str q1 w1, .str q2 w2, .str q3 w3, .str q4 w4]) :: (H, LCg.lst [.ref T0, .ref T1, .ref T2, .ref T3, .ref T4]) :: (T4, p4) :: (T3, p3) :: (T2, p2) :: (T1, p1) :: (T0, p0) :: (B, listOf #[.int e0 u0, .int e1 u1, .int e2 u2, .int e3 u3, .int e4 u4] ep) :: (A, LCg.lst [.int c0 t0, .int c1 t1, .int c2 t2, .int c3 t3]) :: cellsN L o1 o2 o3 o4 o5 o6)))
    (m1 : m (Str.ofString "j") = some (.int 0 tj)) (m2 : m (Str.ofString "depth") = some (.int d td)) (m3 : m (Str.ofString "due") = some (.int d tu)) (m4 : m (Str.ofString "low") = some (.int lo tl)) (m5 : m (Str.ofString "start") = some (.int sv ts))
    (ret : ∀ h' tk' m', Fr h₀ L h' m' → News h₀ L h' ((I, it) :: ((I9, o9) :: (lR, listOf (rowl.map (·.2)).toArray er) :: (M, LCg.lst [.bytes (octs f0) x0, .bytes (octs f1) x1, .bytes (octs f2) x2, .bytes (octs f3) x3, .bytes (octs f4) x4]) :: (J, LCg.lst [.str q0 w0, .str q1 w1, .str q2 w2, .str q3 w3, .str q4 w4]) :: (H, LCg.lst [.ref T0, .ref T1, .ref T2, .ref T3, .ref T4]) :: (T4, p4) :: (T3, p3) :: (T2, p2) :: (T1, p1) :: (T0, p0) :: (B, listOf #[.int e0 u0, .int e1 u1, .int e2 u2, .int e3 u3, .int e4 u4] ep) :: (A, LCg.lst [.int c0 t0, .int c1 t1, .int c2 t2, .int c3 t3]) :: cellsN L o1 o2 o3 o4 o5 o6)) → (∀ y, y ≠ Str.ofString "depth" → y ≠ Str.ofString "due" → y ≠ Str.ofString "low" → m' y = m y) →
      (∃ t, m' (Str.ofString "depth") = some (.int (d + e0) t)) → (∃ t, m' (Str.ofString "due") = some (.int (d + e0) t)) → (∃ t, m' (Str.ofString "low") = some (.int (lo + if d + e0 ≤ sv then 1 else 0) t)) → Post .next { s with heap := h', toks := tk' }) :
    wpAny (model Challenge.rw_wy0015_01.row.prog w) (callerA.deeper (lawEnv L a cd)) (execs jBody (lawEnv L a cd)) Post (fun _ _ => False) { s with heap := h, toks := tk } := by
  obtain ⟨KX, X, V, GL, T, B, TE, TW⟩ := C
  revert KX
  k_fill
  intro KX
  unfold cellsN at N P
  have hkey := fun t => key_one (t := t) hq0 hk0 he0
  conv in (execs _ _) => arg 1; whnf
  walk_at "mine:line"
  walk_at "mine:line"
  walk_at "mine:line"
  · exact absurd rfl (by assumption)
  walk_at "mine:line"
  · walk_at "mine:line"
    refine' ret _ _ _ (by assumption) (by assumption) ?g1 ⟨_, ?g2⟩ ⟨_, ?g3⟩ ⟨_, ?g4⟩
    case g1 => intro y h1 h2 h3; simp only [h1, h2, h3, if_false]
    case g2 => rfl
    case g3 => rfl
    case g4 => rw [show (if d + e0 ≤ sv then (1 : Int) else 0) = 1 from if_pos (by assumption)]; rfl
  · refine' ret _ _ _ (by assumption) (by assumption) ?h1 ⟨_, ?h2⟩ ⟨_, ?h3⟩ ⟨_, ?h4⟩
    case h1 => intro y h1 h2 h3; simp only [h1, h2, h3, if_false]
    case h2 => rfl
    case h3 => rfl
    case h4 => rw [show (if d + e0 ≤ sv then (1 : Int) else 0) = 0 from if_neg (by assumption), Int.add_zero]; exact m4

theorem turnJ_1 {w : World} {mean : ExcName → Option Value} {mg mb : Str → Option Value} {h₀ : Heap} {L a : Addr} {cd : Value} {s : Shared} {Post : Flow → Shared → Prop} {A M J H B T0 T1 T2 T3 T4 lR I9 : Addr} {o9 o1 o2 o3 o4 o5 o6 p0 p1 p2 p3 p4 : Obj}
    (C : LawCtx w mean mg mb h₀) (K0 : Below callerA h₀ [] h₀) {c0 c1 c2 c3 e0 e1 e2 e3 e4 pl : Int} {t0 t1 t2 t3 u0 u1 u2 u3 u4 w0 w1 w2 w3 w4 x0 x1 x2 x3 x4 tp : Tok} {ep er : Nat} {q0 q1 q2 q3 q4 f0 f1 f2 f3 f4 : Str} {P0 : Pc} {P1 : Pc} {P2 : Pc} {P3 : Pc} {P4 : Pc} {rowl : List (Int × Value)} {I : Addr} {it : Obj}
    (d3 : o3.data = .cell (some (.ref B))) (d6 : o6.data = .cell (some (.ref J))) (hq1 : q1.cps.toList = P1.l) (hk1 : P1.ok) (he1 : P1.e = e1)
    {h : Heap} {tk : Nat} {m : Str → Option Value} {d lo sv : Int} {tj td tu tl ts : Tok} (F : Fr h₀ L h m) (N : News h₀ L h ((I, it) :: ((I9, o9) :: (lR, listOf (rowl.map (·.2)).toArray er) :: (M, LCg.lst [.bytes (octs f0) x0, .bytes (octs f1) x1, .bytes (octs f2) x2, .bytes (octs f3) x3, .bytes (octs f4) x4]) :: (J, LCg.lst [.str q0 w0, .str q1 w1, .str q2 w2, .str q3 w3, .str q4 w4]) :: (H, LCg.lst [.ref T0, .ref T1, .ref T2, .ref T3, .ref T4]) :: (T4, p4) :: (T3, p3) :: (T2, p2) :: (T1, p1) :: (T0, p0) :: (B, listOf #[.int e0 u0, .int e1 u1, .int e2 u2, .int e3 u3, .int e4 u4] ep) :: (A, LCg.lst [.int c0 t0, .int c1 t1, .int c2 t2, .int c3 t3]) :: cellsN L o1 o2 o3 o4 o5 o6))) (P : Apart ((I, it) :: ((I9, o9) :: (lR, listOf (rowl.map (·.2)).toArray er) :: (M, LCg.lst [.bytes (octs f0) x0, .bytes (octs f1) x1, .bytes (octs f2) x2, .bytes (octs f3) x3, .bytes (octs f4) x4]) :: (J, LCg.lst [.str q0 w0, .str q1 w1, .str q2 w2, .str q3 w3, .str q4 w4]) :: (H, LCg.lst [.ref T0, .ref T1, .ref T2, .ref T3, .ref T4]) :: (T4, p4) :: (T3, p3) :: (T2, p2) :: (T1, p1) :: (T0, p0) :: (B, listOf #[.int e0 u0, .int e1 u1, .int e2 u2, .int e3 u3, .int e4 u4] ep) :: (A, LCg.lst [.int c0 t0, .int c1 t1, .int c2 t2, .int c3 t3]) :: cellsN L o1 o2 o3 o4 o5 o6)))
    (m1 : m (Str.ofString "j") = some (.int 1 tj)) (m2 : m (Str.ofString "depth") = some (.int d td)) (m3 : m (Str.ofString "due") = some (.int d tu)) (m4 : m (Str.ofString "low") = some (.int lo tl)) (m5 : m (Str.ofString "start") = some (.int sv ts))
    (ret : ∀ h' tk' m', Fr h₀ L h' m' → News h₀ L h' ((I, it) :: ((I9, o9) :: (lR, listOf (rowl.map (·.2)).toArray er) :: (M, LCg.lst [.bytes (octs f0) x0, .bytes (octs f1) x1, .bytes (octs f2) x2, .bytes (octs f3) x3, .bytes (octs f4) x4]) :: (J, LCg.lst [.str q0 w0, .str q1 w1, .str q2 w2, .str q3 w3, .str q4 w4]) :: (H, LCg.lst [.ref T0, .ref T1, .ref T2, .ref T3, .ref T4]) :: (T4, p4) :: (T3, p3) :: (T2, p2) :: (T1, p1) :: (T0, p0) :: (B, listOf #[.int e0 u0, .int e1 u1, .int e2 u2, .int e3 u3, .int e4 u4] ep) :: (A, LCg.lst [.int c0 t0, .int c1 t1, .int c2 t2, .int c3 t3]) :: cellsN L o1 o2 o3 o4 o5 o6)) → (∀ y, y ≠ Str.ofString "depth" → y ≠ Str.ofString "due" → y ≠ Str.ofString "low" → m' y = m y) →
      (∃ t, m' (Str.ofString "depth") = some (.int (d + e1) t)) → (∃ t, m' (Str.ofString "due") = some (.int (d + e1) t)) → (∃ t, m' (Str.ofString "low") = some (.int (lo + if d + e1 ≤ sv then 1 else 0) t)) → Post .next { s with heap := h', toks := tk' }) :
    wpAny (model Challenge.rw_wy0015_01.row.prog w) (callerA.deeper (lawEnv L a cd)) (execs jBody (lawEnv L a cd)) Post (fun _ _ => False) { s with heap := h, toks := tk } := by
  obtain ⟨KX, X, V, GL, T, B, TE, TW⟩ := C
  revert KX
  k_fill
  intro KX
  unfold cellsN at N P
  have hkey := fun t => key_one (t := t) hq1 hk1 he1
  conv in (execs _ _) => arg 1; whnf
  walk_at "mine:line"
  walk_at "mine:line"
  walk_at "mine:line"
  · exact absurd rfl (by assumption)
  walk_at "mine:line"
  · walk_at "mine:line"
    refine' ret _ _ _ (by assumption) (by assumption) ?g1 ⟨_, ?g2⟩ ⟨_, ?g3⟩ ⟨_, ?g4⟩
    case g1 => intro y h1 h2 h3; simp only [h1, h2, h3, if_false]
    case g2 => rfl
    case g3 => rfl
    case g4 => rw [show (if d + e1 ≤ sv then (1 : Int) else 0) = 1 from if_pos (by assumption)]; rfl
  · refine' ret _ _ _ (by assumption) (by assumption) ?h1 ⟨_, ?h2⟩ ⟨_, ?h3⟩ ⟨_, ?h4⟩
    case h1 => intro y h1 h2 h3; simp only [h1, h2, h3, if_false]
    case h2 => rfl
    case h3 => rfl
    case h4 => rw [show (if d + e1 ≤ sv then (1 : Int) else 0) = 0 from if_neg (by assumption), Int.add_zero]; exact m4

theorem turnJ_2 {w : World} {mean : ExcName → Option Value} {mg mb : Str → Option Value} {h₀ : Heap} {L a : Addr} {cd : Value} {s : Shared} {Post : Flow → Shared → Prop} {A M J H B T0 T1 T2 T3 T4 lR I9 : Addr} {o9 o1 o2 o3 o4 o5 o6 p0 p1 p2 p3 p4 : Obj}
    (C : LawCtx w mean mg mb h₀) (K0 : Below callerA h₀ [] h₀) {c0 c1 c2 c3 e0 e1 e2 e3 e4 pl : Int} {t0 t1 t2 t3 u0 u1 u2 u3 u4 w0 w1 w2 w3 w4 x0 x1 x2 x3 x4 tp : Tok} {ep er : Nat} {q0 q1 q2 q3 q4 f0 f1 f2 f3 f4 : Str} {P0 : Pc} {P1 : Pc} {P2 : Pc} {P3 : Pc} {P4 : Pc} {rowl : List (Int × Value)} {I : Addr} {it : Obj}
    (d3 : o3.data = .cell (some (.ref B))) (d6 : o6.data = .cell (some (.ref J))) (hq2 : q2.cps.toList = P2.l) (hk2 : P2.ok) (he2 : P2.e = e2)
    {h : Heap} {tk : Nat} {m : Str → Option Value} {d lo sv : Int} {tj td tu tl ts : Tok} (F : Fr h₀ L h m) (N : News h₀ L h ((I, it) :: ((I9, o9) :: (lR, listOf (rowl.map (·.2)).toArray er) :: (M, LCg.lst [.bytes (octs f0) x0, .bytes (octs f1) x1, .bytes (octs f2) x2, .bytes (octs f3) x3, .bytes (octs f4) x4]) :: (J, LCg.lst [.str q0 w0, .str q1 w1, .str q2 w2, .str q3 w3, .str q4 w4]) :: (H, LCg.lst [.ref T0, .ref T1, .ref T2, .ref T3, .ref T4]) :: (T4, p4) :: (T3, p3) :: (T2, p2) :: (T1, p1) :: (T0, p0) :: (B, listOf #[.int e0 u0, .int e1 u1, .int e2 u2, .int e3 u3, .int e4 u4] ep) :: (A, LCg.lst [.int c0 t0, .int c1 t1, .int c2 t2, .int c3 t3]) :: cellsN L o1 o2 o3 o4 o5 o6))) (P : Apart ((I, it) :: ((I9, o9) :: (lR, listOf (rowl.map (·.2)).toArray er) :: (M, LCg.lst [.bytes (octs f0) x0, .bytes (octs f1) x1, .bytes (octs f2) x2, .bytes (octs f3) x3, .bytes (octs f4) x4]) :: (J, LCg.lst [.str q0 w0, .str q1 w1, .str q2 w2, .str q3 w3, .str q4 w4]) :: (H, LCg.lst [.ref T0, .ref T1, .ref T2, .ref T3, .ref T4]) :: (T4, p4) :: (T3, p3) :: (T2, p2) :: (T1, p1) :: (T0, p0) :: (B, listOf #[.int e0 u0, .int e1 u1, .int e2 u2, .int e3 u3, .int e4 u4] ep) :: (A, LCg.lst [.int c0 t0, .int c1 t1, .int c2 t2, .int c3 t3]) :: cellsN L o1 o2 o3 o4 o5 o6)))
    (m1 : m (Str.ofString "j") = some (.int 2 tj)) (m2 : m (Str.ofString "depth") = some (.int d td)) (m3 : m (Str.ofString "due") = some (.int d tu)) (m4 : m (Str.ofString "low") = some (.int lo tl)) (m5 : m (Str.ofString "start") = some (.int sv ts))
    (ret : ∀ h' tk' m', Fr h₀ L h' m' → News h₀ L h' ((I, it) :: ((I9, o9) :: (lR, listOf (rowl.map (·.2)).toArray er) :: (M, LCg.lst [.bytes (octs f0) x0, .bytes (octs f1) x1, .bytes (octs f2) x2, .bytes (octs f3) x3, .bytes (octs f4) x4]) :: (J, LCg.lst [.str q0 w0, .str q1 w1, .str q2 w2, .str q3 w3, .str q4 w4]) :: (H, LCg.lst [.ref T0, .ref T1, .ref T2, .ref T3, .ref T4]) :: (T4, p4) :: (T3, p3) :: (T2, p2) :: (T1, p1) :: (T0, p0) :: (B, listOf #[.int e0 u0, .int e1 u1, .int e2 u2, .int e3 u3, .int e4 u4] ep) :: (A, LCg.lst [.int c0 t0, .int c1 t1, .int c2 t2, .int c3 t3]) :: cellsN L o1 o2 o3 o4 o5 o6)) → (∀ y, y ≠ Str.ofString "depth" → y ≠ Str.ofString "due" → y ≠ Str.ofString "low" → m' y = m y) →
      (∃ t, m' (Str.ofString "depth") = some (.int (d + e2) t)) → (∃ t, m' (Str.ofString "due") = some (.int (d + e2) t)) → (∃ t, m' (Str.ofString "low") = some (.int (lo + if d + e2 ≤ sv then 1 else 0) t)) → Post .next { s with heap := h', toks := tk' }) :
    wpAny (model Challenge.rw_wy0015_01.row.prog w) (callerA.deeper (lawEnv L a cd)) (execs jBody (lawEnv L a cd)) Post (fun _ _ => False) { s with heap := h, toks := tk } := by
  obtain ⟨KX, X, V, GL, T, B, TE, TW⟩ := C
  revert KX
  k_fill
  intro KX
  unfold cellsN at N P
  have hkey := fun t => key_one (t := t) hq2 hk2 he2
  conv in (execs _ _) => arg 1; whnf
  walk_at "mine:line"
  walk_at "mine:line"
  walk_at "mine:line"
  · exact absurd rfl (by assumption)
  walk_at "mine:line"
  · walk_at "mine:line"
    refine' ret _ _ _ (by assumption) (by assumption) ?g1 ⟨_, ?g2⟩ ⟨_, ?g3⟩ ⟨_, ?g4⟩
    case g1 => intro y h1 h2 h3; simp only [h1, h2, h3, if_false]
    case g2 => rfl
    case g3 => rfl
    case g4 => rw [show (if d + e2 ≤ sv then (1 : Int) else 0) = 1 from if_pos (by assumption)]; rfl
  · refine' ret _ _ _ (by assumption) (by assumption) ?h1 ⟨_, ?h2⟩ ⟨_, ?h3⟩ ⟨_, ?h4⟩
    case h1 => intro y h1 h2 h3; simp only [h1, h2, h3, if_false]
    case h2 => rfl
    case h3 => rfl
    case h4 => rw [show (if d + e2 ≤ sv then (1 : Int) else 0) = 0 from if_neg (by assumption), Int.add_zero]; exact m4

theorem turnJ_3 {w : World} {mean : ExcName → Option Value} {mg mb : Str → Option Value} {h₀ : Heap} {L a : Addr} {cd : Value} {s : Shared} {Post : Flow → Shared → Prop} {A M J H B T0 T1 T2 T3 T4 lR I9 : Addr} {o9 o1 o2 o3 o4 o5 o6 p0 p1 p2 p3 p4 : Obj}
    (C : LawCtx w mean mg mb h₀) (K0 : Below callerA h₀ [] h₀) {c0 c1 c2 c3 e0 e1 e2 e3 e4 pl : Int} {t0 t1 t2 t3 u0 u1 u2 u3 u4 w0 w1 w2 w3 w4 x0 x1 x2 x3 x4 tp : Tok} {ep er : Nat} {q0 q1 q2 q3 q4 f0 f1 f2 f3 f4 : Str} {P0 : Pc} {P1 : Pc} {P2 : Pc} {P3 : Pc} {P4 : Pc} {rowl : List (Int × Value)} {I : Addr} {it : Obj}
    (d3 : o3.data = .cell (some (.ref B))) (d6 : o6.data = .cell (some (.ref J))) (hq3 : q3.cps.toList = P3.l) (hk3 : P3.ok) (he3 : P3.e = e3)
    {h : Heap} {tk : Nat} {m : Str → Option Value} {d lo sv : Int} {tj td tu tl ts : Tok} (F : Fr h₀ L h m) (N : News h₀ L h ((I, it) :: ((I9, o9) :: (lR, listOf (rowl.map (·.2)).toArray er) :: (M, LCg.lst [.bytes (octs f0) x0, .bytes (octs f1) x1, .bytes (octs f2) x2, .bytes (octs f3) x3, .bytes (octs f4) x4]) :: (J, LCg.lst [.str q0 w0, .str q1 w1, .str q2 w2, .str q3 w3, .str q4 w4]) :: (H, LCg.lst [.ref T0, .ref T1, .ref T2, .ref T3, .ref T4]) :: (T4, p4) :: (T3, p3) :: (T2, p2) :: (T1, p1) :: (T0, p0) :: (B, listOf #[.int e0 u0, .int e1 u1, .int e2 u2, .int e3 u3, .int e4 u4] ep) :: (A, LCg.lst [.int c0 t0, .int c1 t1, .int c2 t2, .int c3 t3]) :: cellsN L o1 o2 o3 o4 o5 o6))) (P : Apart ((I, it) :: ((I9, o9) :: (lR, listOf (rowl.map (·.2)).toArray er) :: (M, LCg.lst [.bytes (octs f0) x0, .bytes (octs f1) x1, .bytes (octs f2) x2, .bytes (octs f3) x3, .bytes (octs f4) x4]) :: (J, LCg.lst [.str q0 w0, .str q1 w1, .str q2 w2, .str q3 w3, .str q4 w4]) :: (H, LCg.lst [.ref T0, .ref T1, .ref T2, .ref T3, .ref T4]) :: (T4, p4) :: (T3, p3) :: (T2, p2) :: (T1, p1) :: (T0, p0) :: (B, listOf #[.int e0 u0, .int e1 u1, .int e2 u2, .int e3 u3, .int e4 u4] ep) :: (A, LCg.lst [.int c0 t0, .int c1 t1, .int c2 t2, .int c3 t3]) :: cellsN L o1 o2 o3 o4 o5 o6)))
    (m1 : m (Str.ofString "j") = some (.int 3 tj)) (m2 : m (Str.ofString "depth") = some (.int d td)) (m3 : m (Str.ofString "due") = some (.int d tu)) (m4 : m (Str.ofString "low") = some (.int lo tl)) (m5 : m (Str.ofString "start") = some (.int sv ts))
    (ret : ∀ h' tk' m', Fr h₀ L h' m' → News h₀ L h' ((I, it) :: ((I9, o9) :: (lR, listOf (rowl.map (·.2)).toArray er) :: (M, LCg.lst [.bytes (octs f0) x0, .bytes (octs f1) x1, .bytes (octs f2) x2, .bytes (octs f3) x3, .bytes (octs f4) x4]) :: (J, LCg.lst [.str q0 w0, .str q1 w1, .str q2 w2, .str q3 w3, .str q4 w4]) :: (H, LCg.lst [.ref T0, .ref T1, .ref T2, .ref T3, .ref T4]) :: (T4, p4) :: (T3, p3) :: (T2, p2) :: (T1, p1) :: (T0, p0) :: (B, listOf #[.int e0 u0, .int e1 u1, .int e2 u2, .int e3 u3, .int e4 u4] ep) :: (A, LCg.lst [.int c0 t0, .int c1 t1, .int c2 t2, .int c3 t3]) :: cellsN L o1 o2 o3 o4 o5 o6)) → (∀ y, y ≠ Str.ofString "depth" → y ≠ Str.ofString "due" → y ≠ Str.ofString "low" → m' y = m y) →
      (∃ t, m' (Str.ofString "depth") = some (.int (d + e3) t)) → (∃ t, m' (Str.ofString "due") = some (.int (d + e3) t)) → (∃ t, m' (Str.ofString "low") = some (.int (lo + if d + e3 ≤ sv then 1 else 0) t)) → Post .next { s with heap := h', toks := tk' }) :
    wpAny (model Challenge.rw_wy0015_01.row.prog w) (callerA.deeper (lawEnv L a cd)) (execs jBody (lawEnv L a cd)) Post (fun _ _ => False) { s with heap := h, toks := tk } := by
  obtain ⟨KX, X, V, GL, T, B, TE, TW⟩ := C
  revert KX
  k_fill
  intro KX
  unfold cellsN at N P
  have hkey := fun t => key_one (t := t) hq3 hk3 he3
  conv in (execs _ _) => arg 1; whnf
  walk_at "mine:line"
  walk_at "mine:line"
  walk_at "mine:line"
  · exact absurd rfl (by assumption)
  walk_at "mine:line"
  · walk_at "mine:line"
    refine' ret _ _ _ (by assumption) (by assumption) ?g1 ⟨_, ?g2⟩ ⟨_, ?g3⟩ ⟨_, ?g4⟩
    case g1 => intro y h1 h2 h3; simp only [h1, h2, h3, if_false]
    case g2 => rfl
    case g3 => rfl
    case g4 => rw [show (if d + e3 ≤ sv then (1 : Int) else 0) = 1 from if_pos (by assumption)]; rfl
  · refine' ret _ _ _ (by assumption) (by assumption) ?h1 ⟨_, ?h2⟩ ⟨_, ?h3⟩ ⟨_, ?h4⟩
    case h1 => intro y h1 h2 h3; simp only [h1, h2, h3, if_false]
    case h2 => rfl
    case h3 => rfl
    case h4 => rw [show (if d + e3 ≤ sv then (1 : Int) else 0) = 0 from if_neg (by assumption), Int.add_zero]; exact m4

theorem turnJ_4 {w : World} {mean : ExcName → Option Value} {mg mb : Str → Option Value} {h₀ : Heap} {L a : Addr} {cd : Value} {s : Shared} {Post : Flow → Shared → Prop} {A M J H B T0 T1 T2 T3 T4 lR I9 : Addr} {o9 o1 o2 o3 o4 o5 o6 p0 p1 p2 p3 p4 : Obj}
    (C : LawCtx w mean mg mb h₀) (K0 : Below callerA h₀ [] h₀) {c0 c1 c2 c3 e0 e1 e2 e3 e4 pl : Int} {t0 t1 t2 t3 u0 u1 u2 u3 u4 w0 w1 w2 w3 w4 x0 x1 x2 x3 x4 tp : Tok} {ep er : Nat} {q0 q1 q2 q3 q4 f0 f1 f2 f3 f4 : Str} {P0 : Pc} {P1 : Pc} {P2 : Pc} {P3 : Pc} {P4 : Pc} {rowl : List (Int × Value)} {I : Addr} {it : Obj}
    (d3 : o3.data = .cell (some (.ref B))) (d6 : o6.data = .cell (some (.ref J))) (hq4 : q4.cps.toList = P4.l) (hk4 : P4.ok) (he4 : P4.e = e4)
    {h : Heap} {tk : Nat} {m : Str → Option Value} {d lo sv : Int} {tj td tu tl ts : Tok} (F : Fr h₀ L h m) (N : News h₀ L h ((I, it) :: ((I9, o9) :: (lR, listOf (rowl.map (·.2)).toArray er) :: (M, LCg.lst [.bytes (octs f0) x0, .bytes (octs f1) x1, .bytes (octs f2) x2, .bytes (octs f3) x3, .bytes (octs f4) x4]) :: (J, LCg.lst [.str q0 w0, .str q1 w1, .str q2 w2, .str q3 w3, .str q4 w4]) :: (H, LCg.lst [.ref T0, .ref T1, .ref T2, .ref T3, .ref T4]) :: (T4, p4) :: (T3, p3) :: (T2, p2) :: (T1, p1) :: (T0, p0) :: (B, listOf #[.int e0 u0, .int e1 u1, .int e2 u2, .int e3 u3, .int e4 u4] ep) :: (A, LCg.lst [.int c0 t0, .int c1 t1, .int c2 t2, .int c3 t3]) :: cellsN L o1 o2 o3 o4 o5 o6))) (P : Apart ((I, it) :: ((I9, o9) :: (lR, listOf (rowl.map (·.2)).toArray er) :: (M, LCg.lst [.bytes (octs f0) x0, .bytes (octs f1) x1, .bytes (octs f2) x2, .bytes (octs f3) x3, .bytes (octs f4) x4]) :: (J, LCg.lst [.str q0 w0, .str q1 w1, .str q2 w2, .str q3 w3, .str q4 w4]) :: (H, LCg.lst [.ref T0, .ref T1, .ref T2, .ref T3, .ref T4]) :: (T4, p4) :: (T3, p3) :: (T2, p2) :: (T1, p1) :: (T0, p0) :: (B, listOf #[.int e0 u0, .int e1 u1, .int e2 u2, .int e3 u3, .int e4 u4] ep) :: (A, LCg.lst [.int c0 t0, .int c1 t1, .int c2 t2, .int c3 t3]) :: cellsN L o1 o2 o3 o4 o5 o6)))
    (m1 : m (Str.ofString "j") = some (.int 4 tj)) (m2 : m (Str.ofString "depth") = some (.int d td)) (m3 : m (Str.ofString "due") = some (.int d tu)) (m4 : m (Str.ofString "low") = some (.int lo tl)) (m5 : m (Str.ofString "start") = some (.int sv ts))
    (ret : ∀ h' tk' m', Fr h₀ L h' m' → News h₀ L h' ((I, it) :: ((I9, o9) :: (lR, listOf (rowl.map (·.2)).toArray er) :: (M, LCg.lst [.bytes (octs f0) x0, .bytes (octs f1) x1, .bytes (octs f2) x2, .bytes (octs f3) x3, .bytes (octs f4) x4]) :: (J, LCg.lst [.str q0 w0, .str q1 w1, .str q2 w2, .str q3 w3, .str q4 w4]) :: (H, LCg.lst [.ref T0, .ref T1, .ref T2, .ref T3, .ref T4]) :: (T4, p4) :: (T3, p3) :: (T2, p2) :: (T1, p1) :: (T0, p0) :: (B, listOf #[.int e0 u0, .int e1 u1, .int e2 u2, .int e3 u3, .int e4 u4] ep) :: (A, LCg.lst [.int c0 t0, .int c1 t1, .int c2 t2, .int c3 t3]) :: cellsN L o1 o2 o3 o4 o5 o6)) → (∀ y, y ≠ Str.ofString "depth" → y ≠ Str.ofString "due" → y ≠ Str.ofString "low" → m' y = m y) →
      (∃ t, m' (Str.ofString "depth") = some (.int (d + e4) t)) → (∃ t, m' (Str.ofString "due") = some (.int (d + e4) t)) → (∃ t, m' (Str.ofString "low") = some (.int (lo + if d + e4 ≤ sv then 1 else 0) t)) → Post .next { s with heap := h', toks := tk' }) :
    wpAny (model Challenge.rw_wy0015_01.row.prog w) (callerA.deeper (lawEnv L a cd)) (execs jBody (lawEnv L a cd)) Post (fun _ _ => False) { s with heap := h, toks := tk } := by
  obtain ⟨KX, X, V, GL, T, B, TE, TW⟩ := C
  revert KX
  k_fill
  intro KX
  unfold cellsN at N P
  have hkey := fun t => key_one (t := t) hq4 hk4 he4
  conv in (execs _ _) => arg 1; whnf
  walk_at "mine:line"
  walk_at "mine:line"
  walk_at "mine:line"
  · exact absurd rfl (by assumption)
  walk_at "mine:line"
  · walk_at "mine:line"
    refine' ret _ _ _ (by assumption) (by assumption) ?g1 ⟨_, ?g2⟩ ⟨_, ?g3⟩ ⟨_, ?g4⟩
    case g1 => intro y h1 h2 h3; simp only [h1, h2, h3, if_false]
    case g2 => rfl
    case g3 => rfl
    case g4 => rw [show (if d + e4 ≤ sv then (1 : Int) else 0) = 1 from if_pos (by assumption)]; rfl
  · refine' ret _ _ _ (by assumption) (by assumption) ?h1 ⟨_, ?h2⟩ ⟨_, ?h3⟩ ⟨_, ?h4⟩
    case h1 => intro y h1 h2 h3; simp only [h1, h2, h3, if_false]
    case h2 => rfl
    case h3 => rfl
    case h4 => rw [show (if d + e4 ≤ sv then (1 : Int) else 0) = 0 from if_neg (by assumption), Int.add_zero]; exact m4

theorem turnJ_5 {w : World} {mean : ExcName → Option Value} {mg mb : Str → Option Value} {h₀ : Heap} {L a : Addr} {cd : Value} {s : Shared} {Post : Flow → Shared → Prop} {A M J H B T0 T1 T2 T3 T4 lR I9 : Addr} {o9 o1 o2 o3 o4 o5 o6 p0 p1 p2 p3 p4 : Obj}
    (C : LawCtx w mean mg mb h₀) (K0 : Below callerA h₀ [] h₀) {c0 c1 c2 c3 e0 e1 e2 e3 e4 pl : Int} {t0 t1 t2 t3 u0 u1 u2 u3 u4 w0 w1 w2 w3 w4 x0 x1 x2 x3 x4 tp : Tok} {ep er : Nat} {q0 q1 q2 q3 q4 f0 f1 f2 f3 f4 : Str} {P0 : Pc} {P1 : Pc} {P2 : Pc} {P3 : Pc} {P4 : Pc} {rowl : List (Int × Value)} {I : Addr} {it : Obj}
    (d3 : o3.data = .cell (some (.ref B))) (d6 : o6.data = .cell (some (.ref J))) (hq0 : q0.cps.toList = P0.l) (hk0 : P0.ok) (he0 : P0.e = e0)
    {h : Heap} {tk : Nat} {m : Str → Option Value} {d lo sv : Int} {tj td tu tl ts : Tok} (F : Fr h₀ L h m) (N : News h₀ L h ((I, it) :: ((I9, o9) :: (lR, listOf (rowl.map (·.2)).toArray er) :: (M, LCg.lst [.bytes (octs f0) x0, .bytes (octs f1) x1, .bytes (octs f2) x2, .bytes (octs f3) x3, .bytes (octs f4) x4]) :: (J, LCg.lst [.str q0 w0, .str q1 w1, .str q2 w2, .str q3 w3, .str q4 w4]) :: (H, LCg.lst [.ref T0, .ref T1, .ref T2, .ref T3, .ref T4]) :: (T4, p4) :: (T3, p3) :: (T2, p2) :: (T1, p1) :: (T0, p0) :: (B, listOf #[.int e0 u0, .int e1 u1, .int e2 u2, .int e3 u3, .int e4 u4] ep) :: (A, LCg.lst [.int c0 t0, .int c1 t1, .int c2 t2, .int c3 t3]) :: cellsN L o1 o2 o3 o4 o5 o6))) (P : Apart ((I, it) :: ((I9, o9) :: (lR, listOf (rowl.map (·.2)).toArray er) :: (M, LCg.lst [.bytes (octs f0) x0, .bytes (octs f1) x1, .bytes (octs f2) x2, .bytes (octs f3) x3, .bytes (octs f4) x4]) :: (J, LCg.lst [.str q0 w0, .str q1 w1, .str q2 w2, .str q3 w3, .str q4 w4]) :: (H, LCg.lst [.ref T0, .ref T1, .ref T2, .ref T3, .ref T4]) :: (T4, p4) :: (T3, p3) :: (T2, p2) :: (T1, p1) :: (T0, p0) :: (B, listOf #[.int e0 u0, .int e1 u1, .int e2 u2, .int e3 u3, .int e4 u4] ep) :: (A, LCg.lst [.int c0 t0, .int c1 t1, .int c2 t2, .int c3 t3]) :: cellsN L o1 o2 o3 o4 o5 o6)))
    (m1 : m (Str.ofString "j") = some (.int 5 tj)) (m2 : m (Str.ofString "depth") = some (.int d td)) (m3 : m (Str.ofString "due") = some (.int d tu)) (m4 : m (Str.ofString "low") = some (.int lo tl)) (m5 : m (Str.ofString "start") = some (.int sv ts))
    (ret : ∀ h' tk' m', Fr h₀ L h' m' → News h₀ L h' ((I, it) :: ((I9, o9) :: (lR, listOf (rowl.map (·.2)).toArray er) :: (M, LCg.lst [.bytes (octs f0) x0, .bytes (octs f1) x1, .bytes (octs f2) x2, .bytes (octs f3) x3, .bytes (octs f4) x4]) :: (J, LCg.lst [.str q0 w0, .str q1 w1, .str q2 w2, .str q3 w3, .str q4 w4]) :: (H, LCg.lst [.ref T0, .ref T1, .ref T2, .ref T3, .ref T4]) :: (T4, p4) :: (T3, p3) :: (T2, p2) :: (T1, p1) :: (T0, p0) :: (B, listOf #[.int e0 u0, .int e1 u1, .int e2 u2, .int e3 u3, .int e4 u4] ep) :: (A, LCg.lst [.int c0 t0, .int c1 t1, .int c2 t2, .int c3 t3]) :: cellsN L o1 o2 o3 o4 o5 o6)) → (∀ y, y ≠ Str.ofString "depth" → y ≠ Str.ofString "due" → y ≠ Str.ofString "low" → m' y = m y) →
      (∃ t, m' (Str.ofString "depth") = some (.int (d + e0) t)) → (∃ t, m' (Str.ofString "due") = some (.int (d + e0) t)) → (∃ t, m' (Str.ofString "low") = some (.int (lo + if d + e0 ≤ sv then 1 else 0) t)) → Post .next { s with heap := h', toks := tk' }) :
    wpAny (model Challenge.rw_wy0015_01.row.prog w) (callerA.deeper (lawEnv L a cd)) (execs jBody (lawEnv L a cd)) Post (fun _ _ => False) { s with heap := h, toks := tk } := by
  obtain ⟨KX, X, V, GL, T, B, TE, TW⟩ := C
  revert KX
  k_fill
  intro KX
  unfold cellsN at N P
  have hkey := fun t => key_one (t := t) hq0 hk0 he0
  conv in (execs _ _) => arg 1; whnf
  walk_at "mine:line"
  walk_at "mine:line"
  walk_at "mine:line"
  · exact absurd rfl (by assumption)
  walk_at "mine:line"
  · walk_at "mine:line"
    refine' ret _ _ _ (by assumption) (by assumption) ?g1 ⟨_, ?g2⟩ ⟨_, ?g3⟩ ⟨_, ?g4⟩
    case g1 => intro y h1 h2 h3; simp only [h1, h2, h3, if_false]
    case g2 => rfl
    case g3 => rfl
    case g4 => rw [show (if d + e0 ≤ sv then (1 : Int) else 0) = 1 from if_pos (by assumption)]; rfl
  · refine' ret _ _ _ (by assumption) (by assumption) ?h1 ⟨_, ?h2⟩ ⟨_, ?h3⟩ ⟨_, ?h4⟩
    case h1 => intro y h1 h2 h3; simp only [h1, h2, h3, if_false]
    case h2 => rfl
    case h3 => rfl
    case h4 => rw [show (if d + e0 ≤ sv then (1 : Int) else 0) = 0 from if_neg (by assumption), Int.add_zero]; exact m4

theorem turnJ_6 {w : World} {mean : ExcName → Option Value} {mg mb : Str → Option Value} {h₀ : Heap} {L a : Addr} {cd : Value} {s : Shared} {Post : Flow → Shared → Prop} {A M J H B T0 T1 T2 T3 T4 lR I9 : Addr} {o9 o1 o2 o3 o4 o5 o6 p0 p1 p2 p3 p4 : Obj}
    (C : LawCtx w mean mg mb h₀) (K0 : Below callerA h₀ [] h₀) {c0 c1 c2 c3 e0 e1 e2 e3 e4 pl : Int} {t0 t1 t2 t3 u0 u1 u2 u3 u4 w0 w1 w2 w3 w4 x0 x1 x2 x3 x4 tp : Tok} {ep er : Nat} {q0 q1 q2 q3 q4 f0 f1 f2 f3 f4 : Str} {P0 : Pc} {P1 : Pc} {P2 : Pc} {P3 : Pc} {P4 : Pc} {rowl : List (Int × Value)} {I : Addr} {it : Obj}
    (d3 : o3.data = .cell (some (.ref B))) (d6 : o6.data = .cell (some (.ref J))) (hq1 : q1.cps.toList = P1.l) (hk1 : P1.ok) (he1 : P1.e = e1)
    {h : Heap} {tk : Nat} {m : Str → Option Value} {d lo sv : Int} {tj td tu tl ts : Tok} (F : Fr h₀ L h m) (N : News h₀ L h ((I, it) :: ((I9, o9) :: (lR, listOf (rowl.map (·.2)).toArray er) :: (M, LCg.lst [.bytes (octs f0) x0, .bytes (octs f1) x1, .bytes (octs f2) x2, .bytes (octs f3) x3, .bytes (octs f4) x4]) :: (J, LCg.lst [.str q0 w0, .str q1 w1, .str q2 w2, .str q3 w3, .str q4 w4]) :: (H, LCg.lst [.ref T0, .ref T1, .ref T2, .ref T3, .ref T4]) :: (T4, p4) :: (T3, p3) :: (T2, p2) :: (T1, p1) :: (T0, p0) :: (B, listOf #[.int e0 u0, .int e1 u1, .int e2 u2, .int e3 u3, .int e4 u4] ep) :: (A, LCg.lst [.int c0 t0, .int c1 t1, .int c2 t2, .int c3 t3]) :: cellsN L o1 o2 o3 o4 o5 o6))) (P : Apart ((I, it) :: ((I9, o9) :: (lR, listOf (rowl.map (·.2)).toArray er) :: (M, LCg.lst [.bytes (octs f0) x0, .bytes (octs f1) x1, .bytes (octs f2) x2, .bytes (octs f3) x3, .bytes (octs f4) x4]) :: (J, LCg.lst [.str q0 w0, .str q1 w1, .str q2 w2, .str q3 w3, .str q4 w4]) :: (H, LCg.lst [.ref T0, .ref T1, .ref T2, .ref T3, .ref T4]) :: (T4, p4) :: (T3, p3) :: (T2, p2) :: (T1, p1) :: (T0, p0) :: (B, listOf #[.int e0 u0, .int e1 u1, .int e2 u2, .int e3 u3, .int e4 u4] ep) :: (A, LCg.lst [.int c0 t0, .int c1 t1, .int c2 t2, .int c3 t3]) :: cellsN L o1 o2 o3 o4 o5 o6)))
    (m1 : m (Str.ofString "j") = some (.int 6 tj)) (m2 : m (Str.ofString "depth") = some (.int d td)) (m3 : m (Str.ofString "due") = some (.int d tu)) (m4 : m (Str.ofString "low") = some (.int lo tl)) (m5 : m (Str.ofString "start") = some (.int sv ts))
    (ret : ∀ h' tk' m', Fr h₀ L h' m' → News h₀ L h' ((I, it) :: ((I9, o9) :: (lR, listOf (rowl.map (·.2)).toArray er) :: (M, LCg.lst [.bytes (octs f0) x0, .bytes (octs f1) x1, .bytes (octs f2) x2, .bytes (octs f3) x3, .bytes (octs f4) x4]) :: (J, LCg.lst [.str q0 w0, .str q1 w1, .str q2 w2, .str q3 w3, .str q4 w4]) :: (H, LCg.lst [.ref T0, .ref T1, .ref T2, .ref T3, .ref T4]) :: (T4, p4) :: (T3, p3) :: (T2, p2) :: (T1, p1) :: (T0, p0) :: (B, listOf #[.int e0 u0, .int e1 u1, .int e2 u2, .int e3 u3, .int e4 u4] ep) :: (A, LCg.lst [.int c0 t0, .int c1 t1, .int c2 t2, .int c3 t3]) :: cellsN L o1 o2 o3 o4 o5 o6)) → (∀ y, y ≠ Str.ofString "depth" → y ≠ Str.ofString "due" → y ≠ Str.ofString "low" → m' y = m y) →
      (∃ t, m' (Str.ofString "depth") = some (.int (d + e1) t)) → (∃ t, m' (Str.ofString "due") = some (.int (d + e1) t)) → (∃ t, m' (Str.ofString "low") = some (.int (lo + if d + e1 ≤ sv then 1 else 0) t)) → Post .next { s with heap := h', toks := tk' }) :
    wpAny (model Challenge.rw_wy0015_01.row.prog w) (callerA.deeper (lawEnv L a cd)) (execs jBody (lawEnv L a cd)) Post (fun _ _ => False) { s with heap := h, toks := tk } := by
  obtain ⟨KX, X, V, GL, T, B, TE, TW⟩ := C
  revert KX
  k_fill
  intro KX
  unfold cellsN at N P
  have hkey := fun t => key_one (t := t) hq1 hk1 he1
  conv in (execs _ _) => arg 1; whnf
  walk_at "mine:line"
  walk_at "mine:line"
  walk_at "mine:line"
  · exact absurd rfl (by assumption)
  walk_at "mine:line"
  · walk_at "mine:line"
    refine' ret _ _ _ (by assumption) (by assumption) ?g1 ⟨_, ?g2⟩ ⟨_, ?g3⟩ ⟨_, ?g4⟩
    case g1 => intro y h1 h2 h3; simp only [h1, h2, h3, if_false]
    case g2 => rfl
    case g3 => rfl
    case g4 => rw [show (if d + e1 ≤ sv then (1 : Int) else 0) = 1 from if_pos (by assumption)]; rfl
  · refine' ret _ _ _ (by assumption) (by assumption) ?h1 ⟨_, ?h2⟩ ⟨_, ?h3⟩ ⟨_, ?h4⟩
    case h1 => intro y h1 h2 h3; simp only [h1, h2, h3, if_false]
    case h2 => rfl
    case h3 => rfl
    case h4 => rw [show (if d + e1 ≤ sv then (1 : Int) else 0) = 0 from if_neg (by assumption), Int.add_zero]; exact m4

theorem turnJ_7 {w : World} {mean : ExcName → Option Value} {mg mb : Str → Option Value} {h₀ : Heap} {L a : Addr} {cd : Value} {s : Shared} {Post : Flow → Shared → Prop} {A M J H B T0 T1 T2 T3 T4 lR I9 : Addr} {o9 o1 o2 o3 o4 o5 o6 p0 p1 p2 p3 p4 : Obj}
    (C : LawCtx w mean mg mb h₀) (K0 : Below callerA h₀ [] h₀) {c0 c1 c2 c3 e0 e1 e2 e3 e4 pl : Int} {t0 t1 t2 t3 u0 u1 u2 u3 u4 w0 w1 w2 w3 w4 x0 x1 x2 x3 x4 tp : Tok} {ep er : Nat} {q0 q1 q2 q3 q4 f0 f1 f2 f3 f4 : Str} {P0 : Pc} {P1 : Pc} {P2 : Pc} {P3 : Pc} {P4 : Pc} {rowl : List (Int × Value)} {I : Addr} {it : Obj}
    (d3 : o3.data = .cell (some (.ref B))) (d6 : o6.data = .cell (some (.ref J))) (hq2 : q2.cps.toList = P2.l) (hk2 : P2.ok) (he2 : P2.e = e2)
    {h : Heap} {tk : Nat} {m : Str → Option Value} {d lo sv : Int} {tj td tu tl ts : Tok} (F : Fr h₀ L h m) (N : News h₀ L h ((I, it) :: ((I9, o9) :: (lR, listOf (rowl.map (·.2)).toArray er) :: (M, LCg.lst [.bytes (octs f0) x0, .bytes (octs f1) x1, .bytes (octs f2) x2, .bytes (octs f3) x3, .bytes (octs f4) x4]) :: (J, LCg.lst [.str q0 w0, .str q1 w1, .str q2 w2, .str q3 w3, .str q4 w4]) :: (H, LCg.lst [.ref T0, .ref T1, .ref T2, .ref T3, .ref T4]) :: (T4, p4) :: (T3, p3) :: (T2, p2) :: (T1, p1) :: (T0, p0) :: (B, listOf #[.int e0 u0, .int e1 u1, .int e2 u2, .int e3 u3, .int e4 u4] ep) :: (A, LCg.lst [.int c0 t0, .int c1 t1, .int c2 t2, .int c3 t3]) :: cellsN L o1 o2 o3 o4 o5 o6))) (P : Apart ((I, it) :: ((I9, o9) :: (lR, listOf (rowl.map (·.2)).toArray er) :: (M, LCg.lst [.bytes (octs f0) x0, .bytes (octs f1) x1, .bytes (octs f2) x2, .bytes (octs f3) x3, .bytes (octs f4) x4]) :: (J, LCg.lst [.str q0 w0, .str q1 w1, .str q2 w2, .str q3 w3, .str q4 w4]) :: (H, LCg.lst [.ref T0, .ref T1, .ref T2, .ref T3, .ref T4]) :: (T4, p4) :: (T3, p3) :: (T2, p2) :: (T1, p1) :: (T0, p0) :: (B, listOf #[.int e0 u0, .int e1 u1, .int e2 u2, .int e3 u3, .int e4 u4] ep) :: (A, LCg.lst [.int c0 t0, .int c1 t1, .int c2 t2, .int c3 t3]) :: cellsN L o1 o2 o3 o4 o5 o6)))
    (m1 : m (Str.ofString "j") = some (.int 7 tj)) (m2 : m (Str.ofString "depth") = some (.int d td)) (m3 : m (Str.ofString "due") = some (.int d tu)) (m4 : m (Str.ofString "low") = some (.int lo tl)) (m5 : m (Str.ofString "start") = some (.int sv ts))
    (ret : ∀ h' tk' m', Fr h₀ L h' m' → News h₀ L h' ((I, it) :: ((I9, o9) :: (lR, listOf (rowl.map (·.2)).toArray er) :: (M, LCg.lst [.bytes (octs f0) x0, .bytes (octs f1) x1, .bytes (octs f2) x2, .bytes (octs f3) x3, .bytes (octs f4) x4]) :: (J, LCg.lst [.str q0 w0, .str q1 w1, .str q2 w2, .str q3 w3, .str q4 w4]) :: (H, LCg.lst [.ref T0, .ref T1, .ref T2, .ref T3, .ref T4]) :: (T4, p4) :: (T3, p3) :: (T2, p2) :: (T1, p1) :: (T0, p0) :: (B, listOf #[.int e0 u0, .int e1 u1, .int e2 u2, .int e3 u3, .int e4 u4] ep) :: (A, LCg.lst [.int c0 t0, .int c1 t1, .int c2 t2, .int c3 t3]) :: cellsN L o1 o2 o3 o4 o5 o6)) → (∀ y, y ≠ Str.ofString "depth" → y ≠ Str.ofString "due" → y ≠ Str.ofString "low" → m' y = m y) →
      (∃ t, m' (Str.ofString "depth") = some (.int (d + e2) t)) → (∃ t, m' (Str.ofString "due") = some (.int (d + e2) t)) → (∃ t, m' (Str.ofString "low") = some (.int (lo + if d + e2 ≤ sv then 1 else 0) t)) → Post .next { s with heap := h', toks := tk' }) :
    wpAny (model Challenge.rw_wy0015_01.row.prog w) (callerA.deeper (lawEnv L a cd)) (execs jBody (lawEnv L a cd)) Post (fun _ _ => False) { s with heap := h, toks := tk } := by
  obtain ⟨KX, X, V, GL, T, B, TE, TW⟩ := C
  revert KX
  k_fill
  intro KX
  unfold cellsN at N P
  have hkey := fun t => key_one (t := t) hq2 hk2 he2
  conv in (execs _ _) => arg 1; whnf
  walk_at "mine:line"
  walk_at "mine:line"
  walk_at "mine:line"
  · exact absurd rfl (by assumption)
  walk_at "mine:line"
  · walk_at "mine:line"
    refine' ret _ _ _ (by assumption) (by assumption) ?g1 ⟨_, ?g2⟩ ⟨_, ?g3⟩ ⟨_, ?g4⟩
    case g1 => intro y h1 h2 h3; simp only [h1, h2, h3, if_false]
    case g2 => rfl
    case g3 => rfl
    case g4 => rw [show (if d + e2 ≤ sv then (1 : Int) else 0) = 1 from if_pos (by assumption)]; rfl
  · refine' ret _ _ _ (by assumption) (by assumption) ?h1 ⟨_, ?h2⟩ ⟨_, ?h3⟩ ⟨_, ?h4⟩
    case h1 => intro y h1 h2 h3; simp only [h1, h2, h3, if_false]
    case h2 => rfl
    case h3 => rfl
    case h4 => rw [show (if d + e2 ≤ sv then (1 : Int) else 0) = 0 from if_neg (by assumption), Int.add_zero]; exact m4

theorem turnJ_8 {w : World} {mean : ExcName → Option Value} {mg mb : Str → Option Value} {h₀ : Heap} {L a : Addr} {cd : Value} {s : Shared} {Post : Flow → Shared → Prop} {A M J H B T0 T1 T2 T3 T4 lR I9 : Addr} {o9 o1 o2 o3 o4 o5 o6 p0 p1 p2 p3 p4 : Obj}
    (C : LawCtx w mean mg mb h₀) (K0 : Below callerA h₀ [] h₀) {c0 c1 c2 c3 e0 e1 e2 e3 e4 pl : Int} {t0 t1 t2 t3 u0 u1 u2 u3 u4 w0 w1 w2 w3 w4 x0 x1 x2 x3 x4 tp : Tok} {ep er : Nat} {q0 q1 q2 q3 q4 f0 f1 f2 f3 f4 : Str} {P0 : Pc} {P1 : Pc} {P2 : Pc} {P3 : Pc} {P4 : Pc} {rowl : List (Int × Value)} {I : Addr} {it : Obj}
    (d3 : o3.data = .cell (some (.ref B))) (d6 : o6.data = .cell (some (.ref J))) (hq3 : q3.cps.toList = P3.l) (hk3 : P3.ok) (he3 : P3.e = e3)
    {h : Heap} {tk : Nat} {m : Str → Option Value} {d lo sv : Int} {tj td tu tl ts : Tok} (F : Fr h₀ L h m) (N : News h₀ L h ((I, it) :: ((I9, o9) :: (lR, listOf (rowl.map (·.2)).toArray er) :: (M, LCg.lst [.bytes (octs f0) x0, .bytes (octs f1) x1, .bytes (octs f2) x2, .bytes (octs f3) x3, .bytes (octs f4) x4]) :: (J, LCg.lst [.str q0 w0, .str q1 w1, .str q2 w2, .str q3 w3, .str q4 w4]) :: (H, LCg.lst [.ref T0, .ref T1, .ref T2, .ref T3, .ref T4]) :: (T4, p4) :: (T3, p3) :: (T2, p2) :: (T1, p1) :: (T0, p0) :: (B, listOf #[.int e0 u0, .int e1 u1, .int e2 u2, .int e3 u3, .int e4 u4] ep) :: (A, LCg.lst [.int c0 t0, .int c1 t1, .int c2 t2, .int c3 t3]) :: cellsN L o1 o2 o3 o4 o5 o6))) (P : Apart ((I, it) :: ((I9, o9) :: (lR, listOf (rowl.map (·.2)).toArray er) :: (M, LCg.lst [.bytes (octs f0) x0, .bytes (octs f1) x1, .bytes (octs f2) x2, .bytes (octs f3) x3, .bytes (octs f4) x4]) :: (J, LCg.lst [.str q0 w0, .str q1 w1, .str q2 w2, .str q3 w3, .str q4 w4]) :: (H, LCg.lst [.ref T0, .ref T1, .ref T2, .ref T3, .ref T4]) :: (T4, p4) :: (T3, p3) :: (T2, p2) :: (T1, p1) :: (T0, p0) :: (B, listOf #[.int e0 u0, .int e1 u1, .int e2 u2, .int e3 u3, .int e4 u4] ep) :: (A, LCg.lst [.int c0 t0, .int c1 t1, .int c2 t2, .int c3 t3]) :: cellsN L o1 o2 o3 o4 o5 o6)))
    (m1 : m (Str.ofString "j") = some (.int 8 tj)) (m2 : m (Str.ofString "depth") = some (.int d td)) (m3 : m (Str.ofString "due") = some (.int d tu)) (m4 : m (Str.ofString "low") = some (.int lo tl)) (m5 : m (Str.ofString "start") = some (.int sv ts))
    (ret : ∀ h' tk' m', Fr h₀ L h' m' → News h₀ L h' ((I, it) :: ((I9, o9) :: (lR, listOf (rowl.map (·.2)).toArray er) :: (M, LCg.lst [.bytes (octs f0) x0, .bytes (octs f1) x1, .bytes (octs f2) x2, .bytes (octs f3) x3, .bytes (octs f4) x4]) :: (J, LCg.lst [.str q0 w0, .str q1 w1, .str q2 w2, .str q3 w3, .str q4 w4]) :: (H, LCg.lst [.ref T0, .ref T1, .ref T2, .ref T3, .ref T4]) :: (T4, p4) :: (T3, p3) :: (T2, p2) :: (T1, p1) :: (T0, p0) :: (B, listOf #[.int e0 u0, .int e1 u1, .int e2 u2, .int e3 u3, .int e4 u4] ep) :: (A, LCg.lst [.int c0 t0, .int c1 t1, .int c2 t2, .int c3 t3]) :: cellsN L o1 o2 o3 o4 o5 o6)) → (∀ y, y ≠ Str.ofString "depth" → y ≠ Str.ofString "due" → y ≠ Str.ofString "low" → m' y = m y) →
      (∃ t, m' (Str.ofString "depth") = some (.int (d + e3) t)) → (∃ t, m' (Str.ofString "due") = some (.int (d + e3) t)) → (∃ t, m' (Str.ofString "low") = some (.int (lo + if d + e3 ≤ sv then 1 else 0) t)) → Post .next { s with heap := h', toks := tk' }) :
    wpAny (model Challenge.rw_wy0015_01.row.prog w) (callerA.deeper (lawEnv L a cd)) (execs jBody (lawEnv L a cd)) Post (fun _ _ => False) { s with heap := h, toks := tk } := by
  obtain ⟨KX, X, V, GL, T, B, TE, TW⟩ := C
  revert KX
  k_fill
  intro KX
  unfold cellsN at N P
  have hkey := fun t => key_one (t := t) hq3 hk3 he3
  conv in (execs _ _) => arg 1; whnf
  walk_at "mine:line"
  walk_at "mine:line"
  walk_at "mine:line"
  · exact absurd rfl (by assumption)
  walk_at "mine:line"
  · walk_at "mine:line"
    refine' ret _ _ _ (by assumption) (by assumption) ?g1 ⟨_, ?g2⟩ ⟨_, ?g3⟩ ⟨_, ?g4⟩
    case g1 => intro y h1 h2 h3; simp only [h1, h2, h3, if_false]
    case g2 => rfl
    case g3 => rfl
    case g4 => rw [show (if d + e3 ≤ sv then (1 : Int) else 0) = 1 from if_pos (by assumption)]; rfl
  · refine' ret _ _ _ (by assumption) (by assumption) ?h1 ⟨_, ?h2⟩ ⟨_, ?h3⟩ ⟨_, ?h4⟩
    case h1 => intro y h1 h2 h3; simp only [h1, h2, h3, if_false]
    case h2 => rfl
    case h3 => rfl
    case h4 => rw [show (if d + e3 ≤ sv then (1 : Int) else 0) = 0 from if_neg (by assumption), Int.add_zero]; exact m4

end Mine

-- part W13
namespace Mine
open PySem PySem.W PySem.Calls PyProof.Rows
set_option Elab.async false
set_option maxRecDepth 100000
set_option maxHeartbeats 8000000

theorem range_stepE {prog : Program} {w : World} {A : Around} {h₀ : Heap} {env : Env} {x : Str} {body : List Stmt} {Q : Flow → Shared → Prop} {s : Shared} {I : Addr} {a : Int} {n k i : Nat} {m : Str → Option Value} {news : List (Addr × Obj)} (G : (Str → Option Value) → Prop)
    (off : ∀ p ∈ news, p.1 ≠ I)
    (turn : ∀ t h tk it (Post : Flow → Shared → Prop), Fr h₀ env.locals h (fun y => if y = x then some (.int (a + (i : Int)) t) else m y) → News h₀ env.locals h ((I, it) :: news) →
      (∀ h' tk' m', Fr h₀ env.locals h' m' → News h₀ env.locals h' ((I, it) :: news) → G m' → Post .next { s with heap := h', toks := tk' }) →
      wpAny (model prog w) A (execs body env) Post (fun _ _ => False) { s with heap := h, toks := tk })
    (next : ∀ m', G m' → RangeRest prog w A (fun _ _ => False) h₀ env x body Q s I a n k (i + 1) m' news) :
    RangeRest prog w A (fun _ _ => False) h₀ env x body Q s I a n (k + 1) i m news := by
  refine RangeRest.succ fun t h tk F N => ?_
  refine turn t h tk _ _ F N ?_
  intro h' tk' m' F' N' hG
  exact ⟨h', tk', m', news, rfl, F', N', off, next m' hG⟩

def GJ (lR M A : Addr) (pl k sv dv lw : Int) (tp tk9 ts : Tok) (m : Str → Option Value) : Prop :=
  (m (Str.ofString "row") = some (.ref lR) ∧ m (Str.ofString "fronts") = some (.ref M) ∧ m (Str.ofString "cells") = some (.ref A) ∧ m (Str.ofString "place") = some (.int pl tp)) ∧ m (Str.ofString "k") = some (.int k tk9) ∧ m (Str.ofString "start") = some (.int sv ts) ∧ (∃ t, m (Str.ofString "depth") = some (.int dv t)) ∧ (∃ t, m (Str.ofString "due") = some (.int dv t)) ∧ (∃ t, m (Str.ofString "low") = some (.int lw t))
theorem GJ.keep {lR M A : Addr} {pl k sv dv lw dv' lw' v : Int} {tp tk9 ts t : Tok} {m m' : Str → Option Value} (ok : GJ lR M A pl k sv dv lw tp tk9 ts m)
    (hm : ∀ y, y ≠ Str.ofString "depth" → y ≠ Str.ofString "due" → y ≠ Str.ofString "low" → m' y = (fun y => if y = Str.ofString "j" then some (Value.int v t) else m y) y)
    (b7 : ∃ t, m' (Str.ofString "depth") = some (.int dv' t)) (b8 : ∃ t, m' (Str.ofString "due") = some (.int dv' t)) (b9 : ∃ t, m' (Str.ofString "low") = some (.int lw' t)) : GJ lR M A pl k sv dv' lw' tp tk9 ts m' := by
  obtain ⟨⟨m1, m2, m3, m4⟩, m5, m6, -⟩ := ok
  refine ⟨⟨?_, ?_, ?_, ?_⟩, ?_, ?_, b7, b8, b9⟩
  · exact (hm _ (by decide) (by decide) (by decide)).trans m1
  · exact (hm _ (by decide) (by decide) (by decide)).trans m2
  · exact (hm _ (by decide) (by decide) (by decide)).trans m3
  · exact (hm _ (by decide) (by decide) (by decide)).trans m4
  · exact (hm _ (by decide) (by decide) (by decide)).trans m5
  · exact (hm _ (by decide) (by decide) (by decide)).trans m6

theorem off_W13 : True := by w_top off; trivial


local macro_rules | `(tactic| walk_at "subscriptTail Name Slice ref ref") => `(tactic| (k_here; (with_reducible show wpAny _ _ (subscriptTail _ (PySem.Expr.Slice _ none (some _) _) (Value.ref _) (Value.ref _)) _ _ _); k_dflt (refine' slice_step ?F ?N ?l ?p ?q ?k ?o ?i ?_ ?s ?t ?z; (case F => k_asm); (case N => k_asm); (case l => kmk_list); (case p => kmk_part); (case q => kmk_part); (case k => kmk_part); (case o => decide); (case i => l_ints); (case s => with_unfolding_all rfl); (case t => kmk_pure); (case z => kmk_size)); intro D' ws' h' ms' F' N' l1 hI'; (try k_lt l1); (try k_sweep)))

local macro_rules | `(tactic| walk_at "eval ListComp") => `(tactic| (k_here; k_dflt (refine LCg.ListComp_U (F₀ := by k_asm) (by rfl) (by decide) (by rfl) (by decide) (by rfl) ?_); k_dflt lcg_toSrc))
local macro_rules | `(tactic| walk_at "exec Assign cons ListComp") => `(tactic| (k_here; k_dflt (refine LCg.Assign_ListComp_U (F₀ := by k_asm) (by rfl) (by with_unfolding_all rfl) (by rfl) (by decide) (by rfl) (by decide) (by rfl) (by rfl) (by rfl) ?_); k_dflt lcg_toSrc))
local macro_rules | `(tactic| walk_at "CompSrc") => `(tactic| (k_here; k_dflt (first
  | (refine LCg.CompSrc.ledger (by rfl) (by k_asm) (by k_asm) (by k_mem) (by first | size_fits | exact Nat.le_of_ble_eq_true rfl) ?_; intro g'; lcg_lit)
  | (refine LCg.CompSrc.base (by rfl) (by k_asm) (by k_asm) (by assumption) (by first | size_fits | exact Nat.le_of_ble_eq_true rfl) ?_; intro g'; lcg_lit)
  | (refine LCg.CompSrc.range (by rfl) (by k_asm) (by k_asm) (by assumption) (by first | decide | rfl) (by first | rfl | decide) (by first | size_fits | exact Nat.le_of_ble_eq_true rfl) ?_; intro g'; lcg_lit))))
local macro_rules | `(tactic| walk_at "eval Name") => `(tactic| (k_here; (with_reducible show wpAny _ _ (eval (PySem.Expr.Name _ _) (compEnvC _ _ _ _)) _ _ _); k_dflt (first
  | refine LCgL.ld_own (by k_asm) (by k_mem) (by with_reducible assumption) (by with_reducible assumption) ?_
  | refine lcf_free (by k_asm) (by rfl) (by k_mem) (by with_reducible assumption) ?_
  | refine LCgL.ld_global (by k_asm) (by k_asm) (by k_asm) (by k_is) ?_
  | refine LCgL.ld_built (by k_asm) (by k_asm) (by k_asm) (by k_is) (by boot_by_name) (by decide) ?_)))
local macro_rules | `(tactic| walk_at "mine:go") => `(tactic| (repeat' ((fail_if_success (with_reducible show LCg.CompRest _ _ _ _ _ _ _ _ _ _ _ _ _ _ _ _ _ _ _)); (fail_if_success (with_reducible show RangeRest _ _ _ _ _ _ _ _ _ _ _ _ _ _ _ _ _)); (fail_if_success (with_reducible show wpAny _ _ (execs (_ :: _) _) _ _ _)); first | (k_unfold; (try dsimp only)) | walk1 | (dsimp only; walk1) | (leave1; walk_say "STEP leave1"; (try dsimp only)))))
local macro_rules | `(tactic| walk_at "mine:line") => `(tactic| (walk1; (try ((with_reducible show wpAny _ _ (execs (_ :: _) _) _ _ _); walk1)); walk_at "mine:go"))
local macro_rules | `(tactic| walk_at "mine:sub") => `(tactic| (intro p hp; (repeat (first | exact hp | apply List.mem_cons_of_mem))))

local macro_rules | `(tactic| walk_at "mine:look") => `(tactic| first | assumption | (refine Fr_eq (by assumption) ?_; intro z; first | exact rfl | (simp only [look_cons]; exact rfl) | (simp only [look_cons]; done) | (simp only [look_cons]; split <;> rfl) | (dsimp only; exact rfl)))
local macro_rules | `(tactic| walk_at "mine:led") => `(tactic| (refine news_sub (by assumption) ?_; (try unfold cellsN); lcg_sub))
local macro_rules | `(tactic| walk_at "mine:part") => `(tactic| (refine Apart.sub (by assumption) ?_; (try unfold cellsN); repeat (first | exact List.Sublist.slnil | refine List.Sublist.cons_cons _ ?_ | refine List.Sublist.cons _ ?_)))
local macro_rules | `(tactic| walk_at "mine:at") => `(tactic| first | exact AtIn.head | (refine' AtIn.tail ?b; (case b => walk_at "mine:at")))
local macro_rules | `(tactic| walk_at "storeName") => `(tactic| (k_here; k_dflt (refine' storeA ?F ?N ?P ?c ?U ?d ?_ ?a ?b; (case a => rfl); (case b => rfl); (case F => k_asm); (case N => k_asm); (case P => with_reducible assumption); (case c => rfl); (case U => walk_at "mine:at"); (case d => k_asm); k_whole); intro h' o' F' N' P' d'; (try dsimp only at N' P'); (try k_sweep)))
local macro_rules | `(tactic| walk_at "newList") => `(tactic| (k_here; k_dflt (refine' newList_K ?k1 ?k2 ?_; (case k1 => k_asm); (case k2 => k_asm); k_whole); intro l' h' F' N' l1; have P' := Apart.below N' l1 (by with_reducible assumption); clear l1; (try k_sweep)))
local macro_rules | `(tactic| walk_at "call builtin:list.append") => `(tactic| (k_here; k_dflt (refine' appendA ?F ?N ?P ?U ?_ ?z; (case F => k_asm); (case N => k_asm); (case P => with_reducible assumption); (case U => walk_at "mine:at"); (case z => exact Nat.le_of_ble_eq_true rfl); k_whole); intro h' F' N' P'; (try simp only [List.push_toArray, List.cons_append, List.nil_append] at N' P'); (try k_sweep)))
local macro_rules | `(tactic| walk_at "FinE") => `(tactic| ((unfold LCg.FinE); intro D' h' tk' F' N' o1'; have P' := Apart.cons' N' o1' (by with_reducible assumption); clear o1'; (try simp only [List.nil_append, List.cons_append] at N' P'); (try dsimp only); (try k_sweep)))
local macro_rules | `(tactic| walk_at "FinA") => `(tactic| ((unfold LCg.FinA); intro D' h' tk' F' N' o1'; have P' := Apart.cons' N' o1' (by with_reducible assumption); clear o1'; (try simp only [List.nil_append, List.cons_append] at N' P'); (try dsimp only); (try k_sweep)))


local macro_rules | `(tactic| walk_at "eval Name") => `(tactic| (k_here; (with_reducible show wpAny _ _ (eval (PySem.Expr.Name _ _) (envOfC _ _ _ _ _)) _ _ _); k_dflt (first
  | (refine' nameX_L ?nF ?nv ?_ ?na ?nb; (case na => rfl); (case nb => rfl); (case nF => k_asm); (case nv => assumption); k_whole)
  | (refine' nameX_C ?cN ?cc ?cm ?cd ?_ ?ca ?cb; (case ca => rfl); (case cb => rfl); (case cN => k_asm); (case cc => rfl); (case cm => k_mem); (case cd => k_asm); k_whole)
  | (refine' nameX_K ?kF ?kX ?kT ?ke ?_ ?ka ?kb; (case ka => rfl); (case kb => rfl); (case kF => k_asm); (case kX => k_asm); (case kT => k_asm); (case ke => k_is); k_whole)
  | (refine' nameX_B ?bF ?bX ?bT ?be ?bv ?bn ?_ ?ba ?bb; (case ba => rfl); (case bb => rfl); (case bF => k_asm); (case bX => k_asm); (case bT => k_asm); (case be => k_is); (case bv => boot_fast); (case bn => decide); k_whole))))
local macro_rules | `(tactic| walk_at "loadName") => `(tactic| (k_here; k_dflt (refine' loadX_Lm ?lF ?lv ?_ ?la ?lb; (case la => rfl); (case lb => rfl); (case lF => k_asm); (case lv => assumption); k_whole)))
local macro_rules | `(tactic| walk_at "subscriptTail Name Name ref int") => `(tactic| (k_here; k_dflt (refine' item_listL (l := List.map _ _) ?sl ?s0 ?s1 ?sx ?_ ?ss ?sg; (case sl => exact News.isList (by k_asm) (by k_mem)); (case s0 => assumption); (case s1 => assumption); (case sx => assumption); (case ss => with_unfolding_all rfl); (case sg => kmk_pure); k_whole)))
local macro_rules | `(tactic| walk_at "call ref") => `(tactic| (k_here; (with_reducible show wpAny _ _ (call (Value.ref 44) [_]) _ _ _); k_dflt (refine' depth_at ?i1 ?i2 ?i3 ?i4 ?i5 (depthK _ _ _ ?i6) ?_; (case i1 => assumption); (case i2 => k_asm); (case i3 => assumption); (case i4 => k_asm); (case i5 => assumption); (case i6 => first | assumption | exact (show ∀ t : Tok, Key (Value.bytes _ t) _ by assumption) _)); intro t' h' tk' F' N'; (try k_sweep)))
local macro_rules | `(tactic| walk_at "call ref") => `(tactic| (k_here; (with_reducible show wpAny _ _ (call (Value.ref 44) [_, _]) _ _ _); k_dflt (refine' depth_at ?i1 ?i2 ?i3 ?i4 ?i5 (depthK2 _ _ _ _ _ ?i6) ?_; (case i1 => assumption); (case i2 => k_asm); (case i3 => assumption); (case i4 => k_asm); (case i5 => assumption); (case i6 => first | assumption | exact (show ∀ t : Tok, Key (Value.bytes _ t) _ by assumption) _)); intro t' h' tk' F' N'; (try k_sweep)))
theorem turnG_0 {w : World} {mean : ExcName → Option Value} {mg mb : Str → Option Value} {h₀ : Heap} {L a : Addr} {cd : Value} {s : Shared} {Post : Flow → Shared → Prop} {A M J H B T0 T1 T2 T3 T4 lR I9 : Addr} {o9 o1 o2 o3 o4 o5 o6 p0 p1 p2 p3 p4 : Obj}
    (C : LawCtx w mean mg mb h₀) (K0 : Below callerA h₀ [] h₀) {c0 c1 c2 c3 e0 e1 e2 e3 e4 pl : Int} {t0 t1 t2 t3 u0 u1 u2 u3 u4 w0 w1 w2 w3 w4 x0 x1 x2 x3 x4 tp : Tok} {ep er : Nat} {q0 q1 q2 q3 q4 f0 f1 f2 f3 f4 : Str} {P0 : Pc} {P1 : Pc} {P2 : Pc} {P3 : Pc} {P4 : Pc} {rowl : List (Int × Value)} {I : Addr} (d3 : o3.data = .cell (some (.ref B))) (d6 : o6.data = .cell (some (.ref J))) (hq0 : q0.cps.toList = P0.l) (hk0 : P0.ok) (he0 : P0.e = e0)
    (off : ∀ p ∈ ((I9, o9) :: (lR, listOf (rowl.map (·.2)).toArray er) :: (M, LCg.lst [.bytes (octs f0) x0, .bytes (octs f1) x1, .bytes (octs f2) x2, .bytes (octs f3) x3, .bytes (octs f4) x4]) :: (J, LCg.lst [.str q0 w0, .str q1 w1, .str q2 w2, .str q3 w3, .str q4 w4]) :: (H, LCg.lst [.ref T0, .ref T1, .ref T2, .ref T3, .ref T4]) :: (T4, p4) :: (T3, p3) :: (T2, p2) :: (T1, p1) :: (T0, p0) :: (B, listOf #[.int e0 u0, .int e1 u1, .int e2 u2, .int e3 u3, .int e4 u4] ep) :: (A, LCg.lst [.int c0 t0, .int c1 t1, .int c2 t2, .int c3 t3]) :: cellsN L o1 o2 o3 o4 o5 o6), p.1 ≠ I) (P : Apart ((I9, o9) :: (lR, listOf (rowl.map (·.2)).toArray er) :: (M, LCg.lst [.bytes (octs f0) x0, .bytes (octs f1) x1, .bytes (octs f2) x2, .bytes (octs f3) x3, .bytes (octs f4) x4]) :: (J, LCg.lst [.str q0 w0, .str q1 w1, .str q2 w2, .str q3 w3, .str q4 w4]) :: (H, LCg.lst [.ref T0, .ref T1, .ref T2, .ref T3, .ref T4]) :: (T4, p4) :: (T3, p3) :: (T2, p2) :: (T1, p1) :: (T0, p0) :: (B, listOf #[.int e0 u0, .int e1 u1, .int e2 u2, .int e3 u3, .int e4 u4] ep) :: (A, LCg.lst [.int c0 t0, .int c1 t1, .int c2 t2, .int c3 t3]) :: cellsN L o1 o2 o3 o4 o5 o6)) {k sv dv lw : Int} {tk9 ts : Tok} {m : Str → Option Value} (ok : GJ lR M A pl k sv dv lw tp tk9 ts m)
    (t : Tok) (h : Heap) (tk : Nat) (it : Obj) (F : Fr h₀ L h (fun y => if y = Str.ofString "j" then some (.int 0 t) else m y)) (N : News h₀ L h ((I, it) :: ((I9, o9) :: (lR, listOf (rowl.map (·.2)).toArray er) :: (M, LCg.lst [.bytes (octs f0) x0, .bytes (octs f1) x1, .bytes (octs f2) x2, .bytes (octs f3) x3, .bytes (octs f4) x4]) :: (J, LCg.lst [.str q0 w0, .str q1 w1, .str q2 w2, .str q3 w3, .str q4 w4]) :: (H, LCg.lst [.ref T0, .ref T1, .ref T2, .ref T3, .ref T4]) :: (T4, p4) :: (T3, p3) :: (T2, p2) :: (T1, p1) :: (T0, p0) :: (B, listOf #[.int e0 u0, .int e1 u1, .int e2 u2, .int e3 u3, .int e4 u4] ep) :: (A, LCg.lst [.int c0 t0, .int c1 t1, .int c2 t2, .int c3 t3]) :: cellsN L o1 o2 o3 o4 o5 o6)))
    (ret : ∀ h' tk' m', Fr h₀ L h' m' → News h₀ L h' ((I, it) :: ((I9, o9) :: (lR, listOf (rowl.map (·.2)).toArray er) :: (M, LCg.lst [.bytes (octs f0) x0, .bytes (octs f1) x1, .bytes (octs f2) x2, .bytes (octs f3) x3, .bytes (octs f4) x4]) :: (J, LCg.lst [.str q0 w0, .str q1 w1, .str q2 w2, .str q3 w3, .str q4 w4]) :: (H, LCg.lst [.ref T0, .ref T1, .ref T2, .ref T3, .ref T4]) :: (T4, p4) :: (T3, p3) :: (T2, p2) :: (T1, p1) :: (T0, p0) :: (B, listOf #[.int e0 u0, .int e1 u1, .int e2 u2, .int e3 u3, .int e4 u4] ep) :: (A, LCg.lst [.int c0 t0, .int c1 t1, .int c2 t2, .int c3 t3]) :: cellsN L o1 o2 o3 o4 o5 o6)) → GJ lR M A pl k sv (dv + e0) (lw + if dv + e0 ≤ sv then 1 else 0) tp tk9 ts m' → Post .next { s with heap := h', toks := tk' }) :
    wpAny (model Challenge.rw_wy0015_01.row.prog w) (callerA.deeper (lawEnv L a cd)) (execs jBody (lawEnv L a cd)) Post (fun _ _ => False) { s with heap := h, toks := tk } := by
  have ok' := ok
  obtain ⟨-, -, m6, ⟨a7, m7⟩, ⟨a8, m8⟩, ⟨a9, m9⟩⟩ := ok'
  refine turnJ_0 (P0 := P0) (P1 := P1) (P2 := P2) (P3 := P3) (P4 := P4) (pl := pl) (tp := tp) C K0 d3 d6 hq0 hk0 he0 F N ?_ rfl m7 m8 m9 m6 ?_
  · exact List.pairwise_cons.mpr ⟨fun q hq => off q hq, P⟩
  · intro h' tk' m' F' N' hm b7 b8 b9
    exact ret h' tk' m' F' N' (ok.keep hm b7 b8 b9)

theorem turnG_1 {w : World} {mean : ExcName → Option Value} {mg mb : Str → Option Value} {h₀ : Heap} {L a : Addr} {cd : Value} {s : Shared} {Post : Flow → Shared → Prop} {A M J H B T0 T1 T2 T3 T4 lR I9 : Addr} {o9 o1 o2 o3 o4 o5 o6 p0 p1 p2 p3 p4 : Obj}
    (C : LawCtx w mean mg mb h₀) (K0 : Below callerA h₀ [] h₀) {c0 c1 c2 c3 e0 e1 e2 e3 e4 pl : Int} {t0 t1 t2 t3 u0 u1 u2 u3 u4 w0 w1 w2 w3 w4 x0 x1 x2 x3 x4 tp : Tok} {ep er : Nat} {q0 q1 q2 q3 q4 f0 f1 f2 f3 f4 : Str} {P0 : Pc} {P1 : Pc} {P2 : Pc} {P3 : Pc} {P4 : Pc} {rowl : List (Int × Value)} {I : Addr} (d3 : o3.data = .cell (some (.ref B))) (d6 : o6.data = .cell (some (.ref J))) (hq1 : q1.cps.toList = P1.l) (hk1 : P1.ok) (he1 : P1.e = e1)
    (off : ∀ p ∈ ((I9, o9) :: (lR, listOf (rowl.map (·.2)).toArray er) :: (M, LCg.lst [.bytes (octs f0) x0, .bytes (octs f1) x1, .bytes (octs f2) x2, .bytes (octs f3) x3, .bytes (octs f4) x4]) :: (J, LCg.lst [.str q0 w0, .str q1 w1, .str q2 w2, .str q3 w3, .str q4 w4]) :: (H, LCg.lst [.ref T0, .ref T1, .ref T2, .ref T3, .ref T4]) :: (T4, p4) :: (T3, p3) :: (T2, p2) :: (T1, p1) :: (T0, p0) :: (B, listOf #[.int e0 u0, .int e1 u1, .int e2 u2, .int e3 u3, .int e4 u4] ep) :: (A, LCg.lst [.int c0 t0, .int c1 t1, .int c2 t2, .int c3 t3]) :: cellsN L o1 o2 o3 o4 o5 o6), p.1 ≠ I) (P : Apart ((I9, o9) :: (lR, listOf (rowl.map (·.2)).toArray er) :: (M, LCg.lst [.bytes (octs f0) x0, .bytes (octs f1) x1, .bytes (octs f2) x2, .bytes (octs f3) x3, .bytes (octs f4) x4]) :: (J, LCg.lst [.str q0 w0, .str q1 w1, .str q2 w2, .str q3 w3, .str q4 w4]) :: (H, LCg.lst [.ref T0, .ref T1, .ref T2, .ref T3, .ref T4]) :: (T4, p4) :: (T3, p3) :: (T2, p2) :: (T1, p1) :: (T0, p0) :: (B, listOf #[.int e0 u0, .int e1 u1, .int e2 u2, .int e3 u3, .int e4 u4] ep) :: (A, LCg.lst [.int c0 t0, .int c1 t1, .int c2 t2, .int c3 t3]) :: cellsN L o1 o2 o3 o4 o5 o6)) {k sv dv lw : Int} {tk9 ts : Tok} {m : Str → Option Value} (ok : GJ lR M A pl k sv dv lw tp tk9 ts m)
    (t : Tok) (h : Heap) (tk : Nat) (it : Obj) (F : Fr h₀ L h (fun y => if y = Str.ofString "j" then some (.int 1 t) else m y)) (N : News h₀ L h ((I, it) :: ((I9, o9) :: (lR, listOf (rowl.map (·.2)).toArray er) :: (M, LCg.lst [.bytes (octs f0) x0, .bytes (octs f1) x1, .bytes (octs f2) x2, .bytes (octs f3) x3, .bytes (octs f4) x4]) :: (J, LCg.lst [.str q0 w0, .str q1 w1, .str q2 w2, .str q3 w3, .str q4 w4]) :: (H, LCg.lst [.ref T0, .ref T1, .ref T2, .ref T3, .ref T4]) :: (T4, p4) :: (T3, p3) :: (T2, p2) :: (T1, p1) :: (T0, p0) :: (B, listOf #[.int e0 u0, .int e1 u1, .int e2 u2, .int e3 u3, .int e4 u4] ep) :: (A, LCg.lst [.int c0 t0, .int c1 t1, .int c2 t2, .int c3 t3]) :: cellsN L o1 o2 o3 o4 o5 o6)))
    (ret : ∀ h' tk' m', Fr h₀ L h' m' → News h₀ L h' ((I, it) :: ((I9, o9) :: (lR, listOf (rowl.map (·.2)).toArray er) :: (M, LCg.lst [.bytes (octs f0) x0, .bytes (octs f1) x1, .bytes (octs f2) x2, .bytes (octs f3) x3, .bytes (octs f4) x4]) :: (J, LCg.lst [.str q0 w0, .str q1 w1, .str q2 w2, .str q3 w3, .str q4 w4]) :: (H, LCg.lst [.ref T0, .ref T1, .ref T2, .ref T3, .ref T4]) :: (T4, p4) :: (T3, p3) :: (T2, p2) :: (T1, p1) :: (T0, p0) :: (B, listOf #[.int e0 u0, .int e1 u1, .int e2 u2, .int e3 u3, .int e4 u4] ep) :: (A, LCg.lst [.int c0 t0, .int c1 t1, .int c2 t2, .int c3 t3]) :: cellsN L o1 o2 o3 o4 o5 o6)) → GJ lR M A pl k sv (dv + e1) (lw + if dv + e1 ≤ sv then 1 else 0) tp tk9 ts m' → Post .next { s with heap := h', toks := tk' }) :
    wpAny (model Challenge.rw_wy0015_01.row.prog w) (callerA.deeper (lawEnv L a cd)) (execs jBody (lawEnv L a cd)) Post (fun _ _ => False) { s with heap := h, toks := tk } := by
  have ok' := ok
  obtain ⟨-, -, m6, ⟨a7, m7⟩, ⟨a8, m8⟩, ⟨a9, m9⟩⟩ := ok'
  refine turnJ_1 (P0 := P0) (P1 := P1) (P2 := P2) (P3 := P3) (P4 := P4) (pl := pl) (tp := tp) C K0 d3 d6 hq1 hk1 he1 F N ?_ rfl m7 m8 m9 m6 ?_
  · exact List.pairwise_cons.mpr ⟨fun q hq => off q hq, P⟩
  · intro h' tk' m' F' N' hm b7 b8 b9
    exact ret h' tk' m' F' N' (ok.keep hm b7 b8 b9)

theorem turnG_2 {w : World} {mean : ExcName → Option Value} {mg mb : Str → Option Value} {h₀ : Heap} {L a : Addr} {cd : Value} {s : Shared} {Post : Flow → Shared → Prop} {A M J H B T0 T1 T2 T3 T4 lR I9 : Addr} {o9 o1 o2 o3 o4 o5 o6 p0 p1 p2 p3 p4 : Obj}
    (C : LawCtx w mean mg mb h₀) (K0 : Below callerA h₀ [] h₀) {c0 c1 c2 c3 e0 e1 e2 e3 e4 pl : Int} {t0 t1 t2 t3 u0 u1 u2 u3 u4 w0 w1 w2 w3 w4 x0 x1 x2 x3 x4 tp : Tok} {ep er : Nat} {q0 q1 q2 q3 q4 f0 f1 f2 f3 f4 : Str} {P0 : Pc} {P1 : Pc} {P2 : Pc} {P3 : Pc} {P4 : Pc} {rowl : List (Int × Value)} {I : Addr} (d3 : o3.data = .cell (some (.ref B))) (d6 : o6.data = .cell (some (.ref J))) (hq2 : q2.cps.toList = P2.l) (hk2 : P2.ok) (he2 : P2.e = e2)
    (off : ∀ p ∈ ((I9, o9) :: (lR, listOf (rowl.map (·.2)).toArray er) :: (M, LCg.lst [.bytes (octs f0) x0, .bytes (octs f1) x1, .bytes (octs f2) x2, .bytes (octs f3) x3, .bytes (octs f4) x4]) :: (J, LCg.lst [.str q0 w0, .str q1 w1, .str q2 w2, .str q3 w3, .str q4 w4]) :: (H, LCg.lst [.ref T0, .ref T1, .ref T2, .ref T3, .ref T4]) :: (T4, p4) :: (T3, p3) :: (T2, p2) :: (T1, p1) :: (T0, p0) :: (B, listOf #[.int e0 u0, .int e1 u1, .int e2 u2, .int e3 u3, .int e4 u4] ep) :: (A, LCg.lst [.int c0 t0, .int c1 t1, .int c2 t2, .int c3 t3]) :: cellsN L o1 o2 o3 o4 o5 o6), p.1 ≠ I) (P : Apart ((I9, o9) :: (lR, listOf (rowl.map (·.2)).toArray er) :: (M, LCg.lst [.bytes (octs f0) x0, .bytes (octs f1) x1, .bytes (octs f2) x2, .bytes (octs f3) x3, .bytes (octs f4) x4]) :: (J, LCg.lst [.str q0 w0, .str q1 w1, .str q2 w2, .str q3 w3, .str q4 w4]) :: (H, LCg.lst [.ref T0, .ref T1, .ref T2, .ref T3, .ref T4]) :: (T4, p4) :: (T3, p3) :: (T2, p2) :: (T1, p1) :: (T0, p0) :: (B, listOf #[.int e0 u0, .int e1 u1, .int e2 u2, .int e3 u3, .int e4 u4] ep) :: (A, LCg.lst [.int c0 t0, .int c1 t1, .int c2 t2, .int c3 t3]) :: cellsN L o1 o2 o3 o4 o5 o6)) {k sv dv lw : Int} {tk9 ts : Tok} {m : Str → Option Value} (ok : GJ lR M A pl k sv dv lw tp tk9 ts m)
    (t : Tok) (h : Heap) (tk : Nat) (it : Obj) (F : Fr h₀ L h (fun y => if y = Str.ofString "j" then some (.int 2 t) else m y)) (N : News h₀ L h ((I, it) :: ((I9, o9) :: (lR, listOf (rowl.map (·.2)).toArray er) :: (M, LCg.lst [.bytes (octs f0) x0, .bytes (octs f1) x1, .bytes (octs f2) x2, .bytes (octs f3) x3, .bytes (octs f4) x4]) :: (J, LCg.lst [.str q0 w0, .str q1 w1, .str q2 w2, .str q3 w3, .str q4 w4]) :: (H, LCg.lst [.ref T0, .ref T1, .ref T2, .ref T3, .ref T4]) :: (T4, p4) :: (T3, p3) :: (T2, p2) :: (T1, p1) :: (T0, p0) :: (B, listOf #[.int e0 u0, .int e1 u1, .int e2 u2, .int e3 u3, .int e4 u4] ep) :: (A, LCg.lst [.int c0 t0, .int c1 t1, .int c2 t2, .int c3 t3]) :: cellsN L o1 o2 o3 o4 o5 o6)))
    (ret : ∀ h' tk' m', Fr h₀ L h' m' → News h₀ L h' ((I, it) :: ((I9, o9) :: (lR, listOf (rowl.map (·.2)).toArray er) :: (M, LCg.lst [.bytes (octs f0) x0, .bytes (octs f1) x1, .bytes (octs f2) x2, .bytes (octs f3) x3, .bytes (octs f4) x4]) :: (J, LCg.lst [.str q0 w0, .str q1 w1, .str q2 w2, .str q3 w3, .str q4 w4]) :: (H, LCg.lst [.ref T0, .ref T1, .ref T2, .ref T3, .ref T4]) :: (T4, p4) :: (T3, p3) :: (T2, p2) :: (T1, p1) :: (T0, p0) :: (B, listOf #[.int e0 u0, .int e1 u1, .int e2 u2, .int e3 u3, .int e4 u4] ep) :: (A, LCg.lst [.int c0 t0, .int c1 t1, .int c2 t2, .int c3 t3]) :: cellsN L o1 o2 o3 o4 o5 o6)) → GJ lR M A pl k sv (dv + e2) (lw + if dv + e2 ≤ sv then 1 else 0) tp tk9 ts m' → Post .next { s with heap := h', toks := tk' }) :
    wpAny (model Challenge.rw_wy0015_01.row.prog w) (callerA.deeper (lawEnv L a cd)) (execs jBody (lawEnv L a cd)) Post (fun _ _ => False) { s with heap := h, toks := tk } := by
  have ok' := ok
  obtain ⟨-, -, m6, ⟨a7, m7⟩, ⟨a8, m8⟩, ⟨a9, m9⟩⟩ := ok'
  refine turnJ_2 (P0 := P0) (P1 := P1) (P2 := P2) (P3 := P3) (P4 := P4) (pl := pl) (tp := tp) C K0 d3 d6 hq2 hk2 he2 F N ?_ rfl m7 m8 m9 m6 ?_
  · exact List.pairwise_cons.mpr ⟨fun q hq => off q hq, P⟩
  · intro h' tk' m' F' N' hm b7 b8 b9
    exact ret h' tk' m' F' N' (ok.keep hm b7 b8 b9)

theorem turnG_3 {w : World} {mean : ExcName → Option Value} {mg mb : Str → Option Value} {h₀ : Heap} {L a : Addr} {cd : Value} {s : Shared} {Post : Flow → Shared → Prop} {A M J H B T0 T1 T2 T3 T4 lR I9 : Addr} {o9 o1 o2 o3 o4 o5 o6 p0 p1 p2 p3 p4 : Obj}
    (C : LawCtx w mean mg mb h₀) (K0 : Below callerA h₀ [] h₀) {c0 c1 c2 c3 e0 e1 e2 e3 e4 pl : Int} {t0 t1 t2 t3 u0 u1 u2 u3 u4 w0 w1 w2 w3 w4 x0 x1 x2 x3 x4 tp : Tok} {ep er : Nat} {q0 q1 q2 q3 q4 f0 f1 f2 f3 f4 : Str} {P0 : Pc} {P1 : Pc} {P2 : Pc} {P3 : Pc} {P4 : Pc} {rowl : List (Int × Value)} {I : Addr} (d3 : o3.data = .cell (some (.ref B))) (d6 : o6.data = .cell (some (.ref J))) (hq3 : q3.cps.toList = P3.l) (hk3 : P3.ok) (he3 : P3.e = e3)
    (off : ∀ p ∈ ((I9, o9) :: (lR, listOf (rowl.map (·.2)).toArray er) :: (M, LCg.lst [.bytes (octs f0) x0, .bytes (octs f1) x1, .bytes (octs f2) x2, .bytes (octs f3) x3, .bytes (octs f4) x4]) :: (J, LCg.lst [.str q0 w0, .str q1 w1, .str q2 w2, .str q3 w3, .str q4 w4]) :: (H, LCg.lst [.ref T0, .ref T1, .ref T2, .ref T3, .ref T4]) :: (T4, p4) :: (T3, p3) :: (T2, p2) :: (T1, p1) :: (T0, p0) :: (B, listOf #[.int e0 u0, .int e1 u1, .int e2 u2, .int e3 u3, .int e4 u4] ep) :: (A, LCg.lst [.int c0 t0, .int c1 t1, .int c2 t2, .int c3 t3]) :: cellsN L o1 o2 o3 o4 o5 o6), p.1 ≠ I) (P : Apart ((I9, o9) :: (lR, listOf (rowl.map (·.2)).toArray er) :: (M, LCg.lst [.bytes (octs f0) x0, .bytes (octs f1) x1, .bytes (octs f2) x2, .bytes (octs f3) x3, .bytes (octs f4) x4]) :: (J, LCg.lst [.str q0 w0, .str q1 w1, .str q2 w2, .str q3 w3, .str q4 w4]) :: (H, LCg.lst [.ref T0, .ref T1, .ref T2, .ref T3, .ref T4]) :: (T4, p4) :: (T3, p3) :: (T2, p2) :: (T1, p1) :: (T0, p0) :: (B, listOf #[.int e0 u0, .int e1 u1, .int e2 u2, .int e3 u3, .int e4 u4] ep) :: (A, LCg.lst [.int c0 t0, .int c1 t1, .int c2 t2, .int c3 t3]) :: cellsN L o1 o2 o3 o4 o5 o6)) {k sv dv lw : Int} {tk9 ts : Tok} {m : Str → Option Value} (ok : GJ lR M A pl k sv dv lw tp tk9 ts m)
    (t : Tok) (h : Heap) (tk : Nat) (it : Obj) (F : Fr h₀ L h (fun y => if y = Str.ofString "j" then some (.int 3 t) else m y)) (N : News h₀ L h ((I, it) :: ((I9, o9) :: (lR, listOf (rowl.map (·.2)).toArray er) :: (M, LCg.lst [.bytes (octs f0) x0, .bytes (octs f1) x1, .bytes (octs f2) x2, .bytes (octs f3) x3, .bytes (octs f4) x4]) :: (J, LCg.lst [.str q0 w0, .str q1 w1, .str q2 w2, .str q3 w3, .str q4 w4]) :: (H, LCg.lst [.ref T0, .ref T1, .ref T2, .ref T3, .ref T4]) :: (T4, p4) :: (T3, p3) :: (T2, p2) :: (T1, p1) :: (T0, p0) :: (B, listOf #[.int e0 u0, .int e1 u1, .int e2 u2, .int e3 u3, .int e4 u4] ep) :: (A, LCg.lst [.int c0 t0, .int c1 t1, .int c2 t2, .int c3 t3]) :: cellsN L o1 o2 o3 o4 o5 o6)))
    (ret : ∀ h' tk' m', Fr h₀ L h' m' → News h₀ L h' ((I, it) :: ((I9, o9) :: (lR, listOf (rowl.map (·.2)).toArray er) :: (M, LCg.lst [.bytes (octs f0) x0, .bytes (octs f1) x1, .bytes (octs f2) x2, .bytes (octs f3) x3, .bytes (octs f4) x4]) :: (J, LCg.lst [.str q0 w0, .str q1 w1, .str q2 w2, .str q3 w3, .str q4 w4]) :: (H, LCg.lst [.ref T0, .ref T1, .ref T2, .ref T3, .ref T4]) :: (T4, p4) :: (T3, p3) :: (T2, p2) :: (T1, p1) :: (T0, p0) :: (B, listOf #[.int e0 u0, .int e1 u1, .int e2 u2, .int e3 u3, .int e4 u4] ep) :: (A, LCg.lst [.int c0 t0, .int c1 t1, .int c2 t2, .int c3 t3]) :: cellsN L o1 o2 o3 o4 o5 o6)) → GJ lR M A pl k sv (dv + e3) (lw + if dv + e3 ≤ sv then 1 else 0) tp tk9 ts m' → Post .next { s with heap := h', toks := tk' }) :
    wpAny (model Challenge.rw_wy0015_01.row.prog w) (callerA.deeper (lawEnv L a cd)) (execs jBody (lawEnv L a cd)) Post (fun _ _ => False) { s with heap := h, toks := tk } := by
  have ok' := ok
  obtain ⟨-, -, m6, ⟨a7, m7⟩, ⟨a8, m8⟩, ⟨a9, m9⟩⟩ := ok'
  refine turnJ_3 (P0 := P0) (P1 := P1) (P2 := P2) (P3 := P3) (P4 := P4) (pl := pl) (tp := tp) C K0 d3 d6 hq3 hk3 he3 F N ?_ rfl m7 m8 m9 m6 ?_
  · exact List.pairwise_cons.mpr ⟨fun q hq => off q hq, P⟩
  · intro h' tk' m' F' N' hm b7 b8 b9
    exact ret h' tk' m' F' N' (ok.keep hm b7 b8 b9)

theorem turnG_4 {w : World} {mean : ExcName → Option Value} {mg mb : Str → Option Value} {h₀ : Heap} {L a : Addr} {cd : Value} {s : Shared} {Post : Flow → Shared → Prop} {A M J H B T0 T1 T2 T3 T4 lR I9 : Addr} {o9 o1 o2 o3 o4 o5 o6 p0 p1 p2 p3 p4 : Obj}
    (C : LawCtx w mean mg mb h₀) (K0 : Below callerA h₀ [] h₀) {c0 c1 c2 c3 e0 e1 e2 e3 e4 pl : Int} {t0 t1 t2 t3 u0 u1 u2 u3 u4 w0 w1 w2 w3 w4 x0 x1 x2 x3 x4 tp : Tok} {ep er : Nat} {q0 q1 q2 q3 q4 f0 f1 f2 f3 f4 : Str} {P0 : Pc} {P1 : Pc} {P2 : Pc} {P3 : Pc} {P4 : Pc} {rowl : List (Int × Value)} {I : Addr} (d3 : o3.data = .cell (some (.ref B))) (d6 : o6.data = .cell (some (.ref J))) (hq4 : q4.cps.toList = P4.l) (hk4 : P4.ok) (he4 : P4.e = e4)
    (off : ∀ p ∈ ((I9, o9) :: (lR, listOf (rowl.map (·.2)).toArray er) :: (M, LCg.lst [.bytes (octs f0) x0, .bytes (octs f1) x1, .bytes (octs f2) x2, .bytes (octs f3) x3, .bytes (octs f4) x4]) :: (J, LCg.lst [.str q0 w0, .str q1 w1, .str q2 w2, .str q3 w3, .str q4 w4]) :: (H, LCg.lst [.ref T0, .ref T1, .ref T2, .ref T3, .ref T4]) :: (T4, p4) :: (T3, p3) :: (T2, p2) :: (T1, p1) :: (T0, p0) :: (B, listOf #[.int e0 u0, .int e1 u1, .int e2 u2, .int e3 u3, .int e4 u4] ep) :: (A, LCg.lst [.int c0 t0, .int c1 t1, .int c2 t2, .int c3 t3]) :: cellsN L o1 o2 o3 o4 o5 o6), p.1 ≠ I) (P : Apart ((I9, o9) :: (lR, listOf (rowl.map (·.2)).toArray er) :: (M, LCg.lst [.bytes (octs f0) x0, .bytes (octs f1) x1, .bytes (octs f2) x2, .bytes (octs f3) x3, .bytes (octs f4) x4]) :: (J, LCg.lst [.str q0 w0, .str q1 w1, .str q2 w2, .str q3 w3, .str q4 w4]) :: (H, LCg.lst [.ref T0, .ref T1, .ref T2, .ref T3, .ref T4]) :: (T4, p4) :: (T3, p3) :: (T2, p2) :: (T1, p1) :: (T0, p0) :: (B, listOf #[.int e0 u0, .int e1 u1, .int e2 u2, .int e3 u3, .int e4 u4] ep) :: (A, LCg.lst [.int c0 t0, .int c1 t1, .int c2 t2, .int c3 t3]) :: cellsN L o1 o2 o3 o4 o5 o6)) {k sv dv lw : Int} {tk9 ts : Tok} {m : Str → Option Value} (ok : GJ lR M A pl k sv dv lw tp tk9 ts m)
    (t : Tok) (h : Heap) (tk : Nat) (it : Obj) (F : Fr h₀ L h (fun y => if y = Str.ofString "j" then some (.int 4 t) else m y)) (N : News h₀ L h ((I, it) :: ((I9, o9) :: (lR, listOf (rowl.map (·.2)).toArray er) :: (M, LCg.lst [.bytes (octs f0) x0, .bytes (octs f1) x1, .bytes (octs f2) x2, .bytes (octs f3) x3, .bytes (octs f4) x4]) :: (J, LCg.lst [.str q0 w0, .str q1 w1, .str q2 w2, .str q3 w3, .str q4 w4]) :: (H, LCg.lst [.ref T0, .ref T1, .ref T2, .ref T3, .ref T4]) :: (T4, p4) :: (T3, p3) :: (T2, p2) :: (T1, p1) :: (T0, p0) :: (B, listOf #[.int e0 u0, .int e1 u1, .int e2 u2, .int e3 u3, .int e4 u4] ep) :: (A, LCg.lst [.int c0 t0, .int c1 t1, .int c2 t2, .int c3 t3]) :: cellsN L o1 o2 o3 o4 o5 o6)))
    (ret : ∀ h' tk' m', Fr h₀ L h' m' → News h₀ L h' ((I, it) :: ((I9, o9) :: (lR, listOf (rowl.map (·.2)).toArray er) :: (M, LCg.lst [.bytes (octs f0) x0, .bytes (octs f1) x1, .bytes (octs f2) x2, .bytes (octs f3) x3, .bytes (octs f4) x4]) :: (J, LCg.lst [.str q0 w0, .str q1 w1, .str q2 w2, .str q3 w3, .str q4 w4]) :: (H, LCg.lst [.ref T0, .ref T1, .ref T2, .ref T3, .ref T4]) :: (T4, p4) :: (T3, p3) :: (T2, p2) :: (T1, p1) :: (T0, p0) :: (B, listOf #[.int e0 u0, .int e1 u1, .int e2 u2, .int e3 u3, .int e4 u4] ep) :: (A, LCg.lst [.int c0 t0, .int c1 t1, .int c2 t2, .int c3 t3]) :: cellsN L o1 o2 o3 o4 o5 o6)) → GJ lR M A pl k sv (dv + e4) (lw + if dv + e4 ≤ sv then 1 else 0) tp tk9 ts m' → Post .next { s with heap := h', toks := tk' }) :
    wpAny (model Challenge.rw_wy0015_01.row.prog w) (callerA.deeper (lawEnv L a cd)) (execs jBody (lawEnv L a cd)) Post (fun _ _ => False) { s with heap := h, toks := tk } := by
  have ok' := ok
  obtain ⟨-, -, m6, ⟨a7, m7⟩, ⟨a8, m8⟩, ⟨a9, m9⟩⟩ := ok'
  refine turnJ_4 (P0 := P0) (P1 := P1) (P2 := P2) (P3 := P3) (P4 := P4) (pl := pl) (tp := tp) C K0 d3 d6 hq4 hk4 he4 F N ?_ rfl m7 m8 m9 m6 ?_
  · exact List.pairwise_cons.mpr ⟨fun q hq => off q hq, P⟩
  · intro h' tk' m' F' N' hm b7 b8 b9
    exact ret h' tk' m' F' N' (ok.keep hm b7 b8 b9)

theorem turnG_5 {w : World} {mean : ExcName → Option Value} {mg mb : Str → Option Value} {h₀ : Heap} {L a : Addr} {cd : Value} {s : Shared} {Post : Flow → Shared → Prop} {A M J H B T0 T1 T2 T3 T4 lR I9 : Addr} {o9 o1 o2 o3 o4 o5 o6 p0 p1 p2 p3 p4 : Obj}
    (C : LawCtx w mean mg mb h₀) (K0 : Below callerA h₀ [] h₀) {c0 c1 c2 c3 e0 e1 e2 e3 e4 pl : Int} {t0 t1 t2 t3 u0 u1 u2 u3 u4 w0 w1 w2 w3 w4 x0 x1 x2 x3 x4 tp : Tok} {ep er : Nat} {q0 q1 q2 q3 q4 f0 f1 f2 f3 f4 : Str} {P0 : Pc} {P1 : Pc} {P2 : Pc} {P3 : Pc} {P4 : Pc} {rowl : List (Int × Value)} {I : Addr} (d3 : o3.data = .cell (some (.ref B))) (d6 : o6.data = .cell (some (.ref J))) (hq0 : q0.cps.toList = P0.l) (hk0 : P0.ok) (he0 : P0.e = e0)
    (off : ∀ p ∈ ((I9, o9) :: (lR, listOf (rowl.map (·.2)).toArray er) :: (M, LCg.lst [.bytes (octs f0) x0, .bytes (octs f1) x1, .bytes (octs f2) x2, .bytes (octs f3) x3, .bytes (octs f4) x4]) :: (J, LCg.lst [.str q0 w0, .str q1 w1, .str q2 w2, .str q3 w3, .str q4 w4]) :: (H, LCg.lst [.ref T0, .ref T1, .ref T2, .ref T3, .ref T4]) :: (T4, p4) :: (T3, p3) :: (T2, p2) :: (T1, p1) :: (T0, p0) :: (B, listOf #[.int e0 u0, .int e1 u1, .int e2 u2, .int e3 u3, .int e4 u4] ep) :: (A, LCg.lst [.int c0 t0, .int c1 t1, .int c2 t2, .int c3 t3]) :: cellsN L o1 o2 o3 o4 o5 o6), p.1 ≠ I) (P : Apart ((I9, o9) :: (lR, listOf (rowl.map (·.2)).toArray er) :: (M, LCg.lst [.bytes (octs f0) x0, .bytes (octs f1) x1, .bytes (octs f2) x2, .bytes (octs f3) x3, .bytes (octs f4) x4]) :: (J, LCg.lst [.str q0 w0, .str q1 w1, .str q2 w2, .str q3 w3, .str q4 w4]) :: (H, LCg.lst [.ref T0, .ref T1, .ref T2, .ref T3, .ref T4]) :: (T4, p4) :: (T3, p3) :: (T2, p2) :: (T1, p1) :: (T0, p0) :: (B, listOf #[.int e0 u0, .int e1 u1, .int e2 u2, .int e3 u3, .int e4 u4] ep) :: (A, LCg.lst [.int c0 t0, .int c1 t1, .int c2 t2, .int c3 t3]) :: cellsN L o1 o2 o3 o4 o5 o6)) {k sv dv lw : Int} {tk9 ts : Tok} {m : Str → Option Value} (ok : GJ lR M A pl k sv dv lw tp tk9 ts m)
    (t : Tok) (h : Heap) (tk : Nat) (it : Obj) (F : Fr h₀ L h (fun y => if y = Str.ofString "j" then some (.int 5 t) else m y)) (N : News h₀ L h ((I, it) :: ((I9, o9) :: (lR, listOf (rowl.map (·.2)).toArray er) :: (M, LCg.lst [.bytes (octs f0) x0, .bytes (octs f1) x1, .bytes (octs f2) x2, .bytes (octs f3) x3, .bytes (octs f4) x4]) :: (J, LCg.lst [.str q0 w0, .str q1 w1, .str q2 w2, .str q3 w3, .str q4 w4]) :: (H, LCg.lst [.ref T0, .ref T1, .ref T2, .ref T3, .ref T4]) :: (T4, p4) :: (T3, p3) :: (T2, p2) :: (T1, p1) :: (T0, p0) :: (B, listOf #[.int e0 u0, .int e1 u1, .int e2 u2, .int e3 u3, .int e4 u4] ep) :: (A, LCg.lst [.int c0 t0, .int c1 t1, .int c2 t2, .int c3 t3]) :: cellsN L o1 o2 o3 o4 o5 o6)))
    (ret : ∀ h' tk' m', Fr h₀ L h' m' → News h₀ L h' ((I, it) :: ((I9, o9) :: (lR, listOf (rowl.map (·.2)).toArray er) :: (M, LCg.lst [.bytes (octs f0) x0, .bytes (octs f1) x1, .bytes (octs f2) x2, .bytes (octs f3) x3, .bytes (octs f4) x4]) :: (J, LCg.lst [.str q0 w0, .str q1 w1, .str q2 w2, .str q3 w3, .str q4 w4]) :: (H, LCg.lst [.ref T0, .ref T1, .ref T2, .ref T3, .ref T4]) :: (T4, p4) :: (T3, p3) :: (T2, p2) :: (T1, p1) :: (T0, p0) :: (B, listOf #[.int e0 u0, .int e1 u1, .int e2 u2, .int e3 u3, .int e4 u4] ep) :: (A, LCg.lst [.int c0 t0, .int c1 t1, .int c2 t2, .int c3 t3]) :: cellsN L o1 o2 o3 o4 o5 o6)) → GJ lR M A pl k sv (dv + e0) (lw + if dv + e0 ≤ sv then 1 else 0) tp tk9 ts m' → Post .next { s with heap := h', toks := tk' }) :
    wpAny (model Challenge.rw_wy0015_01.row.prog w) (callerA.deeper (lawEnv L a cd)) (execs jBody (lawEnv L a cd)) Post (fun _ _ => False) { s with heap := h, toks := tk } := by
  have ok' := ok
  obtain ⟨-, -, m6, ⟨a7, m7⟩, ⟨a8, m8⟩, ⟨a9, m9⟩⟩ := ok'
  refine turnJ_5 (P0 := P0) (P1 := P1) (P2 := P2) (P3 := P3) (P4 := P4) (pl := pl) (tp := tp) C K0 d3 d6 hq0 hk0 he0 F N ?_ rfl m7 m8 m9 m6 ?_
  · exact List.pairwise_cons.mpr ⟨fun q hq => off q hq, P⟩
  · intro h' tk' m' F' N' hm b7 b8 b9
    exact ret h' tk' m' F' N' (ok.keep hm b7 b8 b9)

theorem turnG_6 {w : World} {mean : ExcName → Option Value} {mg mb : Str → Option Value} {h₀ : Heap} {L a : Addr} {cd : Value} {s : Shared} {Post : Flow → Shared → Prop} {A M J H B T0 T1 T2 T3 T4 lR I9 : Addr} {o9 o1 o2 o3 o4 o5 o6 p0 p1 p2 p3 p4 : Obj}
    (C : LawCtx w mean mg mb h₀) (K0 : Below callerA h₀ [] h₀) {c0 c1 c2 c3 e0 e1 e2 e3 e4 pl : Int} {t0 t1 t2 t3 u0 u1 u2 u3 u4 w0 w1 w2 w3 w4 x0 x1 x2 x3 x4 tp : Tok} {ep er : Nat} {q0 q1 q2 q3 q4 f0 f1 f2 f3 f4 : Str} {P0 : Pc} {P1 : Pc} {P2 : Pc} {P3 : Pc} {P4 : Pc} {rowl : List (Int × Value)} {I : Addr} (d3 : o3.data = .cell (some (.ref B))) (d6 : o6.data = .cell (some (.ref J))) (hq1 : q1.cps.toList = P1.l) (hk1 : P1.ok) (he1 : P1.e = e1)
    (off : ∀ p ∈ ((I9, o9) :: (lR, listOf (rowl.map (·.2)).toArray er) :: (M, LCg.lst [.bytes (octs f0) x0, .bytes (octs f1) x1, .bytes (octs f2) x2, .bytes (octs f3) x3, .bytes (octs f4) x4]) :: (J, LCg.lst [.str q0 w0, .str q1 w1, .str q2 w2, .str q3 w3, .str q4 w4]) :: (H, LCg.lst [.ref T0, .ref T1, .ref T2, .ref T3, .ref T4]) :: (T4, p4) :: (T3, p3) :: (T2, p2) :: (T1, p1) :: (T0, p0) :: (B, listOf #[.int e0 u0, .int e1 u1, .int e2 u2, .int e3 u3, .int e4 u4] ep) :: (A, LCg.lst [.int c0 t0, .int c1 t1, .int c2 t2, .int c3 t3]) :: cellsN L o1 o2 o3 o4 o5 o6), p.1 ≠ I) (P : Apart ((I9, o9) :: (lR, listOf (rowl.map (·.2)).toArray er) :: (M, LCg.lst [.bytes (octs f0) x0, .bytes (octs f1) x1, .bytes (octs f2) x2, .bytes (octs f3) x3, .bytes (octs f4) x4]) :: (J, LCg.lst [.str q0 w0, .str q1 w1, .str q2 w2, .str q3 w3, .str q4 w4]) :: (H, LCg.lst [.ref T0, .ref T1, .ref T2, .ref T3, .ref T4]) :: (T4, p4) :: (T3, p3) :: (T2, p2) :: (T1, p1) :: (T0, p0) :: (B, listOf #[.int e0 u0, .int e1 u1, .int e2 u2, .int e3 u3, .int e4 u4] ep) :: (A, LCg.lst [.int c0 t0, .int c1 t1, .int c2 t2, .int c3 t3]) :: cellsN L o1 o2 o3 o4 o5 o6)) {k sv dv lw : Int} {tk9 ts : Tok} {m : Str → Option Value} (ok : GJ lR M A pl k sv dv lw tp tk9 ts m)
    (t : Tok) (h : Heap) (tk : Nat) (it : Obj) (F : Fr h₀ L h (fun y => if y = Str.ofString "j" then some (.int 6 t) else m y)) (N : News h₀ L h ((I, it) :: ((I9, o9) :: (lR, listOf (rowl.map (·.2)).toArray er) :: (M, LCg.lst [.bytes (octs f0) x0, .bytes (octs f1) x1, .bytes (octs f2) x2, .bytes (octs f3) x3, .bytes (octs f4) x4]) :: (J, LCg.lst [.str q0 w0, .str q1 w1, .str q2 w2, .str q3 w3, .str q4 w4]) :: (H, LCg.lst [.ref T0, .ref T1, .ref T2, .ref T3, .ref T4]) :: (T4, p4) :: (T3, p3) :: (T2, p2) :: (T1, p1) :: (T0, p0) :: (B, listOf #[.int e0 u0, .int e1 u1, .int e2 u2, .int e3 u3, .int e4 u4] ep) :: (A, LCg.lst [.int c0 t0, .int c1 t1, .int c2 t2, .int c3 t3]) :: cellsN L o1 o2 o3 o4 o5 o6)))
    (ret : ∀ h' tk' m', Fr h₀ L h' m' → News h₀ L h' ((I, it) :: ((I9, o9) :: (lR, listOf (rowl.map (·.2)).toArray er) :: (M, LCg.lst [.bytes (octs f0) x0, .bytes (octs f1) x1, .bytes (octs f2) x2, .bytes (octs f3) x3, .bytes (octs f4) x4]) :: (J, LCg.lst [.str q0 w0, .str q1 w1, .str q2 w2, .str q3 w3, .str q4 w4]) :: (H, LCg.lst [.ref T0, .ref T1, .ref T2, .ref T3, .ref T4]) :: (T4, p4) :: (T3, p3) :: (T2, p2) :: (T1, p1) :: (T0, p0) :: (B, listOf #[.int e0 u0, .int e1 u1, .int e2 u2, .int e3 u3, .int e4 u4] ep) :: (A, LCg.lst [.int c0 t0, .int c1 t1, .int c2 t2, .int c3 t3]) :: cellsN L o1 o2 o3 o4 o5 o6)) → GJ lR M A pl k sv (dv + e1) (lw + if dv + e1 ≤ sv then 1 else 0) tp tk9 ts m' → Post .next { s with heap := h', toks := tk' }) :
    wpAny (model Challenge.rw_wy0015_01.row.prog w) (callerA.deeper (lawEnv L a cd)) (execs jBody (lawEnv L a cd)) Post (fun _ _ => False) { s with heap := h, toks := tk } := by
  have ok' := ok
  obtain ⟨-, -, m6, ⟨a7, m7⟩, ⟨a8, m8⟩, ⟨a9, m9⟩⟩ := ok'
  refine turnJ_6 (P0 := P0) (P1 := P1) (P2 := P2) (P3 := P3) (P4 := P4) (pl := pl) (tp := tp) C K0 d3 d6 hq1 hk1 he1 F N ?_ rfl m7 m8 m9 m6 ?_
  · exact List.pairwise_cons.mpr ⟨fun q hq => off q hq, P⟩
  · intro h' tk' m' F' N' hm b7 b8 b9
    exact ret h' tk' m' F' N' (ok.keep hm b7 b8 b9)

theorem turnG_7 {w : World} {mean : ExcName → Option Value} {mg mb : Str → Option Value} {h₀ : Heap} {L a : Addr} {cd : Value} {s : Shared} {Post : Flow → Shared → Prop} {A M J H B T0 T1 T2 T3 T4 lR I9 : Addr} {o9 o1 o2 o3 o4 o5 o6 p0 p1 p2 p3 p4 : Obj}
    (C : LawCtx w mean mg mb h₀) (K0 : Below callerA h₀ [] h₀) {c0 c1 c2 c3 e0 e1 e2 e3 e4 pl : Int} {t0 t1 t2 t3 u0 u1 u2 u3 u4 w0 w1 w2 w3 w4 x0 x1 x2 x3 x4 tp : Tok} {ep er : Nat} {q0 q1 q2 q3 q4 f0 f1 f2 f3 f4 : Str} {P0 : Pc} {P1 : Pc} {P2 : Pc} {P3 : Pc} {P4 : Pc} {rowl : List (Int × Value)} {I : Addr} (d3 : o3.data = .cell (some (.ref B))) (d6 : o6.data = .cell (some (.ref J))) (hq2 : q2.cps.toList = P2.l) (hk2 : P2.ok) (he2 : P2.e = e2)
    (off : ∀ p ∈ ((I9, o9) :: (lR, listOf (rowl.map (·.2)).toArray er) :: (M, LCg.lst [.bytes (octs f0) x0, .bytes (octs f1) x1, .bytes (octs f2) x2, .bytes (octs f3) x3, .bytes (octs f4) x4]) :: (J, LCg.lst [.str q0 w0, .str q1 w1, .str q2 w2, .str q3 w3, .str q4 w4]) :: (H, LCg.lst [.ref T0, .ref T1, .ref T2, .ref T3, .ref T4]) :: (T4, p4) :: (T3, p3) :: (T2, p2) :: (T1, p1) :: (T0, p0) :: (B, listOf #[.int e0 u0, .int e1 u1, .int e2 u2, .int e3 u3, .int e4 u4] ep) :: (A, LCg.lst [.int c0 t0, .int c1 t1, .int c2 t2, .int c3 t3]) :: cellsN L o1 o2 o3 o4 o5 o6), p.1 ≠ I) (P : Apart ((I9, o9) :: (lR, listOf (rowl.map (·.2)).toArray er) :: (M, LCg.lst [.bytes (octs f0) x0, .bytes (octs f1) x1, .bytes (octs f2) x2, .bytes (octs f3) x3, .bytes (octs f4) x4]) :: (J, LCg.lst [.str q0 w0, .str q1 w1, .str q2 w2, .str q3 w3, .str q4 w4]) :: (H, LCg.lst [.ref T0, .ref T1, .ref T2, .ref T3, .ref T4]) :: (T4, p4) :: (T3, p3) :: (T2, p2) :: (T1, p1) :: (T0, p0) :: (B, listOf #[.int e0 u0, .int e1 u1, .int e2 u2, .int e3 u3, .int e4 u4] ep) :: (A, LCg.lst [.int c0 t0, .int c1 t1, .int c2 t2, .int c3 t3]) :: cellsN L o1 o2 o3 o4 o5 o6)) {k sv dv lw : Int} {tk9 ts : Tok} {m : Str → Option Value} (ok : GJ lR M A pl k sv dv lw tp tk9 ts m)
    (t : Tok) (h : Heap) (tk : Nat) (it : Obj) (F : Fr h₀ L h (fun y => if y = Str.ofString "j" then some (.int 7 t) else m y)) (N : News h₀ L h ((I, it) :: ((I9, o9) :: (lR, listOf (rowl.map (·.2)).toArray er) :: (M, LCg.lst [.bytes (octs f0) x0, .bytes (octs f1) x1, .bytes (octs f2) x2, .bytes (octs f3) x3, .bytes (octs f4) x4]) :: (J, LCg.lst [.str q0 w0, .str q1 w1, .str q2 w2, .str q3 w3, .str q4 w4]) :: (H, LCg.lst [.ref T0, .ref T1, .ref T2, .ref T3, .ref T4]) :: (T4, p4) :: (T3, p3) :: (T2, p2) :: (T1, p1) :: (T0, p0) :: (B, listOf #[.int e0 u0, .int e1 u1, .int e2 u2, .int e3 u3, .int e4 u4] ep) :: (A, LCg.lst [.int c0 t0, .int c1 t1, .int c2 t2, .int c3 t3]) :: cellsN L o1 o2 o3 o4 o5 o6)))
    (ret : ∀ h' tk' m', Fr h₀ L h' m' → News h₀ L h' ((I, it) :: ((I9, o9) :: (lR, listOf (rowl.map (·.2)).toArray er) :: (M, LCg.lst [.bytes (octs f0) x0, .bytes (octs f1) x1, .bytes (octs f2) x2, .bytes (octs f3) x3, .bytes (octs f4) x4]) :: (J, LCg.lst [.str q0 w0, .str q1 w1, .str q2 w2, .str q3 w3, .str q4 w4]) :: (H, LCg.lst [.ref T0, .ref T1, .ref T2, .ref T3, .ref T4]) :: (T4, p4) :: (T3, p3) :: (T2, p2) :: (T1, p1) :: (T0, p0) :: (B, listOf #[.int e0 u0, .int e1 u1, .int e2 u2, .int e3 u3, .int e4 u4] ep) :: (A, LCg.lst [.int c0 t0, .int c1 t1, .int c2 t2, .int c3 t3]) :: cellsN L o1 o2 o3 o4 o5 o6)) → GJ lR M A pl k sv (dv + e2) (lw + if dv + e2 ≤ sv then 1 else 0) tp tk9 ts m' → Post .next { s with heap := h', toks := tk' }) :
    wpAny (model Challenge.rw_wy0015_01.row.prog w) (callerA.deeper (lawEnv L a cd)) (execs jBody (lawEnv L a cd)) Post (fun _ _ => False) { s with heap := h, toks := tk } := by
  have ok' := ok
  obtain ⟨-, -, m6, ⟨a7, m7⟩, ⟨a8, m8⟩, ⟨a9, m9⟩⟩ := ok'
  refine turnJ_7 (P0 := P0) (P1 := P1) (P2 := P2) (P3 := P3) (P4 := P4) (pl := pl) (tp := tp) C K0 d3 d6 hq2 hk2 he2 F N ?_ rfl m7 m8 m9 m6 ?_
  · exact List.pairwise_cons.mpr ⟨fun q hq => off q hq, P⟩
  · intro h' tk' m' F' N' hm b7 b8 b9
    exact ret h' tk' m' F' N' (ok.keep hm b7 b8 b9)

theorem turnG_8 {w : World} {mean : ExcName → Option Value} {mg mb : Str → Option Value} {h₀ : Heap} {L a : Addr} {cd : Value} {s : Shared} {Post : Flow → Shared → Prop} {A M J H B T0 T1 T2 T3 T4 lR I9 : Addr} {o9 o1 o2 o3 o4 o5 o6 p0 p1 p2 p3 p4 : Obj}
    (C : LawCtx w mean mg mb h₀) (K0 : Below callerA h₀ [] h₀) {c0 c1 c2 c3 e0 e1 e2 e3 e4 pl : Int} {t0 t1 t2 t3 u0 u1 u2 u3 u4 w0 w1 w2 w3 w4 x0 x1 x2 x3 x4 tp : Tok} {ep er : Nat} {q0 q1 q2 q3 q4 f0 f1 f2 f3 f4 : Str} {P0 : Pc} {P1 : Pc} {P2 : Pc} {P3 : Pc} {P4 : Pc} {rowl : List (Int × Value)} {I : Addr} (d3 : o3.data = .cell (some (.ref B))) (d6 : o6.data = .cell (some (.ref J))) (hq3 : q3.cps.toList = P3.l) (hk3 : P3.ok) (he3 : P3.e = e3)
    (off : ∀ p ∈ ((I9, o9) :: (lR, listOf (rowl.map (·.2)).toArray er) :: (M, LCg.lst [.bytes (octs f0) x0, .bytes (octs f1) x1, .bytes (octs f2) x2, .bytes (octs f3) x3, .bytes (octs f4) x4]) :: (J, LCg.lst [.str q0 w0, .str q1 w1, .str q2 w2, .str q3 w3, .str q4 w4]) :: (H, LCg.lst [.ref T0, .ref T1, .ref T2, .ref T3, .ref T4]) :: (T4, p4) :: (T3, p3) :: (T2, p2) :: (T1, p1) :: (T0, p0) :: (B, listOf #[.int e0 u0, .int e1 u1, .int e2 u2, .int e3 u3, .int e4 u4] ep) :: (A, LCg.lst [.int c0 t0, .int c1 t1, .int c2 t2, .int c3 t3]) :: cellsN L o1 o2 o3 o4 o5 o6), p.1 ≠ I) (P : Apart ((I9, o9) :: (lR, listOf (rowl.map (·.2)).toArray er) :: (M, LCg.lst [.bytes (octs f0) x0, .bytes (octs f1) x1, .bytes (octs f2) x2, .bytes (octs f3) x3, .bytes (octs f4) x4]) :: (J, LCg.lst [.str q0 w0, .str q1 w1, .str q2 w2, .str q3 w3, .str q4 w4]) :: (H, LCg.lst [.ref T0, .ref T1, .ref T2, .ref T3, .ref T4]) :: (T4, p4) :: (T3, p3) :: (T2, p2) :: (T1, p1) :: (T0, p0) :: (B, listOf #[.int e0 u0, .int e1 u1, .int e2 u2, .int e3 u3, .int e4 u4] ep) :: (A, LCg.lst [.int c0 t0, .int c1 t1, .int c2 t2, .int c3 t3]) :: cellsN L o1 o2 o3 o4 o5 o6)) {k sv dv lw : Int} {tk9 ts : Tok} {m : Str → Option Value} (ok : GJ lR M A pl k sv dv lw tp tk9 ts m)
    (t : Tok) (h : Heap) (tk : Nat) (it : Obj) (F : Fr h₀ L h (fun y => if y = Str.ofString "j" then some (.int 8 t) else m y)) (N : News h₀ L h ((I, it) :: ((I9, o9) :: (lR, listOf (rowl.map (·.2)).toArray er) :: (M, LCg.lst [.bytes (octs f0) x0, .bytes (octs f1) x1, .bytes (octs f2) x2, .bytes (octs f3) x3, .bytes (octs f4) x4]) :: (J, LCg.lst [.str q0 w0, .str q1 w1, .str q2 w2, .str q3 w3, .str q4 w4]) :: (H, LCg.lst [.ref T0, .ref T1, .ref T2, .ref T3, .ref T4]) :: (T4, p4) :: (T3, p3) :: (T2, p2) :: (T1, p1) :: (T0, p0) :: (B, listOf #[.int e0 u0, .int e1 u1, .int e2 u2, .int e3 u3, .int e4 u4] ep) :: (A, LCg.lst [.int c0 t0, .int c1 t1, .int c2 t2, .int c3 t3]) :: cellsN L o1 o2 o3 o4 o5 o6)))
    (ret : ∀ h' tk' m', Fr h₀ L h' m' → News h₀ L h' ((I, it) :: ((I9, o9) :: (lR, listOf (rowl.map (·.2)).toArray er) :: (M, LCg.lst [.bytes (octs f0) x0, .bytes (octs f1) x1, .bytes (octs f2) x2, .bytes (octs f3) x3, .bytes (octs f4) x4]) :: (J, LCg.lst [.str q0 w0, .str q1 w1, .str q2 w2, .str q3 w3, .str q4 w4]) :: (H, LCg.lst [.ref T0, .ref T1, .ref T2, .ref T3, .ref T4]) :: (T4, p4) :: (T3, p3) :: (T2, p2) :: (T1, p1) :: (T0, p0) :: (B, listOf #[.int e0 u0, .int e1 u1, .int e2 u2, .int e3 u3, .int e4 u4] ep) :: (A, LCg.lst [.int c0 t0, .int c1 t1, .int c2 t2, .int c3 t3]) :: cellsN L o1 o2 o3 o4 o5 o6)) → GJ lR M A pl k sv (dv + e3) (lw + if dv + e3 ≤ sv then 1 else 0) tp tk9 ts m' → Post .next { s with heap := h', toks := tk' }) :
    wpAny (model Challenge.rw_wy0015_01.row.prog w) (callerA.deeper (lawEnv L a cd)) (execs jBody (lawEnv L a cd)) Post (fun _ _ => False) { s with heap := h, toks := tk } := by
  have ok' := ok
  obtain ⟨-, -, m6, ⟨a7, m7⟩, ⟨a8, m8⟩, ⟨a9, m9⟩⟩ := ok'
  refine turnJ_8 (P0 := P0) (P1 := P1) (P2 := P2) (P3 := P3) (P4 := P4) (pl := pl) (tp := tp) C K0 d3 d6 hq3 hk3 he3 F N ?_ rfl m7 m8 m9 m6 ?_
  · exact List.pairwise_cons.mpr ⟨fun q hq => off q hq, P⟩
  · intro h' tk' m' F' N' hm b7 b8 b9
    exact ret h' tk' m' F' N' (ok.keep hm b7 b8 b9)

theorem segD2_0 {w : World} {mean : ExcName → Option Value} {mg mb : Str → Option Value} {h₀ : Heap} {L a : Addr} {cd : Value} {s : Shared} {Post : Flow → Shared → Prop} {A M J H B T0 T1 T2 T3 T4 lR I9 : Addr} {o9 o1 o2 o3 o4 o5 o6 p0 p1 p2 p3 p4 : Obj}
    (C : LawCtx w mean mg mb h₀) (K0 : Below callerA h₀ [] h₀) {c0 c1 c2 c3 e0 e1 e2 e3 e4 pl : Int} {t0 t1 t2 t3 u0 u1 u2 u3 u4 w0 w1 w2 w3 w4 x0 x1 x2 x3 x4 tp : Tok} {ep er : Nat} {q0 q1 q2 q3 q4 f0 f1 f2 f3 f4 : Str} {P0 : Pc} {P1 : Pc} {P2 : Pc} {P3 : Pc} {P4 : Pc} {rowl : List (Int × Value)} {sv : Int} {tk9 ts td tu tl : Tok}
    (d3 : o3.data = .cell (some (.ref B))) (d6 : o6.data = .cell (some (.ref J))) (hq0 : q0.cps.toList = P0.l) (hk0 : P0.ok) (he0 : P0.e = e0) (hq1 : q1.cps.toList = P1.l) (hk1 : P1.ok) (he1 : P1.e = e1) (hq2 : q2.cps.toList = P2.l) (hk2 : P2.ok) (he2 : P2.e = e2) (hq3 : q3.cps.toList = P3.l) (hk3 : P3.ok) (he3 : P3.e = e3) (hq4 : q4.cps.toList = P4.l) (hk4 : P4.ok) (he4 : P4.e = e4)
    (next : GoesM w h₀ L a cd (pBody.drop 7) Post s (fun m => (m (Str.ofString "row") = some (.ref lR) ∧ m (Str.ofString "fronts") = some (.ref M) ∧ m (Str.ofString "cells") = some (.ref A) ∧ m (Str.ofString "place") = some (.int pl tp)) ∧ m (Str.ofString "k") = some (.int 0 tk9) ∧ m (Str.ofString "start") = some (.int sv ts) ∧ (∃ t, m (Str.ofString "depth") = some (.int (((((sv + e0) + e1) + e2) + e3) + e4) t)) ∧ (∃ t, m (Str.ofString "due") = some (.int (((((sv + e0) + e1) + e2) + e3) + e4) t)) ∧ (∃ t, m (Str.ofString "low") = some (.int (((((0 + if (sv + e0) ≤ sv then 1 else 0) + if ((sv + e0) + e1) ≤ sv then 1 else 0) + if (((sv + e0) + e1) + e2) ≤ sv then 1 else 0) + if ((((sv + e0) + e1) + e2) + e3) ≤ sv then 1 else 0) + if (((((sv + e0) + e1) + e2) + e3) + e4) ≤ sv then 1 else 0) t))) ((I9, o9) :: (lR, listOf (rowl.map (·.2)).toArray er) :: (M, LCg.lst [.bytes (octs f0) x0, .bytes (octs f1) x1, .bytes (octs f2) x2, .bytes (octs f3) x3, .bytes (octs f4) x4]) :: (J, LCg.lst [.str q0 w0, .str q1 w1, .str q2 w2, .str q3 w3, .str q4 w4]) :: (H, LCg.lst [.ref T0, .ref T1, .ref T2, .ref T3, .ref T4]) :: (T4, p4) :: (T3, p3) :: (T2, p2) :: (T1, p1) :: (T0, p0) :: (B, listOf #[.int e0 u0, .int e1 u1, .int e2 u2, .int e3 u3, .int e4 u4] ep) :: (A, LCg.lst [.int c0 t0, .int c1 t1, .int c2 t2, .int c3 t3]) :: cellsN L o1 o2 o3 o4 o5 o6)) :
    GoesM w h₀ L a cd (pBody.drop 6) Post s (fun m => (m (Str.ofString "row") = some (.ref lR) ∧ m (Str.ofString "fronts") = some (.ref M) ∧ m (Str.ofString "cells") = some (.ref A) ∧ m (Str.ofString "place") = some (.int pl tp)) ∧ m (Str.ofString "k") = some (.int 0 tk9) ∧ m (Str.ofString "start") = some (.int sv ts) ∧ m (Str.ofString "depth") = some (.int sv td) ∧ m (Str.ofString "due") = some (.int sv tu) ∧ m (Str.ofString "low") = some (.int 0 tl)) ((I9, o9) :: (lR, listOf (rowl.map (·.2)).toArray er) :: (M, LCg.lst [.bytes (octs f0) x0, .bytes (octs f1) x1, .bytes (octs f2) x2, .bytes (octs f3) x3, .bytes (octs f4) x4]) :: (J, LCg.lst [.str q0 w0, .str q1 w1, .str q2 w2, .str q3 w3, .str q4 w4]) :: (H, LCg.lst [.ref T0, .ref T1, .ref T2, .ref T3, .ref T4]) :: (T4, p4) :: (T3, p3) :: (T2, p2) :: (T1, p1) :: (T0, p0) :: (B, listOf #[.int e0 u0, .int e1 u1, .int e2 u2, .int e3 u3, .int e4 u4] ep) :: (A, LCg.lst [.int c0 t0, .int c1 t1, .int c2 t2, .int c3 t3]) :: cellsN L o1 o2 o3 o4 o5 o6) := by
  have C' := C
  obtain ⟨KX, X, V, GL, T, BT, TE, TW⟩ := C
  intro h tk m F ok N P
  revert KX
  k_fill
  intro KX
  unfold cellsN at N P
  conv in (execs _ _) => arg 1; whnf
  obtain ⟨⟨m1, m2, m3, m4⟩, m5, m6, m7, m8, m9⟩ := ok
  walk1
  refine For_invVF (by assumption) rfl rfl ?_ (hE := PassesOwn.never)
  walk_at "mine:go"
  rename_i I l1
  have off : ∀ p ∈ ((I9, o9) :: (lR, listOf (rowl.map (·.2)).toArray er) :: (M, LCg.lst [.bytes (octs f0) x0, .bytes (octs f1) x1, .bytes (octs f2) x2, .bytes (octs f3) x3, .bytes (octs f4) x4]) :: (J, LCg.lst [.str q0 w0, .str q1 w1, .str q2 w2, .str q3 w3, .str q4 w4]) :: (H, LCg.lst [.ref T0, .ref T1, .ref T2, .ref T3, .ref T4]) :: (T4, p4) :: (T3, p3) :: (T2, p2) :: (T1, p1) :: (T0, p0) :: (B, listOf #[.int e0 u0, .int e1 u1, .int e2 u2, .int e3 u3, .int e4 u4] ep) :: (A, LCg.lst [.int c0 t0, .int c1 t1, .int c2 t2, .int c3 t3]) :: cellsN L o1 o2 o3 o4 o5 o6), p.1 ≠ I := fun p hp => Nat.ne_of_lt (allLt_out (by simp only [cellsN, AllLt, and_true]; exact l1) p hp)
  have g0 : GJ lR M A pl 0 sv sv 0 tp tk9 ts m := ⟨⟨m1, m2, m3, m4⟩, m5, m6, ⟨_, m7⟩, ⟨_, m8⟩, ⟨_, m9⟩⟩
  clear m1 m2 m3 m4 m5 m6 m7 m8 m9
  refine range_stepE (GJ lR M A pl 0 sv (sv + e0) (0 + if (sv + e0) ≤ sv then 1 else 0) tp tk9 ts) off ?_ ?_
  · intro t h tk it Post F N ret
    exact turnG_0 (P0 := P0) (P1 := P1) (P2 := P2) (P3 := P3) (P4 := P4) C' K0 d3 d6 hq0 hk0 he0 off P g0 t h tk it F N ret
  clear g0
  intro m g1
  refine range_stepE (GJ lR M A pl 0 sv ((sv + e0) + e1) ((0 + if (sv + e0) ≤ sv then 1 else 0) + if ((sv + e0) + e1) ≤ sv then 1 else 0) tp tk9 ts) off ?_ ?_
  · intro t h tk it Post F N ret
    exact turnG_1 (P0 := P0) (P1 := P1) (P2 := P2) (P3 := P3) (P4 := P4) C' K0 d3 d6 hq1 hk1 he1 off P g1 t h tk it F N ret
  clear g1
  intro m g2
  refine range_stepE (GJ lR M A pl 0 sv (((sv + e0) + e1) + e2) (((0 + if (sv + e0) ≤ sv then 1 else 0) + if ((sv + e0) + e1) ≤ sv then 1 else 0) + if (((sv + e0) + e1) + e2) ≤ sv then 1 else 0) tp tk9 ts) off ?_ ?_
  · intro t h tk it Post F N ret
    exact turnG_2 (P0 := P0) (P1 := P1) (P2 := P2) (P3 := P3) (P4 := P4) C' K0 d3 d6 hq2 hk2 he2 off P g2 t h tk it F N ret
  clear g2
  intro m g3
  refine range_stepE (GJ lR M A pl 0 sv ((((sv + e0) + e1) + e2) + e3) ((((0 + if (sv + e0) ≤ sv then 1 else 0) + if ((sv + e0) + e1) ≤ sv then 1 else 0) + if (((sv + e0) + e1) + e2) ≤ sv then 1 else 0) + if ((((sv + e0) + e1) + e2) + e3) ≤ sv then 1 else 0) tp tk9 ts) off ?_ ?_
  · intro t h tk it Post F N ret
    exact turnG_3 (P0 := P0) (P1 := P1) (P2 := P2) (P3 := P3) (P4 := P4) C' K0 d3 d6 hq3 hk3 he3 off P g3 t h tk it F N ret
  clear g3
  intro m g4
  refine range_stepE (GJ lR M A pl 0 sv (((((sv + e0) + e1) + e2) + e3) + e4) (((((0 + if (sv + e0) ≤ sv then 1 else 0) + if ((sv + e0) + e1) ≤ sv then 1 else 0) + if (((sv + e0) + e1) + e2) ≤ sv then 1 else 0) + if ((((sv + e0) + e1) + e2) + e3) ≤ sv then 1 else 0) + if (((((sv + e0) + e1) + e2) + e3) + e4) ≤ sv then 1 else 0) tp tk9 ts) off ?_ ?_
  · intro t h tk it Post F N ret
    exact turnG_4 (P0 := P0) (P1 := P1) (P2 := P2) (P3 := P3) (P4 := P4) C' K0 d3 d6 hq4 hk4 he4 off P g4 t h tk it F N ret
  clear g4
  intro m g5
  refine RangeRest.zero ?_
  intro h tk F N
  exact next h tk m F g5 N P

theorem segD2_1 {w : World} {mean : ExcName → Option Value} {mg mb : Str → Option Value} {h₀ : Heap} {L a : Addr} {cd : Value} {s : Shared} {Post : Flow → Shared → Prop} {A M J H B T0 T1 T2 T3 T4 lR I9 : Addr} {o9 o1 o2 o3 o4 o5 o6 p0 p1 p2 p3 p4 : Obj}
    (C : LawCtx w mean mg mb h₀) (K0 : Below callerA h₀ [] h₀) {c0 c1 c2 c3 e0 e1 e2 e3 e4 pl : Int} {t0 t1 t2 t3 u0 u1 u2 u3 u4 w0 w1 w2 w3 w4 x0 x1 x2 x3 x4 tp : Tok} {ep er : Nat} {q0 q1 q2 q3 q4 f0 f1 f2 f3 f4 : Str} {P0 : Pc} {P1 : Pc} {P2 : Pc} {P3 : Pc} {P4 : Pc} {rowl : List (Int × Value)} {sv : Int} {tk9 ts td tu tl : Tok}
    (d3 : o3.data = .cell (some (.ref B))) (d6 : o6.data = .cell (some (.ref J))) (hq0 : q0.cps.toList = P0.l) (hk0 : P0.ok) (he0 : P0.e = e0) (hq1 : q1.cps.toList = P1.l) (hk1 : P1.ok) (he1 : P1.e = e1) (hq2 : q2.cps.toList = P2.l) (hk2 : P2.ok) (he2 : P2.e = e2) (hq3 : q3.cps.toList = P3.l) (hk3 : P3.ok) (he3 : P3.e = e3) (hq4 : q4.cps.toList = P4.l) (hk4 : P4.ok) (he4 : P4.e = e4)
    (next : GoesM w h₀ L a cd (pBody.drop 7) Post s (fun m => (m (Str.ofString "row") = some (.ref lR) ∧ m (Str.ofString "fronts") = some (.ref M) ∧ m (Str.ofString "cells") = some (.ref A) ∧ m (Str.ofString "place") = some (.int pl tp)) ∧ m (Str.ofString "k") = some (.int 1 tk9) ∧ m (Str.ofString "start") = some (.int sv ts) ∧ (∃ t, m (Str.ofString "depth") = some (.int (((((sv + e1) + e2) + e3) + e4) + e0) t)) ∧ (∃ t, m (Str.ofString "due") = some (.int (((((sv + e1) + e2) + e3) + e4) + e0) t)) ∧ (∃ t, m (Str.ofString "low") = some (.int (((((0 + if (sv + e1) ≤ sv then 1 else 0) + if ((sv + e1) + e2) ≤ sv then 1 else 0) + if (((sv + e1) + e2) + e3) ≤ sv then 1 else 0) + if ((((sv + e1) + e2) + e3) + e4) ≤ sv then 1 else 0) + if (((((sv + e1) + e2) + e3) + e4) + e0) ≤ sv then 1 else 0) t))) ((I9, o9) :: (lR, listOf (rowl.map (·.2)).toArray er) :: (M, LCg.lst [.bytes (octs f0) x0, .bytes (octs f1) x1, .bytes (octs f2) x2, .bytes (octs f3) x3, .bytes (octs f4) x4]) :: (J, LCg.lst [.str q0 w0, .str q1 w1, .str q2 w2, .str q3 w3, .str q4 w4]) :: (H, LCg.lst [.ref T0, .ref T1, .ref T2, .ref T3, .ref T4]) :: (T4, p4) :: (T3, p3) :: (T2, p2) :: (T1, p1) :: (T0, p0) :: (B, listOf #[.int e0 u0, .int e1 u1, .int e2 u2, .int e3 u3, .int e4 u4] ep) :: (A, LCg.lst [.int c0 t0, .int c1 t1, .int c2 t2, .int c3 t3]) :: cellsN L o1 o2 o3 o4 o5 o6)) :
    GoesM w h₀ L a cd (pBody.drop 6) Post s (fun m => (m (Str.ofString "row") = some (.ref lR) ∧ m (Str.ofString "fronts") = some (.ref M) ∧ m (Str.ofString "cells") = some (.ref A) ∧ m (Str.ofString "place") = some (.int pl tp)) ∧ m (Str.ofString "k") = some (.int 1 tk9) ∧ m (Str.ofString "start") = some (.int sv ts) ∧ m (Str.ofString "depth") = some (.int sv td) ∧ m (Str.ofString "due") = some (.int sv tu) ∧ m (Str.ofString "low") = some (.int 0 tl)) ((I9, o9) :: (lR, listOf (rowl.map (·.2)).toArray er) :: (M, LCg.lst [.bytes (octs f0) x0, .bytes (octs f1) x1, .bytes (octs f2) x2, .bytes (octs f3) x3, .bytes (octs f4) x4]) :: (J, LCg.lst [.str q0 w0, .str q1 w1, .str q2 w2, .str q3 w3, .str q4 w4]) :: (H, LCg.lst [.ref T0, .ref T1, .ref T2, .ref T3, .ref T4]) :: (T4, p4) :: (T3, p3) :: (T2, p2) :: (T1, p1) :: (T0, p0) :: (B, listOf #[.int e0 u0, .int e1 u1, .int e2 u2, .int e3 u3, .int e4 u4] ep) :: (A, LCg.lst [.int c0 t0, .int c1 t1, .int c2 t2, .int c3 t3]) :: cellsN L o1 o2 o3 o4 o5 o6) := by
  have C' := C
  obtain ⟨KX, X, V, GL, T, BT, TE, TW⟩ := C
  intro h tk m F ok N P
  revert KX
  k_fill
  intro KX
  unfold cellsN at N P
  conv in (execs _ _) => arg 1; whnf
  obtain ⟨⟨m1, m2, m3, m4⟩, m5, m6, m7, m8, m9⟩ := ok
  walk1
  refine For_invVF (by assumption) rfl rfl ?_ (hE := PassesOwn.never)
  walk_at "mine:go"
  rename_i I l1
  have off : ∀ p ∈ ((I9, o9) :: (lR, listOf (rowl.map (·.2)).toArray er) :: (M, LCg.lst [.bytes (octs f0) x0, .bytes (octs f1) x1, .bytes (octs f2) x2, .bytes (octs f3) x3, .bytes (octs f4) x4]) :: (J, LCg.lst [.str q0 w0, .str q1 w1, .str q2 w2, .str q3 w3, .str q4 w4]) :: (H, LCg.lst [.ref T0, .ref T1, .ref T2, .ref T3, .ref T4]) :: (T4, p4) :: (T3, p3) :: (T2, p2) :: (T1, p1) :: (T0, p0) :: (B, listOf #[.int e0 u0, .int e1 u1, .int e2 u2, .int e3 u3, .int e4 u4] ep) :: (A, LCg.lst [.int c0 t0, .int c1 t1, .int c2 t2, .int c3 t3]) :: cellsN L o1 o2 o3 o4 o5 o6), p.1 ≠ I := fun p hp => Nat.ne_of_lt (allLt_out (by simp only [cellsN, AllLt, and_true]; exact l1) p hp)
  have g0 : GJ lR M A pl 1 sv sv 0 tp tk9 ts m := ⟨⟨m1, m2, m3, m4⟩, m5, m6, ⟨_, m7⟩, ⟨_, m8⟩, ⟨_, m9⟩⟩
  clear m1 m2 m3 m4 m5 m6 m7 m8 m9
  refine range_stepE (GJ lR M A pl 1 sv (sv + e1) (0 + if (sv + e1) ≤ sv then 1 else 0) tp tk9 ts) off ?_ ?_
  · intro t h tk it Post F N ret
    exact turnG_1 (P0 := P0) (P1 := P1) (P2 := P2) (P3 := P3) (P4 := P4) C' K0 d3 d6 hq1 hk1 he1 off P g0 t h tk it F N ret
  clear g0
  intro m g1
  refine range_stepE (GJ lR M A pl 1 sv ((sv + e1) + e2) ((0 + if (sv + e1) ≤ sv then 1 else 0) + if ((sv + e1) + e2) ≤ sv then 1 else 0) tp tk9 ts) off ?_ ?_
  · intro t h tk it Post F N ret
    exact turnG_2 (P0 := P0) (P1 := P1) (P2 := P2) (P3 := P3) (P4 := P4) C' K0 d3 d6 hq2 hk2 he2 off P g1 t h tk it F N ret
  clear g1
  intro m g2
  refine range_stepE (GJ lR M A pl 1 sv (((sv + e1) + e2) + e3) (((0 + if (sv + e1) ≤ sv then 1 else 0) + if ((sv + e1) + e2) ≤ sv then 1 else 0) + if (((sv + e1) + e2) + e3) ≤ sv then 1 else 0) tp tk9 ts) off ?_ ?_
  · intro t h tk it Post F N ret
    exact turnG_3 (P0 := P0) (P1 := P1) (P2 := P2) (P3 := P3) (P4 := P4) C' K0 d3 d6 hq3 hk3 he3 off P g2 t h tk it F N ret
  clear g2
  intro m g3
  refine range_stepE (GJ lR M A pl 1 sv ((((sv + e1) + e2) + e3) + e4) ((((0 + if (sv + e1) ≤ sv then 1 else 0) + if ((sv + e1) + e2) ≤ sv then 1 else 0) + if (((sv + e1) + e2) + e3) ≤ sv then 1 else 0) + if ((((sv + e1) + e2) + e3) + e4) ≤ sv then 1 else 0) tp tk9 ts) off ?_ ?_
  · intro t h tk it Post F N ret
    exact turnG_4 (P0 := P0) (P1 := P1) (P2 := P2) (P3 := P3) (P4 := P4) C' K0 d3 d6 hq4 hk4 he4 off P g3 t h tk it F N ret
  clear g3
  intro m g4
  refine range_stepE (GJ lR M A pl 1 sv (((((sv + e1) + e2) + e3) + e4) + e0) (((((0 + if (sv + e1) ≤ sv then 1 else 0) + if ((sv + e1) + e2) ≤ sv then 1 else 0) + if (((sv + e1) + e2) + e3) ≤ sv then 1 else 0) + if ((((sv + e1) + e2) + e3) + e4) ≤ sv then 1 else 0) + if (((((sv + e1) + e2) + e3) + e4) + e0) ≤ sv then 1 else 0) tp tk9 ts) off ?_ ?_
  · intro t h tk it Post F N ret
    exact turnG_5 (P0 := P0) (P1 := P1) (P2 := P2) (P3 := P3) (P4 := P4) C' K0 d3 d6 hq0 hk0 he0 off P g4 t h tk it F N ret
  clear g4
  intro m g5
  refine RangeRest.zero ?_
  intro h tk F N
  exact next h tk m F g5 N P

theorem segD2_2 {w : World} {mean : ExcName → Option Value} {mg mb : Str → Option Value} {h₀ : Heap} {L a : Addr} {cd : Value} {s : Shared} {Post : Flow → Shared → Prop} {A M J H B T0 T1 T2 T3 T4 lR I9 : Addr} {o9 o1 o2 o3 o4 o5 o6 p0 p1 p2 p3 p4 : Obj}
    (C : LawCtx w mean mg mb h₀) (K0 : Below callerA h₀ [] h₀) {c0 c1 c2 c3 e0 e1 e2 e3 e4 pl : Int} {t0 t1 t2 t3 u0 u1 u2 u3 u4 w0 w1 w2 w3 w4 x0 x1 x2 x3 x4 tp : Tok} {ep er : Nat} {q0 q1 q2 q3 q4 f0 f1 f2 f3 f4 : Str} {P0 : Pc} {P1 : Pc} {P2 : Pc} {P3 : Pc} {P4 : Pc} {rowl : List (Int × Value)} {sv : Int} {tk9 ts td tu tl : Tok}
    (d3 : o3.data = .cell (some (.ref B))) (d6 : o6.data = .cell (some (.ref J))) (hq0 : q0.cps.toList = P0.l) (hk0 : P0.ok) (he0 : P0.e = e0) (hq1 : q1.cps.toList = P1.l) (hk1 : P1.ok) (he1 : P1.e = e1) (hq2 : q2.cps.toList = P2.l) (hk2 : P2.ok) (he2 : P2.e = e2) (hq3 : q3.cps.toList = P3.l) (hk3 : P3.ok) (he3 : P3.e = e3) (hq4 : q4.cps.toList = P4.l) (hk4 : P4.ok) (he4 : P4.e = e4)
    (next : GoesM w h₀ L a cd (pBody.drop 7) Post s (fun m => (m (Str.ofString "row") = some (.ref lR) ∧ m (Str.ofString "fronts") = some (.ref M) ∧ m (Str.ofString "cells") = some (.ref A) ∧ m (Str.ofString "place") = some (.int pl tp)) ∧ m (Str.ofString "k") = some (.int 2 tk9) ∧ m (Str.ofString "start") = some (.int sv ts) ∧ (∃ t, m (Str.ofString "depth") = some (.int (((((sv + e2) + e3) + e4) + e0) + e1) t)) ∧ (∃ t, m (Str.ofString "due") = some (.int (((((sv + e2) + e3) + e4) + e0) + e1) t)) ∧ (∃ t, m (Str.ofString "low") = some (.int (((((0 + if (sv + e2) ≤ sv then 1 else 0) + if ((sv + e2) + e3) ≤ sv then 1 else 0) + if (((sv + e2) + e3) + e4) ≤ sv then 1 else 0) + if ((((sv + e2) + e3) + e4) + e0) ≤ sv then 1 else 0) + if (((((sv + e2) + e3) + e4) + e0) + e1) ≤ sv then 1 else 0) t))) ((I9, o9) :: (lR, listOf (rowl.map (·.2)).toArray er) :: (M, LCg.lst [.bytes (octs f0) x0, .bytes (octs f1) x1, .bytes (octs f2) x2, .bytes (octs f3) x3, .bytes (octs f4) x4]) :: (J, LCg.lst [.str q0 w0, .str q1 w1, .str q2 w2, .str q3 w3, .str q4 w4]) :: (H, LCg.lst [.ref T0, .ref T1, .ref T2, .ref T3, .ref T4]) :: (T4, p4) :: (T3, p3) :: (T2, p2) :: (T1, p1) :: (T0, p0) :: (B, listOf #[.int e0 u0, .int e1 u1, .int e2 u2, .int e3 u3, .int e4 u4] ep) :: (A, LCg.lst [.int c0 t0, .int c1 t1, .int c2 t2, .int c3 t3]) :: cellsN L o1 o2 o3 o4 o5 o6)) :
    GoesM w h₀ L a cd (pBody.drop 6) Post s (fun m => (m (Str.ofString "row") = some (.ref lR) ∧ m (Str.ofString "fronts") = some (.ref M) ∧ m (Str.ofString "cells") = some (.ref A) ∧ m (Str.ofString "place") = some (.int pl tp)) ∧ m (Str.ofString "k") = some (.int 2 tk9) ∧ m (Str.ofString "start") = some (.int sv ts) ∧ m (Str.ofString "depth") = some (.int sv td) ∧ m (Str.ofString "due") = some (.int sv tu) ∧ m (Str.ofString "low") = some (.int 0 tl)) ((I9, o9) :: (lR, listOf (rowl.map (·.2)).toArray er) :: (M, LCg.lst [.bytes (octs f0) x0, .bytes (octs f1) x1, .bytes (octs f2) x2, .bytes (octs f3) x3, .bytes (octs f4) x4]) :: (J, LCg.lst [.str q0 w0, .str q1 w1, .str q2 w2, .str q3 w3, .str q4 w4]) :: (H, LCg.lst [.ref T0, .ref T1, .ref T2, .ref T3, .ref T4]) :: (T4, p4) :: (T3, p3) :: (T2, p2) :: (T1, p1) :: (T0, p0) :: (B, listOf #[.int e0 u0, .int e1 u1, .int e2 u2, .int e3 u3, .int e4 u4] ep) :: (A, LCg.lst [.int c0 t0, .int c1 t1, .int c2 t2, .int c3 t3]) :: cellsN L o1 o2 o3 o4 o5 o6) := by
  have C' := C
  obtain ⟨KX, X, V, GL, T, BT, TE, TW⟩ := C
  intro h tk m F ok N P
  revert KX
  k_fill
  intro KX
  unfold cellsN at N P
  conv in (execs _ _) => arg 1; whnf
  obtain ⟨⟨m1, m2, m3, m4⟩, m5, m6, m7, m8, m9⟩ := ok
  walk1
  refine For_invVF (by assumption) rfl rfl ?_ (hE := PassesOwn.never)
  walk_at "mine:go"
  rename_i I l1
  have off : ∀ p ∈ ((I9, o9) :: (lR, listOf (rowl.map (·.2)).toArray er) :: (M, LCg.lst [.bytes (octs f0) x0, .bytes (octs f1) x1, .bytes (octs f2) x2, .bytes (octs f3) x3, .bytes (octs f4) x4]) :: (J, LCg.lst [.str q0 w0, .str q1 w1, .str q2 w2, .str q3 w3, .str q4 w4]) :: (H, LCg.lst [.ref T0, .ref T1, .ref T2, .ref T3, .ref T4]) :: (T4, p4) :: (T3, p3) :: (T2, p2) :: (T1, p1) :: (T0, p0) :: (B, listOf #[.int e0 u0, .int e1 u1, .int e2 u2, .int e3 u3, .int e4 u4] ep) :: (A, LCg.lst [.int c0 t0, .int c1 t1, .int c2 t2, .int c3 t3]) :: cellsN L o1 o2 o3 o4 o5 o6), p.1 ≠ I := fun p hp => Nat.ne_of_lt (allLt_out (by simp only [cellsN, AllLt, and_true]; exact l1) p hp)
  have g0 : GJ lR M A pl 2 sv sv 0 tp tk9 ts m := ⟨⟨m1, m2, m3, m4⟩, m5, m6, ⟨_, m7⟩, ⟨_, m8⟩, ⟨_, m9⟩⟩
  clear m1 m2 m3 m4 m5 m6 m7 m8 m9
  refine range_stepE (GJ lR M A pl 2 sv (sv + e2) (0 + if (sv + e2) ≤ sv then 1 else 0) tp tk9 ts) off ?_ ?_
  · intro t h tk it Post F N ret
    exact turnG_2 (P0 := P0) (P1 := P1) (P2 := P2) (P3 := P3) (P4 := P4) C' K0 d3 d6 hq2 hk2 he2 off P g0 t h tk it F N ret
  clear g0
  intro m g1
  refine range_stepE (GJ lR M A pl 2 sv ((sv + e2) + e3) ((0 + if (sv + e2) ≤ sv then 1 else 0) + if ((sv + e2) + e3) ≤ sv then 1 else 0) tp tk9 ts) off ?_ ?_
  · intro t h tk it Post F N ret
    exact turnG_3 (P0 := P0) (P1 := P1) (P2 := P2) (P3 := P3) (P4 := P4) C' K0 d3 d6 hq3 hk3 he3 off P g1 t h tk it F N ret
  clear g1
  intro m g2
  refine range_stepE (GJ lR M A pl 2 sv (((sv + e2) + e3) + e4) (((0 + if (sv + e2) ≤ sv then 1 else 0) + if ((sv + e2) + e3) ≤ sv then 1 else 0) + if (((sv + e2) + e3) + e4) ≤ sv then 1 else 0) tp tk9 ts) off ?_ ?_
  · intro t h tk it Post F N ret
    exact turnG_4 (P0 := P0) (P1 := P1) (P2 := P2) (P3 := P3) (P4 := P4) C' K0 d3 d6 hq4 hk4 he4 off P g2 t h tk it F N ret
  clear g2
  intro m g3
  refine range_stepE (GJ lR M A pl 2 sv ((((sv + e2) + e3) + e4) + e0) ((((0 + if (sv + e2) ≤ sv then 1 else 0) + if ((sv + e2) + e3) ≤ sv then 1 else 0) + if (((sv + e2) + e3) + e4) ≤ sv then 1 else 0) + if ((((sv + e2) + e3) + e4) + e0) ≤ sv then 1 else 0) tp tk9 ts) off ?_ ?_
  · intro t h tk it Post F N ret
    exact turnG_5 (P0 := P0) (P1 := P1) (P2 := P2) (P3 := P3) (P4 := P4) C' K0 d3 d6 hq0 hk0 he0 off P g3 t h tk it F N ret
  clear g3
  intro m g4
  refine range_stepE (GJ lR M A pl 2 sv (((((sv + e2) + e3) + e4) + e0) + e1) (((((0 + if (sv + e2) ≤ sv then 1 else 0) + if ((sv + e2) + e3) ≤ sv then 1 else 0) + if (((sv + e2) + e3) + e4) ≤ sv then 1 else 0) + if ((((sv + e2) + e3) + e4) + e0) ≤ sv then 1 else 0) + if (((((sv + e2) + e3) + e4) + e0) + e1) ≤ sv then 1 else 0) tp tk9 ts) off ?_ ?_
  · intro t h tk it Post F N ret
    exact turnG_6 (P0 := P0) (P1 := P1) (P2 := P2) (P3 := P3) (P4 := P4) C' K0 d3 d6 hq1 hk1 he1 off P g4 t h tk it F N ret
  clear g4
  intro m g5
  refine RangeRest.zero ?_
  intro h tk F N
  exact next h tk m F g5 N P

theorem segD2_3 {w : World} {mean : ExcName → Option Value} {mg mb : Str → Option Value} {h₀ : Heap} {L a : Addr} {cd : Value} {s : Shared} {Post : Flow → Shared → Prop} {A M J H B T0 T1 T2 T3 T4 lR I9 : Addr} {o9 o1 o2 o3 o4 o5 o6 p0 p1 p2 p3 p4 : Obj}
    (C : LawCtx w mean mg mb h₀) (K0 : Below callerA h₀ [] h₀) {c0 c1 c2 c3 e0 e1 e2 e3 e4 pl : Int} {t0 t1 t2 t3 u0 u1 u2 u3 u4 w0 w1 w2 w3 w4 x0 x1 x2 x3 x4 tp : Tok} {ep er : Nat} {q0 q1 q2 q3 q4 f0 f1 f2 f3 f4 : Str} {P0 : Pc} {P1 : Pc} {P2 : Pc} {P3 : Pc} {P4 : Pc} {rowl : List (Int × Value)} {sv : Int} {tk9 ts td tu tl : Tok}
    (d3 : o3.data = .cell (some (.ref B))) (d6 : o6.data = .cell (some (.ref J))) (hq0 : q0.cps.toList = P0.l) (hk0 : P0.ok) (he0 : P0.e = e0) (hq1 : q1.cps.toList = P1.l) (hk1 : P1.ok) (he1 : P1.e = e1) (hq2 : q2.cps.toList = P2.l) (hk2 : P2.ok) (he2 : P2.e = e2) (hq3 : q3.cps.toList = P3.l) (hk3 : P3.ok) (he3 : P3.e = e3) (hq4 : q4.cps.toList = P4.l) (hk4 : P4.ok) (he4 : P4.e = e4)
    (next : GoesM w h₀ L a cd (pBody.drop 7) Post s (fun m => (m (Str.ofString "row") = some (.ref lR) ∧ m (Str.ofString "fronts") = some (.ref M) ∧ m (Str.ofString "cells") = some (.ref A) ∧ m (Str.ofString "place") = some (.int pl tp)) ∧ m (Str.ofString "k") = some (.int 3 tk9) ∧ m (Str.ofString "start") = some (.int sv ts) ∧ (∃ t, m (Str.ofString "depth") = some (.int (((((sv + e3) + e4) + e0) + e1) + e2) t)) ∧ (∃ t, m (Str.ofString "due") = some (.int (((((sv + e3) + e4) + e0) + e1) + e2) t)) ∧ (∃ t, m (Str.ofString "low") = some (.int (((((0 + if (sv + e3) ≤ sv then 1 else 0) + if ((sv + e3) + e4) ≤ sv then 1 else 0) + if (((sv + e3) + e4) + e0) ≤ sv then 1 else 0) + if ((((sv + e3) + e4) + e0) + e1) ≤ sv then 1 else 0) + if (((((sv + e3) + e4) + e0) + e1) + e2) ≤ sv then 1 else 0) t))) ((I9, o9) :: (lR, listOf (rowl.map (·.2)).toArray er) :: (M, LCg.lst [.bytes (octs f0) x0, .bytes (octs f1) x1, .bytes (octs f2) x2, .bytes (octs f3) x3, .bytes (octs f4) x4]) :: (J, LCg.lst [.str q0 w0, .str q1 w1, .str q2 w2, .str q3 w3, .str q4 w4]) :: (H, LCg.lst [.ref T0, .ref T1, .ref T2, .ref T3, .ref T4]) :: (T4, p4) :: (T3, p3) :: (T2, p2) :: (T1, p1) :: (T0, p0) :: (B, listOf #[.int e0 u0, .int e1 u1, .int e2 u2, .int e3 u3, .int e4 u4] ep) :: (A, LCg.lst [.int c0 t0, .int c1 t1, .int c2 t2, .int c3 t3]) :: cellsN L o1 o2 o3 o4 o5 o6)) :
    GoesM w h₀ L a cd (pBody.drop 6) Post s (fun m => (m (Str.ofString "row") = some (.ref lR) ∧ m (Str.ofString "fronts") = some (.ref M) ∧ m (Str.ofString "cells") = some (.ref A) ∧ m (Str.ofString "place") = some (.int pl tp)) ∧ m (Str.ofString "k") = some (.int 3 tk9) ∧ m (Str.ofString "start") = some (.int sv ts) ∧ m (Str.ofString "depth") = some (.int sv td) ∧ m (Str.ofString "due") = some (.int sv tu) ∧ m (Str.ofString "low") = some (.int 0 tl)) ((I9, o9) :: (lR, listOf (rowl.map (·.2)).toArray er) :: (M, LCg.lst [.bytes (octs f0) x0, .bytes (octs f1) x1, .bytes (octs f2) x2, .bytes (octs f3) x3, .bytes (octs f4) x4]) :: (J, LCg.lst [.str q0 w0, .str q1 w1, .str q2 w2, .str q3 w3, .str q4 w4]) :: (H, LCg.lst [.ref T0, .ref T1, .ref T2, .ref T3, .ref T4]) :: (T4, p4) :: (T3, p3) :: (T2, p2) :: (T1, p1) :: (T0, p0) :: (B, listOf #[.int e0 u0, .int e1 u1, .int e2 u2, .int e3 u3, .int e4 u4] ep) :: (A, LCg.lst [.int c0 t0, .int c1 t1, .int c2 t2, .int c3 t3]) :: cellsN L o1 o2 o3 o4 o5 o6) := by
  have C' := C
  obtain ⟨KX, X, V, GL, T, BT, TE, TW⟩ := C
  intro h tk m F ok N P
  revert KX
  k_fill
  intro KX
  unfold cellsN at N P
  conv in (execs _ _) => arg 1; whnf
  obtain ⟨⟨m1, m2, m3, m4⟩, m5, m6, m7, m8, m9⟩ := ok
  walk1
  refine For_invVF (by assumption) rfl rfl ?_ (hE := PassesOwn.never)
  walk_at "mine:go"
  rename_i I l1
  have off : ∀ p ∈ ((I9, o9) :: (lR, listOf (rowl.map (·.2)).toArray er) :: (M, LCg.lst [.bytes (octs f0) x0, .bytes (octs f1) x1, .bytes (octs f2) x2, .bytes (octs f3) x3, .bytes (octs f4) x4]) :: (J, LCg.lst [.str q0 w0, .str q1 w1, .str q2 w2, .str q3 w3, .str q4 w4]) :: (H, LCg.lst [.ref T0, .ref T1, .ref T2, .ref T3, .ref T4]) :: (T4, p4) :: (T3, p3) :: (T2, p2) :: (T1, p1) :: (T0, p0) :: (B, listOf #[.int e0 u0, .int e1 u1, .int e2 u2, .int e3 u3, .int e4 u4] ep) :: (A, LCg.lst [.int c0 t0, .int c1 t1, .int c2 t2, .int c3 t3]) :: cellsN L o1 o2 o3 o4 o5 o6), p.1 ≠ I := fun p hp => Nat.ne_of_lt (allLt_out (by simp only [cellsN, AllLt, and_true]; exact l1) p hp)
  have g0 : GJ lR M A pl 3 sv sv 0 tp tk9 ts m := ⟨⟨m1, m2, m3, m4⟩, m5, m6, ⟨_, m7⟩, ⟨_, m8⟩, ⟨_, m9⟩⟩
  clear m1 m2 m3 m4 m5 m6 m7 m8 m9
  refine range_stepE (GJ lR M A pl 3 sv (sv + e3) (0 + if (sv + e3) ≤ sv then 1 else 0) tp tk9 ts) off ?_ ?_
  · intro t h tk it Post F N ret
    exact turnG_3 (P0 := P0) (P1 := P1) (P2 := P2) (P3 := P3) (P4 := P4) C' K0 d3 d6 hq3 hk3 he3 off P g0 t h tk it F N ret
  clear g0
  intro m g1
  refine range_stepE (GJ lR M A pl 3 sv ((sv + e3) + e4) ((0 + if (sv + e3) ≤ sv then 1 else 0) + if ((sv + e3) + e4) ≤ sv then 1 else 0) tp tk9 ts) off ?_ ?_
  · intro t h tk it Post F N ret
    exact turnG_4 (P0 := P0) (P1 := P1) (P2 := P2) (P3 := P3) (P4 := P4) C' K0 d3 d6 hq4 hk4 he4 off P g1 t h tk it F N ret
  clear g1
  intro m g2
  refine range_stepE (GJ lR M A pl 3 sv (((sv + e3) + e4) + e0) (((0 + if (sv + e3) ≤ sv then 1 else 0) + if ((sv + e3) + e4) ≤ sv then 1 else 0) + if (((sv + e3) + e4) + e0) ≤ sv then 1 else 0) tp tk9 ts) off ?_ ?_
  · intro t h tk it Post F N ret
    exact turnG_5 (P0 := P0) (P1 := P1) (P2 := P2) (P3 := P3) (P4 := P4) C' K0 d3 d6 hq0 hk0 he0 off P g2 t h tk it F N ret
  clear g2
  intro m g3
  refine range_stepE (GJ lR M A pl 3 sv ((((sv + e3) + e4) + e0) + e1) ((((0 + if (sv + e3) ≤ sv then 1 else 0) + if ((sv + e3) + e4) ≤ sv then 1 else 0) + if (((sv + e3) + e4) + e0) ≤ sv then 1 else 0) + if ((((sv + e3) + e4) + e0) + e1) ≤ sv then 1 else 0) tp tk9 ts) off ?_ ?_
  · intro t h tk it Post F N ret
    exact turnG_6 (P0 := P0) (P1 := P1) (P2 := P2) (P3 := P3) (P4 := P4) C' K0 d3 d6 hq1 hk1 he1 off P g3 t h tk it F N ret
  clear g3
  intro m g4
  refine range_stepE (GJ lR M A pl 3 sv (((((sv + e3) + e4) + e0) + e1) + e2) (((((0 + if (sv + e3) ≤ sv then 1 else 0) + if ((sv + e3) + e4) ≤ sv then 1 else 0) + if (((sv + e3) + e4) + e0) ≤ sv then 1 else 0) + if ((((sv + e3) + e4) + e0) + e1) ≤ sv then 1 else 0) + if (((((sv + e3) + e4) + e0) + e1) + e2) ≤ sv then 1 else 0) tp tk9 ts) off ?_ ?_
  · intro t h tk it Post F N ret
    exact turnG_7 (P0 := P0) (P1 := P1) (P2 := P2) (P3 := P3) (P4 := P4) C' K0 d3 d6 hq2 hk2 he2 off P g4 t h tk it F N ret
  clear g4
  intro m g5
  refine RangeRest.zero ?_
  intro h tk F N
  exact next h tk m F g5 N P

theorem segD2_4 {w : World} {mean : ExcName → Option Value} {mg mb : Str → Option Value} {h₀ : Heap} {L a : Addr} {cd : Value} {s : Shared} {Post : Flow → Shared → Prop} {A M J H B T0 T1 T2 T3 T4 lR I9 : Addr} {o9 o1 o2 o3 o4 o5 o6 p0 p1 p2 p3 p4 : Obj}
    (C : LawCtx w mean mg mb h₀) (K0 : Below callerA h₀ [] h₀) {c0 c1 c2 c3 e0 e1 e2 e3 e4 pl : Int} {t0 t1 t2 t3 u0 u1 u2 u3 u4 w0 w1 w2 w3 w4 x0 x1 x2 x3 x4 tp : Tok} {ep er : Nat} {q0 q1 q2 q3 q4 f0 f1 f2 f3 f4 : Str} {P0 : Pc} {P1 : Pc} {P2 : Pc} {P3 : Pc} {P4 : Pc} {rowl : List (Int × Value)} {sv : Int} {tk9 ts td tu tl : Tok}
    (d3 : o3.data = .cell (some (.ref B))) (d6 : o6.data = .cell (some (.ref J))) (hq0 : q0.cps.toList = P0.l) (hk0 : P0.ok) (he0 : P0.e = e0) (hq1 : q1.cps.toList = P1.l) (hk1 : P1.ok) (he1 : P1.e = e1) (hq2 : q2.cps.toList = P2.l) (hk2 : P2.ok) (he2 : P2.e = e2) (hq3 : q3.cps.toList = P3.l) (hk3 : P3.ok) (he3 : P3.e = e3) (hq4 : q4.cps.toList = P4.l) (hk4 : P4.ok) (he4 : P4.e = e4)
    (next : GoesM w h₀ L a cd (pBody.drop 7) Post s (fun m => (m (Str.ofString "row") = some (.ref lR) ∧ m (Str.ofString "fronts") = some (.ref M) ∧ m (Str.ofString "cells") = some (.ref A) ∧ m (Str.ofString "place") = some (.int pl tp)) ∧ m (Str.ofString "k") = some (.int 4 tk9) ∧ m (Str.ofString "start") = some (.int sv ts) ∧ (∃ t, m (Str.ofString "depth") = some (.int (((((sv + e4) + e0) + e1) + e2) + e3) t)) ∧ (∃ t, m (Str.ofString "due") = some (.int (((((sv + e4) + e0) + e1) + e2) + e3) t)) ∧ (∃ t, m (Str.ofString "low") = some (.int (((((0 + if (sv + e4) ≤ sv then 1 else 0) + if ((sv + e4) + e0) ≤ sv then 1 else 0) + if (((sv + e4) + e0) + e1) ≤ sv then 1 else 0) + if ((((sv + e4) + e0) + e1) + e2) ≤ sv then 1 else 0) + if (((((sv + e4) + e0) + e1) + e2) + e3) ≤ sv then 1 else 0) t))) ((I9, o9) :: (lR, listOf (rowl.map (·.2)).toArray er) :: (M, LCg.lst [.bytes (octs f0) x0, .bytes (octs f1) x1, .bytes (octs f2) x2, .bytes (octs f3) x3, .bytes (octs f4) x4]) :: (J, LCg.lst [.str q0 w0, .str q1 w1, .str q2 w2, .str q3 w3, .str q4 w4]) :: (H, LCg.lst [.ref T0, .ref T1, .ref T2, .ref T3, .ref T4]) :: (T4, p4) :: (T3, p3) :: (T2, p2) :: (T1, p1) :: (T0, p0) :: (B, listOf #[.int e0 u0, .int e1 u1, .int e2 u2, .int e3 u3, .int e4 u4] ep) :: (A, LCg.lst [.int c0 t0, .int c1 t1, .int c2 t2, .int c3 t3]) :: cellsN L o1 o2 o3 o4 o5 o6)) :
    GoesM w h₀ L a cd (pBody.drop 6) Post s (fun m => (m (Str.ofString "row") = some (.ref lR) ∧ m (Str.ofString "fronts") = some (.ref M) ∧ m (Str.ofString "cells") = some (.ref A) ∧ m (Str.ofString "place") = some (.int pl tp)) ∧ m (Str.ofString "k") = some (.int 4 tk9) ∧ m (Str.ofString "start") = some (.int sv ts) ∧ m (Str.ofString "depth") = some (.int sv td) ∧ m (Str.ofString "due") = some (.int sv tu) ∧ m (Str.ofString "low") = some (.int 0 tl)) ((I9, o9) :: (lR, listOf (rowl.map (·.2)).toArray er) :: (M, LCg.lst [.bytes (octs f0) x0, .bytes (octs f1) x1, .bytes (octs f2) x2, .bytes (octs f3) x3, .bytes (octs f4) x4]) :: (J, LCg.lst [.str q0 w0, .str q1 w1, .str q2 w2, .str q3 w3, .str q4 w4]) :: (H, LCg.lst [.ref T0, .ref T1, .ref T2, .ref T3, .ref T4]) :: (T4, p4) :: (T3, p3) :: (T2, p2) :: (T1, p1) :: (T0, p0) :: (B, listOf #[.int e0 u0, .int e1 u1, .int e2 u2, .int e3 u3, .int e4 u4] ep) :: (A, LCg.lst [.int c0 t0, .int c1 t1, .int c2 t2, .int c3 t3]) :: cellsN L o1 o2 o3 o4 o5 o6) := by
  have C' := C
  obtain ⟨KX, X, V, GL, T, BT, TE, TW⟩ := C
  intro h tk m F ok N P
  revert KX
  k_fill
  intro KX
  unfold cellsN at N P
  conv in (execs _ _) => arg 1; whnf
  obtain ⟨⟨m1, m2, m3, m4⟩, m5, m6, m7, m8, m9⟩ := ok
  walk1
  refine For_invVF (by assumption) rfl rfl ?_ (hE := PassesOwn.never)
  walk_at "mine:go"
  rename_i I l1
  have off : ∀ p ∈ ((I9, o9) :: (lR, listOf (rowl.map (·.2)).toArray er) :: (M, LCg.lst [.bytes (octs f0) x0, .bytes (octs f1) x1, .bytes (octs f2) x2, .bytes (octs f3) x3, .bytes (octs f4) x4]) :: (J, LCg.lst [.str q0 w0, .str q1 w1, .str q2 w2, .str q3 w3, .str q4 w4]) :: (H, LCg.lst [.ref T0, .ref T1, .ref T2, .ref T3, .ref T4]) :: (T4, p4) :: (T3, p3) :: (T2, p2) :: (T1, p1) :: (T0, p0) :: (B, listOf #[.int e0 u0, .int e1 u1, .int e2 u2, .int e3 u3, .int e4 u4] ep) :: (A, LCg.lst [.int c0 t0, .int c1 t1, .int c2 t2, .int c3 t3]) :: cellsN L o1 o2 o3 o4 o5 o6), p.1 ≠ I := fun p hp => Nat.ne_of_lt (allLt_out (by simp only [cellsN, AllLt, and_true]; exact l1) p hp)
  have g0 : GJ lR M A pl 4 sv sv 0 tp tk9 ts m := ⟨⟨m1, m2, m3, m4⟩, m5, m6, ⟨_, m7⟩, ⟨_, m8⟩, ⟨_, m9⟩⟩
  clear m1 m2 m3 m4 m5 m6 m7 m8 m9
  refine range_stepE (GJ lR M A pl 4 sv (sv + e4) (0 + if (sv + e4) ≤ sv then 1 else 0) tp tk9 ts) off ?_ ?_
  · intro t h tk it Post F N ret
    exact turnG_4 (P0 := P0) (P1 := P1) (P2 := P2) (P3 := P3) (P4 := P4) C' K0 d3 d6 hq4 hk4 he4 off P g0 t h tk it F N ret
  clear g0
  intro m g1
  refine range_stepE (GJ lR M A pl 4 sv ((sv + e4) + e0) ((0 + if (sv + e4) ≤ sv then 1 else 0) + if ((sv + e4) + e0) ≤ sv then 1 else 0) tp tk9 ts) off ?_ ?_
  · intro t h tk it Post F N ret
    exact turnG_5 (P0 := P0) (P1 := P1) (P2 := P2) (P3 := P3) (P4 := P4) C' K0 d3 d6 hq0 hk0 he0 off P g1 t h tk it F N ret
  clear g1
  intro m g2
  refine range_stepE (GJ lR M A pl 4 sv (((sv + e4) + e0) + e1) (((0 + if (sv + e4) ≤ sv then 1 else 0) + if ((sv + e4) + e0) ≤ sv then 1 else 0) + if (((sv + e4) + e0) + e1) ≤ sv then 1 else 0) tp tk9 ts) off ?_ ?_
  · intro t h tk it Post F N ret
    exact turnG_6 (P0 := P0) (P1 := P1) (P2 := P2) (P3 := P3) (P4 := P4) C' K0 d3 d6 hq1 hk1 he1 off P g2 t h tk it F N ret
  clear g2
  intro m g3
  refine range_stepE (GJ lR M A pl 4 sv ((((sv + e4) + e0) + e1) + e2) ((((0 + if (sv + e4) ≤ sv then 1 else 0) + if ((sv + e4) + e0) ≤ sv then 1 else 0) + if (((sv + e4) + e0) + e1) ≤ sv then 1 else 0) + if ((((sv + e4) + e0) + e1) + e2) ≤ sv then 1 else 0) tp tk9 ts) off ?_ ?_
  · intro t h tk it Post F N ret
    exact turnG_7 (P0 := P0) (P1 := P1) (P2 := P2) (P3 := P3) (P4 := P4) C' K0 d3 d6 hq2 hk2 he2 off P g3 t h tk it F N ret
  clear g3
  intro m g4
  refine range_stepE (GJ lR M A pl 4 sv (((((sv + e4) + e0) + e1) + e2) + e3) (((((0 + if (sv + e4) ≤ sv then 1 else 0) + if ((sv + e4) + e0) ≤ sv then 1 else 0) + if (((sv + e4) + e0) + e1) ≤ sv then 1 else 0) + if ((((sv + e4) + e0) + e1) + e2) ≤ sv then 1 else 0) + if (((((sv + e4) + e0) + e1) + e2) + e3) ≤ sv then 1 else 0) tp tk9 ts) off ?_ ?_
  · intro t h tk it Post F N ret
    exact turnG_8 (P0 := P0) (P1 := P1) (P2 := P2) (P3 := P3) (P4 := P4) C' K0 d3 d6 hq3 hk3 he3 off P g4 t h tk it F N ret
  clear g4
  intro m g5
  refine RangeRest.zero ?_
  intro h tk F N
  exact next h tk m F g5 N P

end Mine

-- part P3
namespace Mine
open PySem PySem.W PyProof.Rows PySem.Builtin PySem.Builtin.Str
set_option maxRecDepth 100000

theorem str_ext {x y : Str} (h : x.cps.toList = y.cps.toList) : x = y := by
  cases x with | mk a => cases y with | mk b => exact congrArg Str.mk (Array.toList_inj.mp h)
theorem sl_to {x : Str} {j : Int} (h0 : 0 ≤ j) (h1 : j ≤ x.cps.toList.length) : (Txt.slice x none (some j)).cps.toList = x.cps.toList.take j.toNat := by
  have := eq_of_beq (slice_closes_to (x := x) ⟨h0, h1⟩)
  rw [this]
  simp
theorem sl_mid {x : Str} {i j : Int} (h0 : 0 ≤ i) (h1 : i ≤ j) (h2 : j ≤ x.cps.toList.length) : (Txt.slice x (some i) (some j)).cps.toList = (x.cps.toList.drop i.toNat).take (j - i).toNat := by
  have := eq_of_beq (slice_closes (x := x) ⟨h0, h1, h2⟩)
  rw [this]
theorem sl_from {x : Str} {i : Int} (h0 : 0 ≤ i) (h1 : i ≤ x.cps.toList.length) : (Txt.slice x (some i) none).cps.toList = x.cps.toList.drop i.toNat := by
  have hl : x.cps.toList.length = x.length := Array.length_toList
  rw [slice_from_eq (b := x.length) h0 (by omega) rfl]
  show ((x.cps.toList.drop i.toNat).take ((x.length : Int) - i).toNat) = _
  refine List.take_of_length_le ?_
  rw [List.length_drop]
  omega
theorem sl_last {x : Str} (h : 1 ≤ x.cps.toList.length) : (Txt.slice x none (some (-1))).cps.toList = x.cps.toList.take (x.cps.toList.length - 1) := by
  have hl : x.cps.toList.length = x.length := Array.length_toList
  have e : Txt.slice x none (some (-1)) = Txt.slice x none (some ((x.length : Int) - 1)) := by
    have q : strSliceIndices none (some (-1)) 1 x.length = strSliceIndices none (some ((x.length : Int) - 1)) 1 x.length := by
      unfold strSliceIndices
      have a1 : (-1 : Int) < 0 := by decide
      have a2 : ¬ ((x.length : Int) - 1 < 0) := by omega
      simp only [a1, a2, if_true, if_false]
      rw [show (-1 : Int) + (x.length : Int) = (x.length : Int) - 1 by omega]
    first
    | (unfold Txt.slice; rw [q])
    | (unfold Txt.slice StrLaws.sliceText; rw [q])
    | (show StrLaws.sliceText x none (some (-1)) = StrLaws.sliceText x none (some ((x.length : Int) - 1)); unfold StrLaws.sliceText; rw [q])
  rw [e, sl_to (by omega) (by omega), hl]
  congr 1
  omega

theorem pl_plain {c : Nat} {l : List Nat} (h : c ≠ 34) : pl (c :: l) = c :: pl l := by
  cases l with
  | nil => simp [pl, h]
  | cons y r => simp [pl, h]
theorem pl_two {l : List Nat} : pl (34 :: 34 :: l) = 34 :: pl l := by simp [pl]
theorem pl_end {l : List Nat} (h : l.head? ≠ some 34) : pl (34 :: l) = [] := by
  cases l with
  | nil => simp [pl]
  | cons y r =>
    have : y ≠ 34 := fun e => h (by rw [e]; rfl)
    simp [pl, this]
theorem pl_nil : pl [] = [] := rfl
theorem pl_lab (k : Int) {ch : Nat} (h1 : ch ≠ 34) {X : List Nat} (hX : X.head? ≠ some 34) : pl ((labL k ch).tail ++ X) = nameL k ch := by
  unfold labL nameL
  split
  · simp [pl_plain, pl_end, h1, hX]
  split
  · simp [pl_plain, pl_two, pl_end, h1, hX]
  split
  · simp [pl_plain, pl_end, h1, hX]
  split
  · show pl (ch :: 40 :: 92 :: 34 :: 40 :: 40 :: 34 :: X) = _
    rw [pl_plain h1, pl_plain (by decide), pl_plain (by decide), pl_end (by simp)]
  · simp [pl_plain, pl_end, h1, hX]
theorem pl_cut (k : Int) {ch : Nat} (h1 : ch ≠ 34) : pl ((labL k ch).tail.take ((labL k ch).length - 2)) = nameL k ch := by
  unfold labL nameL
  split
  · simp [pl_plain, pl_nil, h1]
  split
  · simp [pl_plain, pl_two, pl_nil, h1]
  split
  · simp [pl_plain, pl_nil, h1]
  split
  · show pl [ch, 40, 92, 34, 40, 40] = _
    rw [pl_plain h1, pl_plain (by decide), pl_plain (by decide), pl_end (by simp)]
  · simp [pl_plain, pl_nil, h1]
theorem labL_cons (k : Int) (ch : Nat) : labL k ch = 34 :: (labL k ch).tail := by
  unfold labL
  split
  · rfl
  split
  · rfl
  split
  · rfl
  split <;> rfl
theorem labL_len (k : Int) (ch : Nat) : 5 ≤ (labL k ch).length := by
  unfold labL
  split
  · simp
  split
  · simp
  split
  · simp
  split <;> simp
theorem labL_snd (k : Int) {ch : Nat} (h1 : ch ≠ 34) : ∃ c l, (labL k ch).tail = c :: l ∧ c ≠ 34 := by
  unfold labL
  split
  · exact ⟨_, _, rfl, by decide⟩
  split
  · exact ⟨_, _, rfl, h1⟩
  split
  · exact ⟨_, _, rfl, by decide⟩
  split <;> exact ⟨_, _, rfl, h1⟩
theorem runL_head (e : Int) (X : List Nat) : (runL e ++ X).head? ≠ some 34 := by
  unfold runL
  split
  · simp
  · rcases h1 : e.toNat with _ | n
    · rcases h2 : (-e).toNat with _ | n
      · simp
      · simp [List.replicate_succ]
    · simp [List.replicate_succ]

theorem find_none : ∀ {l : List Nat}, (∀ c ∈ l, c ≠ 34) → find l = none
  | [], _ => rfl
  | x :: r, h => by
    have := find_none (l := r) fun c hc => h c (.tail _ hc)
    simp [find, h x (.head _), this]
theorem find_skip {c : Nat} {l : List Nat} (hc : c ≠ 34) (h : find l = none) : find (c :: l) = none := by simp [find, hc, h]
theorem find_open {m : List Nat} (hb : m[body m]? ≠ some 34) (h : find m = none) : find (34 :: m) = none := by simp [find, hb, h]
/-- a label without its last mark: the brackets count -/
theorem cut_key (k : Int) {ch : Nat} (hc : ch = 97 ∨ ch = 98 ∨ ch = 99 ∨ ch = 100 ∨ ch = 101) : ∃ r, Strips ((labL k ch).take ((labL k ch).length - 1)) r ∧ D r = moreI k := by
  unfold labL moreI
  rcases hc with rfl | rfl | rfl | rfl | rfl <;> (
    split
    · exact ⟨_, .stop (by decide), by decide⟩
    split
    · exact ⟨_, Strips.quoted (n := 1) (by decide) (by decide) (.stop (by decide)), by decide⟩
    split
    · exact ⟨_, .stop (by decide), by decide⟩
    split
    · exact ⟨_, .stop (by decide), by decide⟩
    · exact ⟨_, .stop (by decide), by decide⟩)
end Mine

-- part W14
namespace Mine
open PySem PySem.W PySem.Calls PyProof.Rows
set_option Elab.async false
set_option maxRecDepth 100000
set_option maxHeartbeats 8000000

theorem key_nil (t : Tok) : Key (.bytes #[] t) 0 := ⟨#[], t, [], rfl, Nat.zero_le _, strips_nil, rfl⟩
theorem cut_list {k : Int} {c : Str} {ch : Nat} (hc : c.cps = #[ch]) : (Txt.slice (labS k c) none (some (-1))).cps.toList = (labL k ch).take ((labL k ch).length - 1) := by
  have h := labS_list k c ch hc
  have h5 := labL_len k ch
  rw [sl_last (by rw [h]; omega), h]
theorem cut_small {k : Int} {ch : Nat} (h : ch < 128) : ∀ c ∈ (labL k ch).take ((labL k ch).length - 1), c < 128 := fun c hc => (labL_small k h).1 c (List.mem_of_mem_take hc)
theorem key_cut {k : Int} {c : Str} {ch : Nat} (t : Tok) (hc : c.cps = #[ch]) (h : ch = 97 ∨ ch = 98 ∨ ch = 99 ∨ ch = 100 ∨ ch = 101) : Key (.bytes (octs (Txt.slice (labS k c) none (some (-1)))) t) (moreI k) := by
  obtain ⟨r, h1, h2⟩ := cut_key k h
  have hl := cut_list (k := k) hc
  have h8 : ch < 128 := by omega
  refine ⟨_, t, r, rfl, ?_, ?_, h2.symm⟩
  · rw [octs_size hl, List.length_take]
    have := (labL_small k h8).2
    omega
  · rw [octs_list hl (cut_small h8)]
    exact h1
theorem lab_fits {k : Int} {c : Str} {ch : Nat} (hc : c.cps = #[ch]) (h8 : ch < 128) : (labS k c).length ≤ sizeLine := by
  rw [str_len (labS_list k c ch hc), sizeLine_eq]
  have := (labL_small k h8).2
  omega
theorem enc_any {prog : Program} {w : World} {A : Around} {E : Value → Shared → Prop} {s : Shared} {x : Str} {t : Tok} {Q : Value → Shared → Prop} (hx : Ascii x) (hz : x.length ≤ 16777216)
    (h : ∀ t' k', Q (.bytes (octs x) t') { s with toks := k' }) : wpAny (model prog w) A (call (.builtin "str.encode") [.str x t]) Q E s := call_encode hx hz h
theorem cut_ascii {k : Int} {c : Str} {ch : Nat} (hc : c.cps = #[ch]) (h8 : ch < 128) : Ascii (Txt.slice (labS k c) none (some (-1))) := by
  have hl := cut_list (k := k) hc
  intro d hd
  rw [hl] at hd
  exact cut_small h8 d hd
theorem cut_fits {k : Int} {c : Str} {ch : Nat} (hc : c.cps = #[ch]) (h8 : ch < 128) : (Txt.slice (labS k c) none (some (-1))).length ≤ 16777216 := by
  have hl := cut_list (k := k) hc
  rw [str_len hl, List.length_take]
  have := (labL_small k h8).2
  omega

theorem off_W14 : True := by w_top off; trivial


local macro_rules | `(tactic| walk_at "subscriptTail Name Slice ref ref") => `(tactic| (k_here; (with_reducible show wpAny _ _ (subscriptTail _ (PySem.Expr.Slice _ none (some _) _) (Value.ref _) (Value.ref _)) _ _ _); k_dflt (refine' slice_step ?F ?N ?l ?p ?q ?k ?o ?i ?_ ?s ?t ?z; (case F => k_asm); (case N => k_asm); (case l => kmk_list); (case p => kmk_part); (case q => kmk_part); (case k => kmk_part); (case o => decide); (case i => l_ints); (case s => with_unfolding_all rfl); (case t => kmk_pure); (case z => kmk_size)); intro D' ws' h' ms' F' N' l1 hI'; (try k_lt l1); (try k_sweep)))

local macro_rules | `(tactic| walk_at "eval ListComp") => `(tactic| (k_here; k_dflt (refine LCg.ListComp_U (F₀ := by k_asm) (by rfl) (by decide) (by rfl) (by decide) (by rfl) ?_); k_dflt lcg_toSrc))
local macro_rules | `(tactic| walk_at "exec Assign cons ListComp") => `(tactic| (k_here; k_dflt (refine LCg.Assign_ListComp_U (F₀ := by k_asm) (by rfl) (by with_unfolding_all rfl) (by rfl) (by decide) (by rfl) (by decide) (by rfl) (by rfl) (by rfl) ?_); k_dflt lcg_toSrc))
local macro_rules | `(tactic| walk_at "CompSrc") => `(tactic| (k_here; k_dflt (first
  | (refine LCg.CompSrc.ledger (by rfl) (by k_asm) (by k_asm) (by k_mem) (by first | size_fits | exact Nat.le_of_ble_eq_true rfl) ?_; intro g'; lcg_lit)
  | (refine LCg.CompSrc.base (by rfl) (by k_asm) (by k_asm) (by assumption) (by first | size_fits | exact Nat.le_of_ble_eq_true rfl) ?_; intro g'; lcg_lit)
  | (refine LCg.CompSrc.range (by rfl) (by k_asm) (by k_asm) (by assumption) (by first | decide | rfl) (by first | rfl | decide) (by first | size_fits | exact Nat.le_of_ble_eq_true rfl) ?_; intro g'; lcg_lit))))
local macro_rules | `(tactic| walk_at "eval Name") => `(tactic| (k_here; (with_reducible show wpAny _ _ (eval (PySem.Expr.Name _ _) (compEnvC _ _ _ _)) _ _ _); k_dflt (first
  | refine LCgL.ld_own (by k_asm) (by k_mem) (by with_reducible assumption) (by with_reducible assumption) ?_
  | refine lcf_free (by k_asm) (by rfl) (by k_mem) (by with_reducible assumption) ?_
  | refine LCgL.ld_global (by k_asm) (by k_asm) (by k_asm) (by k_is) ?_
  | refine LCgL.ld_built (by k_asm) (by k_asm) (by k_asm) (by k_is) (by boot_by_name) (by decide) ?_)))
local macro_rules | `(tactic| walk_at "mine:go") => `(tactic| (repeat' ((fail_if_success (with_reducible show LCg.CompRest _ _ _ _ _ _ _ _ _ _ _ _ _ _ _ _ _ _ _)); (fail_if_success (with_reducible show RangeRest _ _ _ _ _ _ _ _ _ _ _ _ _ _ _ _ _)); (fail_if_success (with_reducible show wpAny _ _ (execs (_ :: _) _) _ _ _)); first | (k_unfold; (try dsimp only)) | walk1 | (dsimp only; walk1) | (leave1; walk_say "STEP leave1"; (try dsimp only)))))
local macro_rules | `(tactic| walk_at "mine:line") => `(tactic| (walk1; (try ((with_reducible show wpAny _ _ (execs (_ :: _) _) _ _ _); walk1)); walk_at "mine:go"))
local macro_rules | `(tactic| walk_at "mine:sub") => `(tactic| (intro p hp; (repeat (first | exact hp | apply List.mem_cons_of_mem))))

local macro_rules | `(tactic| walk_at "mine:look") => `(tactic| first | assumption | (refine Fr_eq (by assumption) ?_; intro z; first | exact rfl | (simp only [look_cons]; exact rfl) | (simp only [look_cons]; done) | (simp only [look_cons]; split <;> rfl) | (dsimp only; exact rfl)))
local macro_rules | `(tactic| walk_at "mine:led") => `(tactic| (refine news_sub (by assumption) ?_; (try unfold cellsN); lcg_sub))
local macro_rules | `(tactic| walk_at "mine:part") => `(tactic| (refine Apart.sub (by assumption) ?_; (try unfold cellsN); repeat (first | exact List.Sublist.slnil | refine List.Sublist.cons_cons _ ?_ | refine List.Sublist.cons _ ?_)))
local macro_rules | `(tactic| walk_at "mine:at") => `(tactic| first | exact AtIn.head | (refine' AtIn.tail ?b; (case b => walk_at "mine:at")))
local macro_rules | `(tactic| walk_at "storeName") => `(tactic| (k_here; k_dflt (refine' storeA ?F ?N ?P ?c ?U ?d ?_ ?a ?b; (case a => rfl); (case b => rfl); (case F => k_asm); (case N => k_asm); (case P => with_reducible assumption); (case c => rfl); (case U => walk_at "mine:at"); (case d => k_asm); k_whole); intro h' o' F' N' P' d'; (try dsimp only at N' P'); (try k_sweep)))
local macro_rules | `(tactic| walk_at "newList") => `(tactic| (k_here; k_dflt (refine' newList_K ?k1 ?k2 ?_; (case k1 => k_asm); (case k2 => k_asm); k_whole); intro l' h' F' N' l1; have P' := Apart.below N' l1 (by with_reducible assumption); clear l1; (try k_sweep)))
local macro_rules | `(tactic| walk_at "call builtin:list.append") => `(tactic| (k_here; k_dflt (refine' appendA ?F ?N ?P ?U ?_ ?z; (case F => k_asm); (case N => k_asm); (case P => with_reducible assumption); (case U => walk_at "mine:at"); (case z => exact Nat.le_of_ble_eq_true rfl); k_whole); intro h' F' N' P'; (try simp only [List.push_toArray, List.cons_append, List.nil_append] at N' P'); (try k_sweep)))
local macro_rules | `(tactic| walk_at "FinE") => `(tactic| ((unfold LCg.FinE); intro D' h' tk' F' N' o1'; have P' := Apart.cons' N' o1' (by with_reducible assumption); clear o1'; (try simp only [List.nil_append, List.cons_append] at N' P'); (try dsimp only); (try k_sweep)))
local macro_rules | `(tactic| walk_at "FinA") => `(tactic| ((unfold LCg.FinA); intro D' h' tk' F' N' o1'; have P' := Apart.cons' N' o1' (by with_reducible assumption); clear o1'; (try simp only [List.nil_append, List.cons_append] at N' P'); (try dsimp only); (try k_sweep)))


local macro_rules | `(tactic| walk_at "eval Name") => `(tactic| (k_here; (with_reducible show wpAny _ _ (eval (PySem.Expr.Name _ _) (envOfC _ _ _ _ _)) _ _ _); k_dflt (first
  | (refine' nameX_L ?nF ?nv ?_ ?na ?nb; (case na => rfl); (case nb => rfl); (case nF => k_asm); (case nv => assumption); k_whole)
  | (refine' nameX_C ?cN ?cc ?cm ?cd ?_ ?ca ?cb; (case ca => rfl); (case cb => rfl); (case cN => k_asm); (case cc => rfl); (case cm => k_mem); (case cd => k_asm); k_whole)
  | (refine' nameX_K ?kF ?kX ?kT ?ke ?_ ?ka ?kb; (case ka => rfl); (case kb => rfl); (case kF => k_asm); (case kX => k_asm); (case kT => k_asm); (case ke => k_is); k_whole)
  | (refine' nameX_B ?bF ?bX ?bT ?be ?bv ?bn ?_ ?ba ?bb; (case ba => rfl); (case bb => rfl); (case bF => k_asm); (case bX => k_asm); (case bT => k_asm); (case be => k_is); (case bv => boot_fast); (case bn => decide); k_whole))))
local macro_rules | `(tactic| walk_at "loadName") => `(tactic| (k_here; k_dflt (refine' loadX_Lm ?lF ?lv ?_ ?la ?lb; (case la => rfl); (case lb => rfl); (case lF => k_asm); (case lv => assumption); k_whole)))
local macro_rules | `(tactic| walk_at "subscriptTail Name Name ref int") => `(tactic| (k_here; k_dflt (refine' item_listL (l := List.map _ _) ?sl ?s0 ?s1 ?sx ?_ ?ss ?sg; (case sl => exact News.isList (by k_asm) (by k_mem)); (case s0 => assumption); (case s1 => assumption); (case sx => assumption); (case ss => with_unfolding_all rfl); (case sg => kmk_pure); k_whole)))
local macro_rules | `(tactic| walk_at "call ref") => `(tactic| (k_here; (with_reducible show wpAny _ _ (call (Value.ref 44) [_]) _ _ _); k_dflt (refine' depth_at ?i1 ?i2 ?i3 ?i4 ?i5 (depthK _ _ _ ?i6) ?_; (case i1 => assumption); (case i2 => k_asm); (case i3 => assumption); (case i4 => k_asm); (case i5 => assumption); (case i6 => first | assumption | exact (show ∀ t : Tok, Key (Value.bytes _ t) _ by assumption) _)); intro t' h' tk' F' N'; (try k_sweep)))
local macro_rules | `(tactic| walk_at "call ref") => `(tactic| (k_here; (with_reducible show wpAny _ _ (call (Value.ref 44) [_, _]) _ _ _); k_dflt (refine' depth_at ?i1 ?i2 ?i3 ?i4 ?i5 (depthK2 _ _ _ _ _ ?i6) ?_; (case i1 => assumption); (case i2 => k_asm); (case i3 => assumption); (case i4 => k_asm); (case i5 => assumption); (case i6 => first | assumption | exact (show ∀ t : Tok, Key (Value.bytes _ t) _ by assumption) _)); intro t' h' tk' F' N'; (try k_sweep)))

local macro_rules | `(tactic| walk_at "subscriptTail") => `(tactic| (k_here; (with_reducible show wpAny _ _ (subscriptTail _ (PySem.Expr.Slice _ _ _ _) (Value.str _ _) (Value.ref _)) _ _ _); k_dflt (first
  | (refine' slice_strN_ns ?sF ?sN ?_ ?ss ?st ?sz; (case sF => k_asm); (case sN => k_asm); (case ss => with_unfolding_all rfl); (case st => kmk_pure); (case sz => assumption))
  | (refine' slice_strN_sn ?rF ?rN ?_ ?rs ?rt ?rz; (case rF => k_asm); (case rN => k_asm); (case rs => with_unfolding_all rfl); (case rt => kmk_pure); (case rz => assumption))); intro h' t' k' F' N'; (try k_sweep)))
local macro_rules | `(tactic| walk_at "getMethod str") => `(tactic| (k_here; (refine gm_encode ?_)))
local macro_rules | `(tactic| walk_at "ite") => `(tactic| first | with_reducible refine ite_tt ?_ | with_reducible refine ite_ff ?_ | (with_reducible refine split_ine ?_ ?_ <;> intro _))
local macro_rules | `(tactic| walk_at "call builtin:str.encode") => `(tactic| (k_here; k_dflt (refine enc_any (by assumption) (by assumption) ?_); intro t' k'))
theorem segD3c {w : World} {mean : ExcName → Option Value} {mg mb : Str → Option Value} {h₀ : Heap} {L a : Addr} {cd : Value} {s : Shared} {Post : Flow → Shared → Prop} (C : LawCtx w mean mg mb h₀) (K0 : Below callerA h₀ [] h₀) {news : List (Addr × Obj)} {lab : Str} {mr dv : Int} {y1 y3 y5 : Tok} (hcut : ∀ t, Key (.bytes (octs (Txt.slice lab none (some (-1)))) t) mr) (hfit : lab.length ≤ sizeLine) (hasc : Ascii (Txt.slice lab none (some (-1)))) (hln : (Txt.slice lab none (some (-1))).length ≤ 16777216)
    {h : Heap} {tk : Nat} {m : Str → Option Value} (F : Fr h₀ L h m) (m5 : m (Str.ofString "label") = some (.str lab y1)) (m6 : m (Str.ofString "depth") = some (.int dv y5)) (m7 : m (Str.ofString "more") = some (.int mr y3)) (N : News h₀ L h news)
    {G : (Str → Option Value) → Prop} (next : GoesM w h₀ L a cd (pBody.drop 10) Post s G news) (hG : G m) (P : Apart news) :
    wpAny (model Challenge.rw_wy0015_01.row.prog w) (callerA.deeper (lawEnv L a cd)) (execs (pBody.drop 9) (lawEnv L a cd)) Post (fun _ _ => False) { s with heap := h, toks := tk } := by
  have hnil := key_nil
  unfold GoesM at next
  conv at next in (execs _ _) => arg 1; whnf
  obtain ⟨KX, X, V, GL, T, BT, TE, TW⟩ := C
  revert KX
  k_fill
  intro KX
  conv in (execs _ _) => arg 1; whnf
  walk_at "mine:line"
  all_goals try (exfalso; omega)
  with_reducible refine next _ _ _ (by assumption) hG (by assumption) P

theorem segD3a_0 {w : World} {mean : ExcName → Option Value} {mg mb : Str → Option Value} {h₀ : Heap} {L a : Addr} {cd : Value} {s : Shared} {Post : Flow → Shared → Prop} {A M J H B T0 T1 T2 T3 T4 lR I9 : Addr} {o9 o1 o2 o3 o4 o5 o6 p0 p1 p2 p3 p4 : Obj}
    (C : LawCtx w mean mg mb h₀) (K0 : Below callerA h₀ [] h₀) {c0 c1 c2 c3 e0 e1 e2 e3 e4 pl : Int} {t0 t1 t2 t3 u0 u1 u2 u3 u4 w0 w1 w2 w3 w4 x0 x1 x2 x3 x4 tp : Tok} {ep er : Nat} {q0 q1 q2 q3 q4 f0 f1 f2 f3 f4 : Str} {P0 : Pc} {P1 : Pc} {P2 : Pc} {P3 : Pc} {P4 : Pc} {rowl : List (Int × Value)} {sv kk dv lw : Int} {tk9 ts : Tok}
    (d5 : o5.data = .cell (some (.ref H))) (hp : IsPartO kk "a" p0) (hlow : lw = pl) {h : Heap} {tk : Nat} {m : Str → Option Value} (F : Fr h₀ L h m) (ok : GJ lR M A pl 0 sv dv lw tp tk9 ts m) (N : News h₀ L h ((I9, o9) :: (lR, listOf (rowl.map (·.2)).toArray er) :: (M, LCg.lst [.bytes (octs f0) x0, .bytes (octs f1) x1, .bytes (octs f2) x2, .bytes (octs f3) x3, .bytes (octs f4) x4]) :: (J, LCg.lst [.str q0 w0, .str q1 w1, .str q2 w2, .str q3 w3, .str q4 w4]) :: (H, LCg.lst [.ref T0, .ref T1, .ref T2, .ref T3, .ref T4]) :: (T4, p4) :: (T3, p3) :: (T2, p2) :: (T1, p1) :: (T0, p0) :: (B, listOf #[.int e0 u0, .int e1 u1, .int e2 u2, .int e3 u3, .int e4 u4] ep) :: (A, LCg.lst [.int c0 t0, .int c1 t1, .int c2 t2, .int c3 t3]) :: cellsN L o1 o2 o3 o4 o5 o6)) (P : Apart ((I9, o9) :: (lR, listOf (rowl.map (·.2)).toArray er) :: (M, LCg.lst [.bytes (octs f0) x0, .bytes (octs f1) x1, .bytes (octs f2) x2, .bytes (octs f3) x3, .bytes (octs f4) x4]) :: (J, LCg.lst [.str q0 w0, .str q1 w1, .str q2 w2, .str q3 w3, .str q4 w4]) :: (H, LCg.lst [.ref T0, .ref T1, .ref T2, .ref T3, .ref T4]) :: (T4, p4) :: (T3, p3) :: (T2, p2) :: (T1, p1) :: (T0, p0) :: (B, listOf #[.int e0 u0, .int e1 u1, .int e2 u2, .int e3 u3, .int e4 u4] ep) :: (A, LCg.lst [.int c0 t0, .int c1 t1, .int c2 t2, .int c3 t3]) :: cellsN L o1 o2 o3 o4 o5 o6))
    (ret : ∀ y1 y2 y3, ∀ h' tk' m', Fr h₀ L h' m' → (GJ lR M A pl 0 sv dv lw tp tk9 ts m' ∧ m' (Str.ofString "label") = some (.str (labS kk (Str.ofString "a")) y1) ∧ m' (Str.ofString "name") = some (.str (nameS kk (Str.ofString "a")) y2) ∧ m' (Str.ofString "more") = some (.int (moreI kk) y3)) → News h₀ L h' ((I9, o9) :: (lR, listOf (rowl.map (·.2)).toArray er) :: (M, LCg.lst [.bytes (octs f0) x0, .bytes (octs f1) x1, .bytes (octs f2) x2, .bytes (octs f3) x3, .bytes (octs f4) x4]) :: (J, LCg.lst [.str q0 w0, .str q1 w1, .str q2 w2, .str q3 w3, .str q4 w4]) :: (H, LCg.lst [.ref T0, .ref T1, .ref T2, .ref T3, .ref T4]) :: (T4, p4) :: (T3, p3) :: (T2, p2) :: (T1, p1) :: (T0, p0) :: (B, listOf #[.int e0 u0, .int e1 u1, .int e2 u2, .int e3 u3, .int e4 u4] ep) :: (A, LCg.lst [.int c0 t0, .int c1 t1, .int c2 t2, .int c3 t3]) :: cellsN L o1 o2 o3 o4 o5 o6) → wpAny (model Challenge.rw_wy0015_01.row.prog w) (callerA.deeper (lawEnv L a cd)) (execs (pBody.drop 9) (lawEnv L a cd)) Post (fun _ _ => False) { s with heap := h', toks := tk' }) :
    wpAny (model Challenge.rw_wy0015_01.row.prog w) (callerA.deeper (lawEnv L a cd)) (execs (pBody.drop 7) (lawEnv L a cd)) Post (fun _ _ => False) { s with heap := h, toks := tk } := by
  obtain ⟨y1, y2, y3, hp⟩ := hp
  have ret' := ret y1 y2 y3
  clear ret
  conv at ret' in (execs _ _) => arg 1; whnf
  subst hp
  obtain ⟨KX, X, V, GL, T, BT, TE, TW⟩ := C
  revert KX
  k_fill
  intro KX
  unfold cellsN at N P
  conv in (execs _ _) => arg 1; whnf
  obtain ⟨⟨m1, m2, m3, m4⟩, m5, m6, ⟨a7, m7⟩, ⟨a8, m8⟩, a9, m9⟩ := ok
  walk_at "mine:line"
  · exact absurd hlow (by assumption)
  walk_at "mine:line"
  with_reducible refine ret' _ _ _ (by assumption) ?M3 ?N3
  case M3 =>
    refine ⟨⟨⟨m1, m2, m3, m4⟩, m5, m6, ⟨a7, m7⟩, ⟨a8, m8⟩, a9, m9⟩, ?_, ?_, ?_⟩
    · rfl
    · rfl
    · rfl
  case N3 => walk_at "mine:led"

theorem segD3_0 {w : World} {mean : ExcName → Option Value} {mg mb : Str → Option Value} {h₀ : Heap} {L a : Addr} {cd : Value} {s : Shared} {Post : Flow → Shared → Prop} {A M J H B T0 T1 T2 T3 T4 lR I9 : Addr} {o9 o1 o2 o3 o4 o5 o6 p0 p1 p2 p3 p4 : Obj}
    (C : LawCtx w mean mg mb h₀) (K0 : Below callerA h₀ [] h₀) {c0 c1 c2 c3 e0 e1 e2 e3 e4 pl : Int} {t0 t1 t2 t3 u0 u1 u2 u3 u4 w0 w1 w2 w3 w4 x0 x1 x2 x3 x4 tp : Tok} {ep er : Nat} {q0 q1 q2 q3 q4 f0 f1 f2 f3 f4 : Str} {P0 : Pc} {P1 : Pc} {P2 : Pc} {P3 : Pc} {P4 : Pc} {rowl : List (Int × Value)} {sv kk : Int} {tk9 ts : Tok}
    (d5 : o5.data = .cell (some (.ref H))) (hp : IsPartO kk "a" p0) (hlow : (((((0 + if (sv + e0) ≤ sv then 1 else 0) + if ((sv + e0) + e1) ≤ sv then 1 else 0) + if (((sv + e0) + e1) + e2) ≤ sv then 1 else 0) + if ((((sv + e0) + e1) + e2) + e3) ≤ sv then 1 else 0) + if (((((sv + e0) + e1) + e2) + e3) + e4) ≤ sv then 1 else 0) = pl)
    (next : ∀ y1 y2 y3, GoesM w h₀ L a cd (pBody.drop 10) Post s (fun m => ((m (Str.ofString "row") = some (.ref lR) ∧ m (Str.ofString "fronts") = some (.ref M) ∧ m (Str.ofString "cells") = some (.ref A) ∧ m (Str.ofString "place") = some (.int pl tp)) ∧ m (Str.ofString "k") = some (.int 0 tk9) ∧ m (Str.ofString "start") = some (.int sv ts) ∧ (∃ t, m (Str.ofString "depth") = some (.int (((((sv + e0) + e1) + e2) + e3) + e4) t)) ∧ (∃ t, m (Str.ofString "due") = some (.int (((((sv + e0) + e1) + e2) + e3) + e4) t)) ∧ (∃ t, m (Str.ofString "low") = some (.int (((((0 + if (sv + e0) ≤ sv then 1 else 0) + if ((sv + e0) + e1) ≤ sv then 1 else 0) + if (((sv + e0) + e1) + e2) ≤ sv then 1 else 0) + if ((((sv + e0) + e1) + e2) + e3) ≤ sv then 1 else 0) + if (((((sv + e0) + e1) + e2) + e3) + e4) ≤ sv then 1 else 0) t))) ∧ m (Str.ofString "label") = some (.str (labS kk (Str.ofString "a")) y1) ∧ m (Str.ofString "name") = some (.str (nameS kk (Str.ofString "a")) y2) ∧ m (Str.ofString "more") = some (.int (moreI kk) y3)) ((I9, o9) :: (lR, listOf (rowl.map (·.2)).toArray er) :: (M, LCg.lst [.bytes (octs f0) x0, .bytes (octs f1) x1, .bytes (octs f2) x2, .bytes (octs f3) x3, .bytes (octs f4) x4]) :: (J, LCg.lst [.str q0 w0, .str q1 w1, .str q2 w2, .str q3 w3, .str q4 w4]) :: (H, LCg.lst [.ref T0, .ref T1, .ref T2, .ref T3, .ref T4]) :: (T4, p4) :: (T3, p3) :: (T2, p2) :: (T1, p1) :: (T0, p0) :: (B, listOf #[.int e0 u0, .int e1 u1, .int e2 u2, .int e3 u3, .int e4 u4] ep) :: (A, LCg.lst [.int c0 t0, .int c1 t1, .int c2 t2, .int c3 t3]) :: cellsN L o1 o2 o3 o4 o5 o6)) :
    GoesM w h₀ L a cd (pBody.drop 7) Post s (fun m => (m (Str.ofString "row") = some (.ref lR) ∧ m (Str.ofString "fronts") = some (.ref M) ∧ m (Str.ofString "cells") = some (.ref A) ∧ m (Str.ofString "place") = some (.int pl tp)) ∧ m (Str.ofString "k") = some (.int 0 tk9) ∧ m (Str.ofString "start") = some (.int sv ts) ∧ (∃ t, m (Str.ofString "depth") = some (.int (((((sv + e0) + e1) + e2) + e3) + e4) t)) ∧ (∃ t, m (Str.ofString "due") = some (.int (((((sv + e0) + e1) + e2) + e3) + e4) t)) ∧ (∃ t, m (Str.ofString "low") = some (.int (((((0 + if (sv + e0) ≤ sv then 1 else 0) + if ((sv + e0) + e1) ≤ sv then 1 else 0) + if (((sv + e0) + e1) + e2) ≤ sv then 1 else 0) + if ((((sv + e0) + e1) + e2) + e3) ≤ sv then 1 else 0) + if (((((sv + e0) + e1) + e2) + e3) + e4) ≤ sv then 1 else 0) t))) ((I9, o9) :: (lR, listOf (rowl.map (·.2)).toArray er) :: (M, LCg.lst [.bytes (octs f0) x0, .bytes (octs f1) x1, .bytes (octs f2) x2, .bytes (octs f3) x3, .bytes (octs f4) x4]) :: (J, LCg.lst [.str q0 w0, .str q1 w1, .str q2 w2, .str q3 w3, .str q4 w4]) :: (H, LCg.lst [.ref T0, .ref T1, .ref T2, .ref T3, .ref T4]) :: (T4, p4) :: (T3, p3) :: (T2, p2) :: (T1, p1) :: (T0, p0) :: (B, listOf #[.int e0 u0, .int e1 u1, .int e2 u2, .int e3 u3, .int e4 u4] ep) :: (A, LCg.lst [.int c0 t0, .int c1 t1, .int c2 t2, .int c3 t3]) :: cellsN L o1 o2 o3 o4 o5 o6) := by
  intro h tk m F ok N P
  refine segD3a_0 (P0 := P0) (P1 := P1) (P2 := P2) (P3 := P3) (P4 := P4) C K0 d5 hp hlow F ok N P ?_
  intro y1 y2 y3 h' tk' m' F' ok' N'
  have ok'' := ok'
  obtain ⟨⟨-, -, -, ⟨y5, e5⟩, -⟩, e1, -, e3⟩ := ok''
  refine' segD3c C K0 (fun t => key_cut (k := kk) (c := Str.ofString "a") (ch := 97) t rfl (by decide)) (lab_fits (ch := 97) rfl (by decide)) (cut_ascii (ch := 97) rfl (by decide)) (cut_fits (ch := 97) rfl (by decide)) F' e1 e5 e3 N' ?n ?o P
  case n => with_reducible exact next y1 y2 y3
  case o => exact ok'

theorem segD3a_1 {w : World} {mean : ExcName → Option Value} {mg mb : Str → Option Value} {h₀ : Heap} {L a : Addr} {cd : Value} {s : Shared} {Post : Flow → Shared → Prop} {A M J H B T0 T1 T2 T3 T4 lR I9 : Addr} {o9 o1 o2 o3 o4 o5 o6 p0 p1 p2 p3 p4 : Obj}
    (C : LawCtx w mean mg mb h₀) (K0 : Below callerA h₀ [] h₀) {c0 c1 c2 c3 e0 e1 e2 e3 e4 pl : Int} {t0 t1 t2 t3 u0 u1 u2 u3 u4 w0 w1 w2 w3 w4 x0 x1 x2 x3 x4 tp : Tok} {ep er : Nat} {q0 q1 q2 q3 q4 f0 f1 f2 f3 f4 : Str} {P0 : Pc} {P1 : Pc} {P2 : Pc} {P3 : Pc} {P4 : Pc} {rowl : List (Int × Value)} {sv kk dv lw : Int} {tk9 ts : Tok}
    (d5 : o5.data = .cell (some (.ref H))) (hp : IsPartO kk "b" p1) (hlow : lw = pl) {h : Heap} {tk : Nat} {m : Str → Option Value} (F : Fr h₀ L h m) (ok : GJ lR M A pl 1 sv dv lw tp tk9 ts m) (N : News h₀ L h ((I9, o9) :: (lR, listOf (rowl.map (·.2)).toArray er) :: (M, LCg.lst [.bytes (octs f0) x0, .bytes (octs f1) x1, .bytes (octs f2) x2, .bytes (octs f3) x3, .bytes (octs f4) x4]) :: (J, LCg.lst [.str q0 w0, .str q1 w1, .str q2 w2, .str q3 w3, .str q4 w4]) :: (H, LCg.lst [.ref T0, .ref T1, .ref T2, .ref T3, .ref T4]) :: (T4, p4) :: (T3, p3) :: (T2, p2) :: (T1, p1) :: (T0, p0) :: (B, listOf #[.int e0 u0, .int e1 u1, .int e2 u2, .int e3 u3, .int e4 u4] ep) :: (A, LCg.lst [.int c0 t0, .int c1 t1, .int c2 t2, .int c3 t3]) :: cellsN L o1 o2 o3 o4 o5 o6)) (P : Apart ((I9, o9) :: (lR, listOf (rowl.map (·.2)).toArray er) :: (M, LCg.lst [.bytes (octs f0) x0, .bytes (octs f1) x1, .bytes (octs f2) x2, .bytes (octs f3) x3, .bytes (octs f4) x4]) :: (J, LCg.lst [.str q0 w0, .str q1 w1, .str q2 w2, .str q3 w3, .str q4 w4]) :: (H, LCg.lst [.ref T0, .ref T1, .ref T2, .ref T3, .ref T4]) :: (T4, p4) :: (T3, p3) :: (T2, p2) :: (T1, p1) :: (T0, p0) :: (B, listOf #[.int e0 u0, .int e1 u1, .int e2 u2, .int e3 u3, .int e4 u4] ep) :: (A, LCg.lst [.int c0 t0, .int c1 t1, .int c2 t2, .int c3 t3]) :: cellsN L o1 o2 o3 o4 o5 o6))
    (ret : ∀ y1 y2 y3, ∀ h' tk' m', Fr h₀ L h' m' → (GJ lR M A pl 1 sv dv lw tp tk9 ts m' ∧ m' (Str.ofString "label") = some (.str (labS kk (Str.ofString "b")) y1) ∧ m' (Str.ofString "name") = some (.str (nameS kk (Str.ofString "b")) y2) ∧ m' (Str.ofString "more") = some (.int (moreI kk) y3)) → News h₀ L h' ((I9, o9) :: (lR, listOf (rowl.map (·.2)).toArray er) :: (M, LCg.lst [.bytes (octs f0) x0, .bytes (octs f1) x1, .bytes (octs f2) x2, .bytes (octs f3) x3, .bytes (octs f4) x4]) :: (J, LCg.lst [.str q0 w0, .str q1 w1, .str q2 w2, .str q3 w3, .str q4 w4]) :: (H, LCg.lst [.ref T0, .ref T1, .ref T2, .ref T3, .ref T4]) :: (T4, p4) :: (T3, p3) :: (T2, p2) :: (T1, p1) :: (T0, p0) :: (B, listOf #[.int e0 u0, .int e1 u1, .int e2 u2, .int e3 u3, .int e4 u4] ep) :: (A, LCg.lst [.int c0 t0, .int c1 t1, .int c2 t2, .int c3 t3]) :: cellsN L o1 o2 o3 o4 o5 o6) → wpAny (model Challenge.rw_wy0015_01.row.prog w) (callerA.deeper (lawEnv L a cd)) (execs (pBody.drop 9) (lawEnv L a cd)) Post (fun _ _ => False) { s with heap := h', toks := tk' }) :
    wpAny (model Challenge.rw_wy0015_01.row.prog w) (callerA.deeper (lawEnv L a cd)) (execs (pBody.drop 7) (lawEnv L a cd)) Post (fun _ _ => False) { s with heap := h, toks := tk } := by
  obtain ⟨y1, y2, y3, hp⟩ := hp
  have ret' := ret y1 y2 y3
  clear ret
  conv at ret' in (execs _ _) => arg 1; whnf
  subst hp
  obtain ⟨KX, X, V, GL, T, BT, TE, TW⟩ := C
  revert KX
  k_fill
  intro KX
  unfold cellsN at N P
  conv in (execs _ _) => arg 1; whnf
  obtain ⟨⟨m1, m2, m3, m4⟩, m5, m6, ⟨a7, m7⟩, ⟨a8, m8⟩, a9, m9⟩ := ok
  walk_at "mine:line"
  · exact absurd hlow (by assumption)
  walk_at "mine:line"
  with_reducible refine ret' _ _ _ (by assumption) ?M3 ?N3
  case M3 =>
    refine ⟨⟨⟨m1, m2, m3, m4⟩, m5, m6, ⟨a7, m7⟩, ⟨a8, m8⟩, a9, m9⟩, ?_, ?_, ?_⟩
    · rfl
    · rfl
    · rfl
  case N3 => walk_at "mine:led"

theorem segD3_1 {w : World} {mean : ExcName → Option Value} {mg mb : Str → Option Value} {h₀ : Heap} {L a : Addr} {cd : Value} {s : Shared} {Post : Flow → Shared → Prop} {A M J H B T0 T1 T2 T3 T4 lR I9 : Addr} {o9 o1 o2 o3 o4 o5 o6 p0 p1 p2 p3 p4 : Obj}
    (C : LawCtx w mean mg mb h₀) (K0 : Below callerA h₀ [] h₀) {c0 c1 c2 c3 e0 e1 e2 e3 e4 pl : Int} {t0 t1 t2 t3 u0 u1 u2 u3 u4 w0 w1 w2 w3 w4 x0 x1 x2 x3 x4 tp : Tok} {ep er : Nat} {q0 q1 q2 q3 q4 f0 f1 f2 f3 f4 : Str} {P0 : Pc} {P1 : Pc} {P2 : Pc} {P3 : Pc} {P4 : Pc} {rowl : List (Int × Value)} {sv kk : Int} {tk9 ts : Tok}
    (d5 : o5.data = .cell (some (.ref H))) (hp : IsPartO kk "b" p1) (hlow : (((((0 + if (sv + e1) ≤ sv then 1 else 0) + if ((sv + e1) + e2) ≤ sv then 1 else 0) + if (((sv + e1) + e2) + e3) ≤ sv then 1 else 0) + if ((((sv + e1) + e2) + e3) + e4) ≤ sv then 1 else 0) + if (((((sv + e1) + e2) + e3) + e4) + e0) ≤ sv then 1 else 0) = pl)
    (next : ∀ y1 y2 y3, GoesM w h₀ L a cd (pBody.drop 10) Post s (fun m => ((m (Str.ofString "row") = some (.ref lR) ∧ m (Str.ofString "fronts") = some (.ref M) ∧ m (Str.ofString "cells") = some (.ref A) ∧ m (Str.ofString "place") = some (.int pl tp)) ∧ m (Str.ofString "k") = some (.int 1 tk9) ∧ m (Str.ofString "start") = some (.int sv ts) ∧ (∃ t, m (Str.ofString "depth") = some (.int (((((sv + e1) + e2) + e3) + e4) + e0) t)) ∧ (∃ t, m (Str.ofString "due") = some (.int (((((sv + e1) + e2) + e3) + e4) + e0) t)) ∧ (∃ t, m (Str.ofString "low") = some (.int (((((0 + if (sv + e1) ≤ sv then 1 else 0) + if ((sv + e1) + e2) ≤ sv then 1 else 0) + if (((sv + e1) + e2) + e3) ≤ sv then 1 else 0) + if ((((sv + e1) + e2) + e3) + e4) ≤ sv then 1 else 0) + if (((((sv + e1) + e2) + e3) + e4) + e0) ≤ sv then 1 else 0) t))) ∧ m (Str.ofString "label") = some (.str (labS kk (Str.ofString "b")) y1) ∧ m (Str.ofString "name") = some (.str (nameS kk (Str.ofString "b")) y2) ∧ m (Str.ofString "more") = some (.int (moreI kk) y3)) ((I9, o9) :: (lR, listOf (rowl.map (·.2)).toArray er) :: (M, LCg.lst [.bytes (octs f0) x0, .bytes (octs f1) x1, .bytes (octs f2) x2, .bytes (octs f3) x3, .bytes (octs f4) x4]) :: (J, LCg.lst [.str q0 w0, .str q1 w1, .str q2 w2, .str q3 w3, .str q4 w4]) :: (H, LCg.lst [.ref T0, .ref T1, .ref T2, .ref T3, .ref T4]) :: (T4, p4) :: (T3, p3) :: (T2, p2) :: (T1, p1) :: (T0, p0) :: (B, listOf #[.int e0 u0, .int e1 u1, .int e2 u2, .int e3 u3, .int e4 u4] ep) :: (A, LCg.lst [.int c0 t0, .int c1 t1, .int c2 t2, .int c3 t3]) :: cellsN L o1 o2 o3 o4 o5 o6)) :
    GoesM w h₀ L a cd (pBody.drop 7) Post s (fun m => (m (Str.ofString "row") = some (.ref lR) ∧ m (Str.ofString "fronts") = some (.ref M) ∧ m (Str.ofString "cells") = some (.ref A) ∧ m (Str.ofString "place") = some (.int pl tp)) ∧ m (Str.ofString "k") = some (.int 1 tk9) ∧ m (Str.ofString "start") = some (.int sv ts) ∧ (∃ t, m (Str.ofString "depth") = some (.int (((((sv + e1) + e2) + e3) + e4) + e0) t)) ∧ (∃ t, m (Str.ofString "due") = some (.int (((((sv + e1) + e2) + e3) + e4) + e0) t)) ∧ (∃ t, m (Str.ofString "low") = some (.int (((((0 + if (sv + e1) ≤ sv then 1 else 0) + if ((sv + e1) + e2) ≤ sv then 1 else 0) + if (((sv + e1) + e2) + e3) ≤ sv then 1 else 0) + if ((((sv + e1) + e2) + e3) + e4) ≤ sv then 1 else 0) + if (((((sv + e1) + e2) + e3) + e4) + e0) ≤ sv then 1 else 0) t))) ((I9, o9) :: (lR, listOf (rowl.map (·.2)).toArray er) :: (M, LCg.lst [.bytes (octs f0) x0, .bytes (octs f1) x1, .bytes (octs f2) x2, .bytes (octs f3) x3, .bytes (octs f4) x4]) :: (J, LCg.lst [.str q0 w0, .str q1 w1, .str q2 w2, .str q3 w3, .str q4 w4]) :: (H, LCg.lst [.ref T0, .ref T1, .ref T2, .ref T3, .ref T4]) :: (T4, p4) :: (T3, p3) :: (T2, p2) :: (T1, p1) :: (T0, p0) :: (B, listOf #[.int e0 u0, .int e1 u1, .int e2 u2, .int e3 u3, .int e4 u4] ep) :: (A, LCg.lst [.int c0 t0, .int c1 t1, .int c2 t2, .int c3 t3]) :: cellsN L o1 o2 o3 o4 o5 o6) := by
  intro h tk m F ok N P
  refine segD3a_1 (P0 := P0) (P1 := P1) (P2 := P2) (P3 := P3) (P4 := P4) C K0 d5 hp hlow F ok N P ?_
  intro y1 y2 y3 h' tk' m' F' ok' N'
  have ok'' := ok'
  obtain ⟨⟨-, -, -, ⟨y5, e5⟩, -⟩, e1, -, e3⟩ := ok''
  refine' segD3c C K0 (fun t => key_cut (k := kk) (c := Str.ofString "b") (ch := 98) t rfl (by decide)) (lab_fits (ch := 98) rfl (by decide)) (cut_ascii (ch := 98) rfl (by decide)) (cut_fits (ch := 98) rfl (by decide)) F' e1 e5 e3 N' ?n ?o P
  case n => with_reducible exact next y1 y2 y3
  case o => exact ok'

theorem segD3a_2 {w : World} {mean : ExcName → Option Value} {mg mb : Str → Option Value} {h₀ : Heap} {L a : Addr} {cd : Value} {s : Shared} {Post : Flow → Shared → Prop} {A M J H B T0 T1 T2 T3 T4 lR I9 : Addr} {o9 o1 o2 o3 o4 o5 o6 p0 p1 p2 p3 p4 : Obj}
    (C : LawCtx w mean mg mb h₀) (K0 : Below callerA h₀ [] h₀) {c0 c1 c2 c3 e0 e1 e2 e3 e4 pl : Int} {t0 t1 t2 t3 u0 u1 u2 u3 u4 w0 w1 w2 w3 w4 x0 x1 x2 x3 x4 tp : Tok} {ep er : Nat} {q0 q1 q2 q3 q4 f0 f1 f2 f3 f4 : Str} {P0 : Pc} {P1 : Pc} {P2 : Pc} {P3 : Pc} {P4 : Pc} {rowl : List (Int × Value)} {sv kk dv lw : Int} {tk9 ts : Tok}
    (d5 : o5.data = .cell (some (.ref H))) (hp : IsPartO kk "c" p2) (hlow : lw = pl) {h : Heap} {tk : Nat} {m : Str → Option Value} (F : Fr h₀ L h m) (ok : GJ lR M A pl 2 sv dv lw tp tk9 ts m) (N : News h₀ L h ((I9, o9) :: (lR, listOf (rowl.map (·.2)).toArray er) :: (M, LCg.lst [.bytes (octs f0) x0, .bytes (octs f1) x1, .bytes (octs f2) x2, .bytes (octs f3) x3, .bytes (octs f4) x4]) :: (J, LCg.lst [.str q0 w0, .str q1 w1, .str q2 w2, .str q3 w3, .str q4 w4]) :: (H, LCg.lst [.ref T0, .ref T1, .ref T2, .ref T3, .ref T4]) :: (T4, p4) :: (T3, p3) :: (T2, p2) :: (T1, p1) :: (T0, p0) :: (B, listOf #[.int e0 u0, .int e1 u1, .int e2 u2, .int e3 u3, .int e4 u4] ep) :: (A, LCg.lst [.int c0 t0, .int c1 t1, .int c2 t2, .int c3 t3]) :: cellsN L o1 o2 o3 o4 o5 o6)) (P : Apart ((I9, o9) :: (lR, listOf (rowl.map (·.2)).toArray er) :: (M, LCg.lst [.bytes (octs f0) x0, .bytes (octs f1) x1, .bytes (octs f2) x2, .bytes (octs f3) x3, .bytes (octs f4) x4]) :: (J, LCg.lst [.str q0 w0, .str q1 w1, .str q2 w2, .str q3 w3, .str q4 w4]) :: (H, LCg.lst [.ref T0, .ref T1, .ref T2, .ref T3, .ref T4]) :: (T4, p4) :: (T3, p3) :: (T2, p2) :: (T1, p1) :: (T0, p0) :: (B, listOf #[.int e0 u0, .int e1 u1, .int e2 u2, .int e3 u3, .int e4 u4] ep) :: (A, LCg.lst [.int c0 t0, .int c1 t1, .int c2 t2, .int c3 t3]) :: cellsN L o1 o2 o3 o4 o5 o6))
    (ret : ∀ y1 y2 y3, ∀ h' tk' m', Fr h₀ L h' m' → (GJ lR M A pl 2 sv dv lw tp tk9 ts m' ∧ m' (Str.ofString "label") = some (.str (labS kk (Str.ofString "c")) y1) ∧ m' (Str.ofString "name") = some (.str (nameS kk (Str.ofString "c")) y2) ∧ m' (Str.ofString "more") = some (.int (moreI kk) y3)) → News h₀ L h' ((I9, o9) :: (lR, listOf (rowl.map (·.2)).toArray er) :: (M, LCg.lst [.bytes (octs f0) x0, .bytes (octs f1) x1, .bytes (octs f2) x2, .bytes (octs f3) x3, .bytes (octs f4) x4]) :: (J, LCg.lst [.str q0 w0, .str q1 w1, .str q2 w2, .str q3 w3, .str q4 w4]) :: (H, LCg.lst [.ref T0, .ref T1, .ref T2, .ref T3, .ref T4]) :: (T4, p4) :: (T3, p3) :: (T2, p2) :: (T1, p1) :: (T0, p0) :: (B, listOf #[.int e0 u0, .int e1 u1, .int e2 u2, .int e3 u3, .int e4 u4] ep) :: (A, LCg.lst [.int c0 t0, .int c1 t1, .int c2 t2, .int c3 t3]) :: cellsN L o1 o2 o3 o4 o5 o6) → wpAny (model Challenge.rw_wy0015_01.row.prog w) (callerA.deeper (lawEnv L a cd)) (execs (pBody.drop 9) (lawEnv L a cd)) Post (fun _ _ => False) { s with heap := h', toks := tk' }) :
    wpAny (model Challenge.rw_wy0015_01.row.prog w) (callerA.deeper (lawEnv L a cd)) (execs (pBody.drop 7) (lawEnv L a cd)) Post (fun _ _ => False) { s with heap := h, toks := tk } := by
  obtain ⟨y1, y2, y3, hp⟩ := hp
  have ret' := ret y1 y2 y3
  clear ret
  conv at ret' in (execs _ _) => arg 1; whnf
  subst hp
  obtain ⟨KX, X, V, GL, T, BT, TE, TW⟩ := C
  revert KX
  k_fill
  intro KX
  unfold cellsN at N P
  conv in (execs _ _) => arg 1; whnf
  obtain ⟨⟨m1, m2, m3, m4⟩, m5, m6, ⟨a7, m7⟩, ⟨a8, m8⟩, a9, m9⟩ := ok
  walk_at "mine:line"
  · exact absurd hlow (by assumption)
  walk_at "mine:line"
  with_reducible refine ret' _ _ _ (by assumption) ?M3 ?N3
  case M3 =>
    refine ⟨⟨⟨m1, m2, m3, m4⟩, m5, m6, ⟨a7, m7⟩, ⟨a8, m8⟩, a9, m9⟩, ?_, ?_, ?_⟩
    · rfl
    · rfl
    · rfl
  case N3 => walk_at "mine:led"

theorem segD3_2 {w : World} {mean : ExcName → Option Value} {mg mb : Str → Option Value} {h₀ : Heap} {L a : Addr} {cd : Value} {s : Shared} {Post : Flow → Shared → Prop} {A M J H B T0 T1 T2 T3 T4 lR I9 : Addr} {o9 o1 o2 o3 o4 o5 o6 p0 p1 p2 p3 p4 : Obj}
    (C : LawCtx w mean mg mb h₀) (K0 : Below callerA h₀ [] h₀) {c0 c1 c2 c3 e0 e1 e2 e3 e4 pl : Int} {t0 t1 t2 t3 u0 u1 u2 u3 u4 w0 w1 w2 w3 w4 x0 x1 x2 x3 x4 tp : Tok} {ep er : Nat} {q0 q1 q2 q3 q4 f0 f1 f2 f3 f4 : Str} {P0 : Pc} {P1 : Pc} {P2 : Pc} {P3 : Pc} {P4 : Pc} {rowl : List (Int × Value)} {sv kk : Int} {tk9 ts : Tok}
    (d5 : o5.data = .cell (some (.ref H))) (hp : IsPartO kk "c" p2) (hlow : (((((0 + if (sv + e2) ≤ sv then 1 else 0) + if ((sv + e2) + e3) ≤ sv then 1 else 0) + if (((sv + e2) + e3) + e4) ≤ sv then 1 else 0) + if ((((sv + e2) + e3) + e4) + e0) ≤ sv then 1 else 0) + if (((((sv + e2) + e3) + e4) + e0) + e1) ≤ sv then 1 else 0) = pl)
    (next : ∀ y1 y2 y3, GoesM w h₀ L a cd (pBody.drop 10) Post s (fun m => ((m (Str.ofString "row") = some (.ref lR) ∧ m (Str.ofString "fronts") = some (.ref M) ∧ m (Str.ofString "cells") = some (.ref A) ∧ m (Str.ofString "place") = some (.int pl tp)) ∧ m (Str.ofString "k") = some (.int 2 tk9) ∧ m (Str.ofString "start") = some (.int sv ts) ∧ (∃ t, m (Str.ofString "depth") = some (.int (((((sv + e2) + e3) + e4) + e0) + e1) t)) ∧ (∃ t, m (Str.ofString "due") = some (.int (((((sv + e2) + e3) + e4) + e0) + e1) t)) ∧ (∃ t, m (Str.ofString "low") = some (.int (((((0 + if (sv + e2) ≤ sv then 1 else 0) + if ((sv + e2) + e3) ≤ sv then 1 else 0) + if (((sv + e2) + e3) + e4) ≤ sv then 1 else 0) + if ((((sv + e2) + e3) + e4) + e0) ≤ sv then 1 else 0) + if (((((sv + e2) + e3) + e4) + e0) + e1) ≤ sv then 1 else 0) t))) ∧ m (Str.ofString "label") = some (.str (labS kk (Str.ofString "c")) y1) ∧ m (Str.ofString "name") = some (.str (nameS kk (Str.ofString "c")) y2) ∧ m (Str.ofString "more") = some (.int (moreI kk) y3)) ((I9, o9) :: (lR, listOf (rowl.map (·.2)).toArray er) :: (M, LCg.lst [.bytes (octs f0) x0, .bytes (octs f1) x1, .bytes (octs f2) x2, .bytes (octs f3) x3, .bytes (octs f4) x4]) :: (J, LCg.lst [.str q0 w0, .str q1 w1, .str q2 w2, .str q3 w3, .str q4 w4]) :: (H, LCg.lst [.ref T0, .ref T1, .ref T2, .ref T3, .ref T4]) :: (T4, p4) :: (T3, p3) :: (T2, p2) :: (T1, p1) :: (T0, p0) :: (B, listOf #[.int e0 u0, .int e1 u1, .int e2 u2, .int e3 u3, .int e4 u4] ep) :: (A, LCg.lst [.int c0 t0, .int c1 t1, .int c2 t2, .int c3 t3]) :: cellsN L o1 o2 o3 o4 o5 o6)) :
    GoesM w h₀ L a cd (pBody.drop 7) Post s (fun m => (m (Str.ofString "row") = some (.ref lR) ∧ m (Str.ofString "fronts") = some (.ref M) ∧ m (Str.ofString "cells") = some (.ref A) ∧ m (Str.ofString "place") = some (.int pl tp)) ∧ m (Str.ofString "k") = some (.int 2 tk9) ∧ m (Str.ofString "start") = some (.int sv ts) ∧ (∃ t, m (Str.ofString "depth") = some (.int (((((sv + e2) + e3) + e4) + e0) + e1) t)) ∧ (∃ t, m (Str.ofString "due") = some (.int (((((sv + e2) + e3) + e4) + e0) + e1) t)) ∧ (∃ t, m (Str.ofString "low") = some (.int (((((0 + if (sv + e2) ≤ sv then 1 else 0) + if ((sv + e2) + e3) ≤ sv then 1 else 0) + if (((sv + e2) + e3) + e4) ≤ sv then 1 else 0) + if ((((sv + e2) + e3) + e4) + e0) ≤ sv then 1 else 0) + if (((((sv + e2) + e3) + e4) + e0) + e1) ≤ sv then 1 else 0) t))) ((I9, o9) :: (lR, listOf (rowl.map (·.2)).toArray er) :: (M, LCg.lst [.bytes (octs f0) x0, .bytes (octs f1) x1, .bytes (octs f2) x2, .bytes (octs f3) x3, .bytes (octs f4) x4]) :: (J, LCg.lst [.str q0 w0, .str q1 w1, .str q2 w2, .str q3 w3, .str q4 w4]) :: (H, LCg.lst [.ref T0, .ref T1, .ref T2, .ref T3, .ref T4]) :: (T4, p4) :: (T3, p3) :: (T2, p2) :: (T1, p1) :: (T0, p0) :: (B, listOf #[.int e0 u0, .int e1 u1, .int e2 u2, .int e3 u3, .int e4 u4] ep) :: (A, LCg.lst [.int c0 t0, .int c1 t1, .int c2 t2, .int c3 t3]) :: cellsN L o1 o2 o3 o4 o5 o6) := by
  intro h tk m F ok N P
  refine segD3a_2 (P0 := P0) (P1 := P1) (P2 := P2) (P3 := P3) (P4 := P4) C K0 d5 hp hlow F ok N P ?_
  intro y1 y2 y3 h' tk' m' F' ok' N'
  have ok'' := ok'
  obtain ⟨⟨-, -, -, ⟨y5, e5⟩, -⟩, e1, -, e3⟩ := ok''
  refine' segD3c C K0 (fun t => key_cut (k := kk) (c := Str.ofString "c") (ch := 99) t rfl (by decide)) (lab_fits (ch := 99) rfl (by decide)) (cut_ascii (ch := 99) rfl (by decide)) (cut_fits (ch := 99) rfl (by decide)) F' e1 e5 e3 N' ?n ?o P
  case n => with_reducible exact next y1 y2 y3
  case o => exact ok'

theorem segD3a_3 {w : World} {mean : ExcName → Option Value} {mg mb : Str → Option Value} {h₀ : Heap} {L a : Addr} {cd : Value} {s : Shared} {Post : Flow → Shared → Prop} {A M J H B T0 T1 T2 T3 T4 lR I9 : Addr} {o9 o1 o2 o3 o4 o5 o6 p0 p1 p2 p3 p4 : Obj}
    (C : LawCtx w mean mg mb h₀) (K0 : Below callerA h₀ [] h₀) {c0 c1 c2 c3 e0 e1 e2 e3 e4 pl : Int} {t0 t1 t2 t3 u0 u1 u2 u3 u4 w0 w1 w2 w3 w4 x0 x1 x2 x3 x4 tp : Tok} {ep er : Nat} {q0 q1 q2 q3 q4 f0 f1 f2 f3 f4 : Str} {P0 : Pc} {P1 : Pc} {P2 : Pc} {P3 : Pc} {P4 : Pc} {rowl : List (Int × Value)} {sv kk dv lw : Int} {tk9 ts : Tok}
    (d5 : o5.data = .cell (some (.ref H))) (hp : IsPartO kk "d" p3) (hlow : lw = pl) {h : Heap} {tk : Nat} {m : Str → Option Value} (F : Fr h₀ L h m) (ok : GJ lR M A pl 3 sv dv lw tp tk9 ts m) (N : News h₀ L h ((I9, o9) :: (lR, listOf (rowl.map (·.2)).toArray er) :: (M, LCg.lst [.bytes (octs f0) x0, .bytes (octs f1) x1, .bytes (octs f2) x2, .bytes (octs f3) x3, .bytes (octs f4) x4]) :: (J, LCg.lst [.str q0 w0, .str q1 w1, .str q2 w2, .str q3 w3, .str q4 w4]) :: (H, LCg.lst [.ref T0, .ref T1, .ref T2, .ref T3, .ref T4]) :: (T4, p4) :: (T3, p3) :: (T2, p2) :: (T1, p1) :: (T0, p0) :: (B, listOf #[.int e0 u0, .int e1 u1, .int e2 u2, .int e3 u3, .int e4 u4] ep) :: (A, LCg.lst [.int c0 t0, .int c1 t1, .int c2 t2, .int c3 t3]) :: cellsN L o1 o2 o3 o4 o5 o6)) (P : Apart ((I9, o9) :: (lR, listOf (rowl.map (·.2)).toArray er) :: (M, LCg.lst [.bytes (octs f0) x0, .bytes (octs f1) x1, .bytes (octs f2) x2, .bytes (octs f3) x3, .bytes (octs f4) x4]) :: (J, LCg.lst [.str q0 w0, .str q1 w1, .str q2 w2, .str q3 w3, .str q4 w4]) :: (H, LCg.lst [.ref T0, .ref T1, .ref T2, .ref T3, .ref T4]) :: (T4, p4) :: (T3, p3) :: (T2, p2) :: (T1, p1) :: (T0, p0) :: (B, listOf #[.int e0 u0, .int e1 u1, .int e2 u2, .int e3 u3, .int e4 u4] ep) :: (A, LCg.lst [.int c0 t0, .int c1 t1, .int c2 t2, .int c3 t3]) :: cellsN L o1 o2 o3 o4 o5 o6))
    (ret : ∀ y1 y2 y3, ∀ h' tk' m', Fr h₀ L h' m' → (GJ lR M A pl 3 sv dv lw tp tk9 ts m' ∧ m' (Str.ofString "label") = some (.str (labS kk (Str.ofString "d")) y1) ∧ m' (Str.ofString "name") = some (.str (nameS kk (Str.ofString "d")) y2) ∧ m' (Str.ofString "more") = some (.int (moreI kk) y3)) → News h₀ L h' ((I9, o9) :: (lR, listOf (rowl.map (·.2)).toArray er) :: (M, LCg.lst [.bytes (octs f0) x0, .bytes (octs f1) x1, .bytes (octs f2) x2, .bytes (octs f3) x3, .bytes (octs f4) x4]) :: (J, LCg.lst [.str q0 w0, .str q1 w1, .str q2 w2, .str q3 w3, .str q4 w4]) :: (H, LCg.lst [.ref T0, .ref T1, .ref T2, .ref T3, .ref T4]) :: (T4, p4) :: (T3, p3) :: (T2, p2) :: (T1, p1) :: (T0, p0) :: (B, listOf #[.int e0 u0, .int e1 u1, .int e2 u2, .int e3 u3, .int e4 u4] ep) :: (A, LCg.lst [.int c0 t0, .int c1 t1, .int c2 t2, .int c3 t3]) :: cellsN L o1 o2 o3 o4 o5 o6) → wpAny (model Challenge.rw_wy0015_01.row.prog w) (callerA.deeper (lawEnv L a cd)) (execs (pBody.drop 9) (lawEnv L a cd)) Post (fun _ _ => False) { s with heap := h', toks := tk' }) :
    wpAny (model Challenge.rw_wy0015_01.row.prog w) (callerA.deeper (lawEnv L a cd)) (execs (pBody.drop 7) (lawEnv L a cd)) Post (fun _ _ => False) { s with heap := h, toks := tk } := by
  obtain ⟨y1, y2, y3, hp⟩ := hp
  have ret' := ret y1 y2 y3
  clear ret
  conv at ret' in (execs _ _) => arg 1; whnf
  subst hp
  obtain ⟨KX, X, V, GL, T, BT, TE, TW⟩ := C
  revert KX
  k_fill
  intro KX
  unfold cellsN at N P
  conv in (execs _ _) => arg 1; whnf
  obtain ⟨⟨m1, m2, m3, m4⟩, m5, m6, ⟨a7, m7⟩, ⟨a8, m8⟩, a9, m9⟩ := ok
  walk_at "mine:line"
  · exact absurd hlow (by assumption)
  walk_at "mine:line"
  with_reducible refine ret' _ _ _ (by assumption) ?M3 ?N3
  case M3 =>
    refine ⟨⟨⟨m1, m2, m3, m4⟩, m5, m6, ⟨a7, m7⟩, ⟨a8, m8⟩, a9, m9⟩, ?_, ?_, ?_⟩
    · rfl
    · rfl
    · rfl
  case N3 => walk_at "mine:led"

theorem segD3_3 {w : World} {mean : ExcName → Option Value} {mg mb : Str → Option Value} {h₀ : Heap} {L a : Addr} {cd : Value} {s : Shared} {Post : Flow → Shared → Prop} {A M J H B T0 T1 T2 T3 T4 lR I9 : Addr} {o9 o1 o2 o3 o4 o5 o6 p0 p1 p2 p3 p4 : Obj}
    (C : LawCtx w mean mg mb h₀) (K0 : Below callerA h₀ [] h₀) {c0 c1 c2 c3 e0 e1 e2 e3 e4 pl : Int} {t0 t1 t2 t3 u0 u1 u2 u3 u4 w0 w1 w2 w3 w4 x0 x1 x2 x3 x4 tp : Tok} {ep er : Nat} {q0 q1 q2 q3 q4 f0 f1 f2 f3 f4 : Str} {P0 : Pc} {P1 : Pc} {P2 : Pc} {P3 : Pc} {P4 : Pc} {rowl : List (Int × Value)} {sv kk : Int} {tk9 ts : Tok}
    (d5 : o5.data = .cell (some (.ref H))) (hp : IsPartO kk "d" p3) (hlow : (((((0 + if (sv + e3) ≤ sv then 1 else 0) + if ((sv + e3) + e4) ≤ sv then 1 else 0) + if (((sv + e3) + e4) + e0) ≤ sv then 1 else 0) + if ((((sv + e3) + e4) + e0) + e1) ≤ sv then 1 else 0) + if (((((sv + e3) + e4) + e0) + e1) + e2) ≤ sv then 1 else 0) = pl)
    (next : ∀ y1 y2 y3, GoesM w h₀ L a cd (pBody.drop 10) Post s (fun m => ((m (Str.ofString "row") = some (.ref lR) ∧ m (Str.ofString "fronts") = some (.ref M) ∧ m (Str.ofString "cells") = some (.ref A) ∧ m (Str.ofString "place") = some (.int pl tp)) ∧ m (Str.ofString "k") = some (.int 3 tk9) ∧ m (Str.ofString "start") = some (.int sv ts) ∧ (∃ t, m (Str.ofString "depth") = some (.int (((((sv + e3) + e4) + e0) + e1) + e2) t)) ∧ (∃ t, m (Str.ofString "due") = some (.int (((((sv + e3) + e4) + e0) + e1) + e2) t)) ∧ (∃ t, m (Str.ofString "low") = some (.int (((((0 + if (sv + e3) ≤ sv then 1 else 0) + if ((sv + e3) + e4) ≤ sv then 1 else 0) + if (((sv + e3) + e4) + e0) ≤ sv then 1 else 0) + if ((((sv + e3) + e4) + e0) + e1) ≤ sv then 1 else 0) + if (((((sv + e3) + e4) + e0) + e1) + e2) ≤ sv then 1 else 0) t))) ∧ m (Str.ofString "label") = some (.str (labS kk (Str.ofString "d")) y1) ∧ m (Str.ofString "name") = some (.str (nameS kk (Str.ofString "d")) y2) ∧ m (Str.ofString "more") = some (.int (moreI kk) y3)) ((I9, o9) :: (lR, listOf (rowl.map (·.2)).toArray er) :: (M, LCg.lst [.bytes (octs f0) x0, .bytes (octs f1) x1, .bytes (octs f2) x2, .bytes (octs f3) x3, .bytes (octs f4) x4]) :: (J, LCg.lst [.str q0 w0, .str q1 w1, .str q2 w2, .str q3 w3, .str q4 w4]) :: (H, LCg.lst [.ref T0, .ref T1, .ref T2, .ref T3, .ref T4]) :: (T4, p4) :: (T3, p3) :: (T2, p2) :: (T1, p1) :: (T0, p0) :: (B, listOf #[.int e0 u0, .int e1 u1, .int e2 u2, .int e3 u3, .int e4 u4] ep) :: (A, LCg.lst [.int c0 t0, .int c1 t1, .int c2 t2, .int c3 t3]) :: cellsN L o1 o2 o3 o4 o5 o6)) :
    GoesM w h₀ L a cd (pBody.drop 7) Post s (fun m => (m (Str.ofString "row") = some (.ref lR) ∧ m (Str.ofString "fronts") = some (.ref M) ∧ m (Str.ofString "cells") = some (.ref A) ∧ m (Str.ofString "place") = some (.int pl tp)) ∧ m (Str.ofString "k") = some (.int 3 tk9) ∧ m (Str.ofString "start") = some (.int sv ts) ∧ (∃ t, m (Str.ofString "depth") = some (.int (((((sv + e3) + e4) + e0) + e1) + e2) t)) ∧ (∃ t, m (Str.ofString "due") = some (.int (((((sv + e3) + e4) + e0) + e1) + e2) t)) ∧ (∃ t, m (Str.ofString "low") = some (.int (((((0 + if (sv + e3) ≤ sv then 1 else 0) + if ((sv + e3) + e4) ≤ sv then 1 else 0) + if (((sv + e3) + e4) + e0) ≤ sv then 1 else 0) + if ((((sv + e3) + e4) + e0) + e1) ≤ sv then 1 else 0) + if (((((sv + e3) + e4) + e0) + e1) + e2) ≤ sv then 1 else 0) t))) ((I9, o9) :: (lR, listOf (rowl.map (·.2)).toArray er) :: (M, LCg.lst [.bytes (octs f0) x0, .bytes (octs f1) x1, .bytes (octs f2) x2, .bytes (octs f3) x3, .bytes (octs f4) x4]) :: (J, LCg.lst [.str q0 w0, .str q1 w1, .str q2 w2, .str q3 w3, .str q4 w4]) :: (H, LCg.lst [.ref T0, .ref T1, .ref T2, .ref T3, .ref T4]) :: (T4, p4) :: (T3, p3) :: (T2, p2) :: (T1, p1) :: (T0, p0) :: (B, listOf #[.int e0 u0, .int e1 u1, .int e2 u2, .int e3 u3, .int e4 u4] ep) :: (A, LCg.lst [.int c0 t0, .int c1 t1, .int c2 t2, .int c3 t3]) :: cellsN L o1 o2 o3 o4 o5 o6) := by
  intro h tk m F ok N P
  refine segD3a_3 (P0 := P0) (P1 := P1) (P2 := P2) (P3 := P3) (P4 := P4) C K0 d5 hp hlow F ok N P ?_
  intro y1 y2 y3 h' tk' m' F' ok' N'
  have ok'' := ok'
  obtain ⟨⟨-, -, -, ⟨y5, e5⟩, -⟩, e1, -, e3⟩ := ok''
  refine' segD3c C K0 (fun t => key_cut (k := kk) (c := Str.ofString "d") (ch := 100) t rfl (by decide)) (lab_fits (ch := 100) rfl (by decide)) (cut_ascii (ch := 100) rfl (by decide)) (cut_fits (ch := 100) rfl (by decide)) F' e1 e5 e3 N' ?n ?o P
  case n => with_reducible exact next y1 y2 y3
  case o => exact ok'

theorem segD3a_4 {w : World} {mean : ExcName → Option Value} {mg mb : Str → Option Value} {h₀ : Heap} {L a : Addr} {cd : Value} {s : Shared} {Post : Flow → Shared → Prop} {A M J H B T0 T1 T2 T3 T4 lR I9 : Addr} {o9 o1 o2 o3 o4 o5 o6 p0 p1 p2 p3 p4 : Obj}
    (C : LawCtx w mean mg mb h₀) (K0 : Below callerA h₀ [] h₀) {c0 c1 c2 c3 e0 e1 e2 e3 e4 pl : Int} {t0 t1 t2 t3 u0 u1 u2 u3 u4 w0 w1 w2 w3 w4 x0 x1 x2 x3 x4 tp : Tok} {ep er : Nat} {q0 q1 q2 q3 q4 f0 f1 f2 f3 f4 : Str} {P0 : Pc} {P1 : Pc} {P2 : Pc} {P3 : Pc} {P4 : Pc} {rowl : List (Int × Value)} {sv kk dv lw : Int} {tk9 ts : Tok}
    (d5 : o5.data = .cell (some (.ref H))) (hp : IsPartO kk "e" p4) (hlow : lw = pl) {h : Heap} {tk : Nat} {m : Str → Option Value} (F : Fr h₀ L h m) (ok : GJ lR M A pl 4 sv dv lw tp tk9 ts m) (N : News h₀ L h ((I9, o9) :: (lR, listOf (rowl.map (·.2)).toArray er) :: (M, LCg.lst [.bytes (octs f0) x0, .bytes (octs f1) x1, .bytes (octs f2) x2, .bytes (octs f3) x3, .bytes (octs f4) x4]) :: (J, LCg.lst [.str q0 w0, .str q1 w1, .str q2 w2, .str q3 w3, .str q4 w4]) :: (H, LCg.lst [.ref T0, .ref T1, .ref T2, .ref T3, .ref T4]) :: (T4, p4) :: (T3, p3) :: (T2, p2) :: (T1, p1) :: (T0, p0) :: (B, listOf #[.int e0 u0, .int e1 u1, .int e2 u2, .int e3 u3, .int e4 u4] ep) :: (A, LCg.lst [.int c0 t0, .int c1 t1, .int c2 t2, .int c3 t3]) :: cellsN L o1 o2 o3 o4 o5 o6)) (P : Apart ((I9, o9) :: (lR, listOf (rowl.map (·.2)).toArray er) :: (M, LCg.lst [.bytes (octs f0) x0, .bytes (octs f1) x1, .bytes (octs f2) x2, .bytes (octs f3) x3, .bytes (octs f4) x4]) :: (J, LCg.lst [.str q0 w0, .str q1 w1, .str q2 w2, .str q3 w3, .str q4 w4]) :: (H, LCg.lst [.ref T0, .ref T1, .ref T2, .ref T3, .ref T4]) :: (T4, p4) :: (T3, p3) :: (T2, p2) :: (T1, p1) :: (T0, p0) :: (B, listOf #[.int e0 u0, .int e1 u1, .int e2 u2, .int e3 u3, .int e4 u4] ep) :: (A, LCg.lst [.int c0 t0, .int c1 t1, .int c2 t2, .int c3 t3]) :: cellsN L o1 o2 o3 o4 o5 o6))
    (ret : ∀ y1 y2 y3, ∀ h' tk' m', Fr h₀ L h' m' → (GJ lR M A pl 4 sv dv lw tp tk9 ts m' ∧ m' (Str.ofString "label") = some (.str (labS kk (Str.ofString "e")) y1) ∧ m' (Str.ofString "name") = some (.str (nameS kk (Str.ofString "e")) y2) ∧ m' (Str.ofString "more") = some (.int (moreI kk) y3)) → News h₀ L h' ((I9, o9) :: (lR, listOf (rowl.map (·.2)).toArray er) :: (M, LCg.lst [.bytes (octs f0) x0, .bytes (octs f1) x1, .bytes (octs f2) x2, .bytes (octs f3) x3, .bytes (octs f4) x4]) :: (J, LCg.lst [.str q0 w0, .str q1 w1, .str q2 w2, .str q3 w3, .str q4 w4]) :: (H, LCg.lst [.ref T0, .ref T1, .ref T2, .ref T3, .ref T4]) :: (T4, p4) :: (T3, p3) :: (T2, p2) :: (T1, p1) :: (T0, p0) :: (B, listOf #[.int e0 u0, .int e1 u1, .int e2 u2, .int e3 u3, .int e4 u4] ep) :: (A, LCg.lst [.int c0 t0, .int c1 t1, .int c2 t2, .int c3 t3]) :: cellsN L o1 o2 o3 o4 o5 o6) → wpAny (model Challenge.rw_wy0015_01.row.prog w) (callerA.deeper (lawEnv L a cd)) (execs (pBody.drop 9) (lawEnv L a cd)) Post (fun _ _ => False) { s with heap := h', toks := tk' }) :
    wpAny (model Challenge.rw_wy0015_01.row.prog w) (callerA.deeper (lawEnv L a cd)) (execs (pBody.drop 7) (lawEnv L a cd)) Post (fun _ _ => False) { s with heap := h, toks := tk } := by
  obtain ⟨y1, y2, y3, hp⟩ := hp
  have ret' := ret y1 y2 y3
  clear ret
  conv at ret' in (execs _ _) => arg 1; whnf
  subst hp
  obtain ⟨KX, X, V, GL, T, BT, TE, TW⟩ := C
  revert KX
  k_fill
  intro KX
  unfold cellsN at N P
  conv in (execs _ _) => arg 1; whnf
  obtain ⟨⟨m1, m2, m3, m4⟩, m5, m6, ⟨a7, m7⟩, ⟨a8, m8⟩, a9, m9⟩ := ok
  walk_at "mine:line"
  · exact absurd hlow (by assumption)
  walk_at "mine:line"
  with_reducible refine ret' _ _ _ (by assumption) ?M3 ?N3
  case M3 =>
    refine ⟨⟨⟨m1, m2, m3, m4⟩, m5, m6, ⟨a7, m7⟩, ⟨a8, m8⟩, a9, m9⟩, ?_, ?_, ?_⟩
    · rfl
    · rfl
    · rfl
  case N3 => walk_at "mine:led"

theorem segD3_4 {w : World} {mean : ExcName → Option Value} {mg mb : Str → Option Value} {h₀ : Heap} {L a : Addr} {cd : Value} {s : Shared} {Post : Flow → Shared → Prop} {A M J H B T0 T1 T2 T3 T4 lR I9 : Addr} {o9 o1 o2 o3 o4 o5 o6 p0 p1 p2 p3 p4 : Obj}
    (C : LawCtx w mean mg mb h₀) (K0 : Below callerA h₀ [] h₀) {c0 c1 c2 c3 e0 e1 e2 e3 e4 pl : Int} {t0 t1 t2 t3 u0 u1 u2 u3 u4 w0 w1 w2 w3 w4 x0 x1 x2 x3 x4 tp : Tok} {ep er : Nat} {q0 q1 q2 q3 q4 f0 f1 f2 f3 f4 : Str} {P0 : Pc} {P1 : Pc} {P2 : Pc} {P3 : Pc} {P4 : Pc} {rowl : List (Int × Value)} {sv kk : Int} {tk9 ts : Tok}
    (d5 : o5.data = .cell (some (.ref H))) (hp : IsPartO kk "e" p4) (hlow : (((((0 + if (sv + e4) ≤ sv then 1 else 0) + if ((sv + e4) + e0) ≤ sv then 1 else 0) + if (((sv + e4) + e0) + e1) ≤ sv then 1 else 0) + if ((((sv + e4) + e0) + e1) + e2) ≤ sv then 1 else 0) + if (((((sv + e4) + e0) + e1) + e2) + e3) ≤ sv then 1 else 0) = pl)
    (next : ∀ y1 y2 y3, GoesM w h₀ L a cd (pBody.drop 10) Post s (fun m => ((m (Str.ofString "row") = some (.ref lR) ∧ m (Str.ofString "fronts") = some (.ref M) ∧ m (Str.ofString "cells") = some (.ref A) ∧ m (Str.ofString "place") = some (.int pl tp)) ∧ m (Str.ofString "k") = some (.int 4 tk9) ∧ m (Str.ofString "start") = some (.int sv ts) ∧ (∃ t, m (Str.ofString "depth") = some (.int (((((sv + e4) + e0) + e1) + e2) + e3) t)) ∧ (∃ t, m (Str.ofString "due") = some (.int (((((sv + e4) + e0) + e1) + e2) + e3) t)) ∧ (∃ t, m (Str.ofString "low") = some (.int (((((0 + if (sv + e4) ≤ sv then 1 else 0) + if ((sv + e4) + e0) ≤ sv then 1 else 0) + if (((sv + e4) + e0) + e1) ≤ sv then 1 else 0) + if ((((sv + e4) + e0) + e1) + e2) ≤ sv then 1 else 0) + if (((((sv + e4) + e0) + e1) + e2) + e3) ≤ sv then 1 else 0) t))) ∧ m (Str.ofString "label") = some (.str (labS kk (Str.ofString "e")) y1) ∧ m (Str.ofString "name") = some (.str (nameS kk (Str.ofString "e")) y2) ∧ m (Str.ofString "more") = some (.int (moreI kk) y3)) ((I9, o9) :: (lR, listOf (rowl.map (·.2)).toArray er) :: (M, LCg.lst [.bytes (octs f0) x0, .bytes (octs f1) x1, .bytes (octs f2) x2, .bytes (octs f3) x3, .bytes (octs f4) x4]) :: (J, LCg.lst [.str q0 w0, .str q1 w1, .str q2 w2, .str q3 w3, .str q4 w4]) :: (H, LCg.lst [.ref T0, .ref T1, .ref T2, .ref T3, .ref T4]) :: (T4, p4) :: (T3, p3) :: (T2, p2) :: (T1, p1) :: (T0, p0) :: (B, listOf #[.int e0 u0, .int e1 u1, .int e2 u2, .int e3 u3, .int e4 u4] ep) :: (A, LCg.lst [.int c0 t0, .int c1 t1, .int c2 t2, .int c3 t3]) :: cellsN L o1 o2 o3 o4 o5 o6)) :
    GoesM w h₀ L a cd (pBody.drop 7) Post s (fun m => (m (Str.ofString "row") = some (.ref lR) ∧ m (Str.ofString "fronts") = some (.ref M) ∧ m (Str.ofString "cells") = some (.ref A) ∧ m (Str.ofString "place") = some (.int pl tp)) ∧ m (Str.ofString "k") = some (.int 4 tk9) ∧ m (Str.ofString "start") = some (.int sv ts) ∧ (∃ t, m (Str.ofString "depth") = some (.int (((((sv + e4) + e0) + e1) + e2) + e3) t)) ∧ (∃ t, m (Str.ofString "due") = some (.int (((((sv + e4) + e0) + e1) + e2) + e3) t)) ∧ (∃ t, m (Str.ofString "low") = some (.int (((((0 + if (sv + e4) ≤ sv then 1 else 0) + if ((sv + e4) + e0) ≤ sv then 1 else 0) + if (((sv + e4) + e0) + e1) ≤ sv then 1 else 0) + if ((((sv + e4) + e0) + e1) + e2) ≤ sv then 1 else 0) + if (((((sv + e4) + e0) + e1) + e2) + e3) ≤ sv then 1 else 0) t))) ((I9, o9) :: (lR, listOf (rowl.map (·.2)).toArray er) :: (M, LCg.lst [.bytes (octs f0) x0, .bytes (octs f1) x1, .bytes (octs f2) x2, .bytes (octs f3) x3, .bytes (octs f4) x4]) :: (J, LCg.lst [.str q0 w0, .str q1 w1, .str q2 w2, .str q3 w3, .str q4 w4]) :: (H, LCg.lst [.ref T0, .ref T1, .ref T2, .ref T3, .ref T4]) :: (T4, p4) :: (T3, p3) :: (T2, p2) :: (T1, p1) :: (T0, p0) :: (B, listOf #[.int e0 u0, .int e1 u1, .int e2 u2, .int e3 u3, .int e4 u4] ep) :: (A, LCg.lst [.int c0 t0, .int c1 t1, .int c2 t2, .int c3 t3]) :: cellsN L o1 o2 o3 o4 o5 o6) := by
  intro h tk m F ok N P
  refine segD3a_4 (P0 := P0) (P1 := P1) (P2 := P2) (P3 := P3) (P4 := P4) C K0 d5 hp hlow F ok N P ?_
  intro y1 y2 y3 h' tk' m' F' ok' N'
  have ok'' := ok'
  obtain ⟨⟨-, -, -, ⟨y5, e5⟩, -⟩, e1, -, e3⟩ := ok''
  refine' segD3c C K0 (fun t => key_cut (k := kk) (c := Str.ofString "e") (ch := 101) t rfl (by decide)) (lab_fits (ch := 101) rfl (by decide)) (cut_ascii (ch := 101) rfl (by decide)) (cut_fits (ch := 101) rfl (by decide)) F' e1 e5 e3 N' ?n ?o P
  case n => with_reducible exact next y1 y2 y3
  case o => exact ok'

end Mine

-- part W15
namespace Mine
open PySem PySem.W PySem.Calls PyProof.Rows
set_option Elab.async false
set_option maxRecDepth 100000
set_option maxHeartbeats 8000000

theorem add_fits {x : Str} {ps : List Pc} (hx : x.cps.toList = catL ps) (h : ∀ p ∈ ps, p.ok) (hn : ps.length ≤ 10) : (Str.ofString " ").length + x.length ≤ sizeLine := by
  have := len_cat hx h
  rw [show (Str.ofString " ").length = 1 from rfl, sizeLine_eq]
  omega

theorem off_W15 : True := by w_top off; trivial
local macro_rules | `(tactic| walk_at "mine:pad0") => `(tactic| skip)


local macro_rules | `(tactic| walk_at "subscriptTail Name Slice ref ref") => `(tactic| (k_here; (with_reducible show wpAny _ _ (subscriptTail _ (PySem.Expr.Slice _ none (some _) _) (Value.ref _) (Value.ref _)) _ _ _); k_dflt (refine' slice_step ?F ?N ?l ?p ?q ?k ?o ?i ?_ ?s ?t ?z; (case F => k_asm); (case N => k_asm); (case l => kmk_list); (case p => kmk_part); (case q => kmk_part); (case k => kmk_part); (case o => decide); (case i => l_ints); (case s => with_unfolding_all rfl); (case t => kmk_pure); (case z => kmk_size)); intro D' ws' h' ms' F' N' l1 hI'; (try k_lt l1); (try k_sweep)))

local macro_rules | `(tactic| walk_at "eval ListComp") => `(tactic| (k_here; k_dflt (refine LCg.ListComp_U (F₀ := by k_asm) (by rfl) (by decide) (by rfl) (by decide) (by rfl) ?_); k_dflt lcg_toSrc))
local macro_rules | `(tactic| walk_at "exec Assign cons ListComp") => `(tactic| (k_here; k_dflt (refine LCg.Assign_ListComp_U (F₀ := by k_asm) (by rfl) (by with_unfolding_all rfl) (by rfl) (by decide) (by rfl) (by decide) (by rfl) (by rfl) (by rfl) ?_); k_dflt lcg_toSrc))
local macro_rules | `(tactic| walk_at "CompSrc") => `(tactic| (k_here; k_dflt (first
  | (refine LCg.CompSrc.ledger (by rfl) (by k_asm) (by k_asm) (by k_mem) (by first | size_fits | exact Nat.le_of_ble_eq_true rfl) ?_; intro g'; lcg_lit)
  | (refine LCg.CompSrc.base (by rfl) (by k_asm) (by k_asm) (by assumption) (by first | size_fits | exact Nat.le_of_ble_eq_true rfl) ?_; intro g'; lcg_lit)
  | (refine LCg.CompSrc.range (by rfl) (by k_asm) (by k_asm) (by assumption) (by first | decide | rfl) (by first | rfl | decide) (by first | size_fits | exact Nat.le_of_ble_eq_true rfl) ?_; intro g'; lcg_lit))))
local macro_rules | `(tactic| walk_at "eval Name") => `(tactic| (k_here; (with_reducible show wpAny _ _ (eval (PySem.Expr.Name _ _) (compEnvC _ _ _ _)) _ _ _); k_dflt (first
  | refine LCgL.ld_own (by k_asm) (by k_mem) (by with_reducible assumption) (by with_reducible assumption) ?_
  | refine lcf_free (by k_asm) (by rfl) (by k_mem) (by with_reducible assumption) ?_
  | refine LCgL.ld_global (by k_asm) (by k_asm) (by k_asm) (by k_is) ?_
  | refine LCgL.ld_built (by k_asm) (by k_asm) (by k_asm) (by k_is) (by boot_by_name) (by decide) ?_)))
local macro_rules | `(tactic| walk_at "mine:go") => `(tactic| (repeat' ((fail_if_success (with_reducible show LCg.CompRest _ _ _ _ _ _ _ _ _ _ _ _ _ _ _ _ _ _ _)); (fail_if_success (with_reducible show RangeRest _ _ _ _ _ _ _ _ _ _ _ _ _ _ _ _ _)); (fail_if_success (with_reducible show wpAny _ _ (execs (_ :: _) _) _ _ _)); first | (k_unfold; (try dsimp only)) | walk1 | (dsimp only; walk1) | (leave1; walk_say "STEP leave1"; (try dsimp only)))))
local macro_rules | `(tactic| walk_at "mine:line") => `(tactic| (walk1; (try ((with_reducible show wpAny _ _ (execs (_ :: _) _) _ _ _); walk1)); walk_at "mine:go"))
local macro_rules | `(tactic| walk_at "mine:sub") => `(tactic| (intro p hp; (repeat (first | exact hp | apply List.mem_cons_of_mem))))

local macro_rules | `(tactic| walk_at "mine:look") => `(tactic| first | assumption | (refine Fr_eq (by assumption) ?_; intro z; first | exact rfl | (simp only [look_cons]; exact rfl) | (simp only [look_cons]; done) | (simp only [look_cons]; split <;> rfl) | (dsimp only; exact rfl)))
local macro_rules | `(tactic| walk_at "mine:led") => `(tactic| (refine news_sub (by assumption) ?_; (try unfold cellsN); lcg_sub))
local macro_rules | `(tactic| walk_at "mine:part") => `(tactic| (refine Apart.sub (by assumption) ?_; (try unfold cellsN); repeat (first | exact List.Sublist.slnil | refine List.Sublist.cons_cons _ ?_ | refine List.Sublist.cons _ ?_)))
local macro_rules | `(tactic| walk_at "mine:at") => `(tactic| first | exact AtIn.head | (refine' AtIn.tail ?b; (case b => walk_at "mine:at")))
local macro_rules | `(tactic| walk_at "storeName") => `(tactic| (k_here; k_dflt (refine' storeA ?F ?N ?P ?c ?U ?d ?_ ?a ?b; (case a => rfl); (case b => rfl); (case F => k_asm); (case N => k_asm); (case P => with_reducible assumption); (case c => rfl); (case U => walk_at "mine:at"); (case d => k_asm); k_whole); intro h' o' F' N' P' d'; (try dsimp only at N' P'); (try k_sweep)))
local macro_rules | `(tactic| walk_at "newList") => `(tactic| (k_here; k_dflt (refine' newList_K ?k1 ?k2 ?_; (case k1 => k_asm); (case k2 => k_asm); k_whole); intro l' h' F' N' l1; have P' := Apart.below N' l1 (by with_reducible assumption); clear l1; (try k_sweep)))
local macro_rules | `(tactic| walk_at "call builtin:list.append") => `(tactic| (k_here; k_dflt (refine' appendA ?F ?N ?P ?U ?_ ?z; (case F => k_asm); (case N => k_asm); (case P => with_reducible assumption); (case U => walk_at "mine:at"); (case z => exact Nat.le_of_ble_eq_true rfl); k_whole); intro h' F' N' P'; (try simp only [List.push_toArray, List.cons_append, List.nil_append] at N' P'); (try k_sweep)))
local macro_rules | `(tactic| walk_at "FinE") => `(tactic| ((unfold LCg.FinE); intro D' h' tk' F' N' o1'; have P' := Apart.cons' N' o1' (by with_reducible assumption); clear o1'; (try simp only [List.nil_append, List.cons_append] at N' P'); (try dsimp only); (try k_sweep)))
local macro_rules | `(tactic| walk_at "FinA") => `(tactic| ((unfold LCg.FinA); intro D' h' tk' F' N' o1'; have P' := Apart.cons' N' o1' (by with_reducible assumption); clear o1'; (try simp only [List.nil_append, List.cons_append] at N' P'); (try dsimp only); (try k_sweep)))


local macro_rules | `(tactic| walk_at "eval Name") => `(tactic| (k_here; (with_reducible show wpAny _ _ (eval (PySem.Expr.Name _ _) (envOfC _ _ _ _ _)) _ _ _); k_dflt (first
  | (refine' nameX_L ?nF ?nv ?_ ?na ?nb; (case na => rfl); (case nb => rfl); (case nF => k_asm); (case nv => assumption); k_whole)
  | (refine' nameX_C ?cN ?cc ?cm ?cd ?_ ?ca ?cb; (case ca => rfl); (case cb => rfl); (case cN => k_asm); (case cc => rfl); (case cm => k_mem); (case cd => k_asm); k_whole)
  | (refine' nameX_K ?kF ?kX ?kT ?ke ?_ ?ka ?kb; (case ka => rfl); (case kb => rfl); (case kF => k_asm); (case kX => k_asm); (case kT => k_asm); (case ke => k_is); k_whole)
  | (refine' nameX_B ?bF ?bX ?bT ?be ?bv ?bn ?_ ?ba ?bb; (case ba => rfl); (case bb => rfl); (case bF => k_asm); (case bX => k_asm); (case bT => k_asm); (case be => k_is); (case bv => boot_fast); (case bn => decide); k_whole))))
local macro_rules | `(tactic| walk_at "loadName") => `(tactic| (k_here; k_dflt (refine' loadX_Lm ?lF ?lv ?_ ?la ?lb; (case la => rfl); (case lb => rfl); (case lF => k_asm); (case lv => assumption); k_whole)))
local macro_rules | `(tactic| walk_at "subscriptTail Name Name ref int") => `(tactic| (k_here; k_dflt (refine' item_listL (l := List.map _ _) ?sl ?s0 ?s1 ?sx ?_ ?ss ?sg; (case sl => exact News.isList (by k_asm) (by k_mem)); (case s0 => assumption); (case s1 => assumption); (case sx => assumption); (case ss => with_unfolding_all rfl); (case sg => kmk_pure); k_whole)))
local macro_rules | `(tactic| walk_at "call ref") => `(tactic| (k_here; (with_reducible show wpAny _ _ (call (Value.ref 44) [_]) _ _ _); k_dflt (refine' depth_at ?i1 ?i2 ?i3 ?i4 ?i5 (depthK _ _ _ ?i6) ?_; (case i1 => assumption); (case i2 => k_asm); (case i3 => assumption); (case i4 => k_asm); (case i5 => assumption); (case i6 => first | assumption | exact (show ∀ t : Tok, Key (Value.bytes _ t) _ by assumption) _)); intro t' h' tk' F' N'; (try k_sweep)))
local macro_rules | `(tactic| walk_at "call ref") => `(tactic| (k_here; (with_reducible show wpAny _ _ (call (Value.ref 44) [_, _]) _ _ _); k_dflt (refine' depth_at ?i1 ?i2 ?i3 ?i4 ?i5 (depthK2 _ _ _ _ _ ?i6) ?_; (case i1 => assumption); (case i2 => k_asm); (case i3 => assumption); (case i4 => k_asm); (case i5 => assumption); (case i6 => first | assumption | exact (show ∀ t : Tok, Key (Value.bytes _ t) _ by assumption) _)); intro t' h' tk' F' N'; (try k_sweep)))

local macro_rules | `(tactic| walk_at "mine:oks") => `(tactic| (repeat (first | exact List.forall_mem_nil _ | refine List.forall_mem_cons.mpr ⟨by assumption, ?_⟩)))
local macro_rules | `(tactic| walk_at "mine:strs") => `(tactic| (first | exact StrsAre.nil | (refine' StrsAre.cons ?a ?b; (case a => assumption); (case b => walk_at "mine:strs"))))
local macro_rules | `(tactic| walk_at "call builtin:str.join") => `(tactic| (k_here; (with_reducible show wpAny _ _ (call (Value.builtin "str.join") [Value.str _ _, Value.ref _]) _ _ _); k_dflt (refine' join_pcs ?jl ?jS ?jk ?jn ?_; (case jl => kmk_list); (case jS => walk_at "mine:strs"); (case jk => walk_at "mine:oks"); (case jn => exact Nat.le_of_ble_eq_true rfl)); intro f' t' k' hf'))
local macro_rules | `(tactic| walk_at "binaryOp Add str str") => `(tactic| (k_here; (with_reducible show wpAny _ _ (binaryOp Operator.Add (Value.str _ _) (Value.str _ _)) _ _ _); k_dflt (refine' PyProof.Rows.add_str ?_ ?az; (case az => first | assumption | exact add_fits (by assumption) (by walk_at "mine:oks") (Nat.le_of_ble_eq_true rfl))); intro t' k'))
theorem segD4a_0 {w : World} {mean : ExcName → Option Value} {mg mb : Str → Option Value} {h₀ : Heap} {L a : Addr} {cd : Value} {s : Shared} {Post : Flow → Shared → Prop} {A M J H B T0 T1 T2 T3 T4 lR I9 : Addr} {o9 o1 o2 o3 o4 o5 o6 p0 p1 p2 p3 p4 : Obj}
    (C : LawCtx w mean mg mb h₀) (K0 : Below callerA h₀ [] h₀) {c0 c1 c2 c3 e0 e1 e2 e3 e4 pl : Int} {t0 t1 t2 t3 u0 u1 u2 u3 u4 w0 w1 w2 w3 w4 x0 x1 x2 x3 x4 tp : Tok} {ep er : Nat} {q0 q1 q2 q3 q4 f0 f1 f2 f3 f4 : Str} {P0 : Pc} {P1 : Pc} {P2 : Pc} {P3 : Pc} {P4 : Pc} {rowl : List (Int × Value)} {sv kk : Int} {tk9 ts y1 y2 y3 : Tok}
    (d6 : o6.data = .cell (some (.ref J))) (hq0 : q0.cps.toList = P0.l) (hk0 : P0.ok) (he0 : P0.e = e0) (hq1 : q1.cps.toList = P1.l) (hk1 : P1.ok) (he1 : P1.e = e1) (hq2 : q2.cps.toList = P2.l) (hk2 : P2.ok) (he2 : P2.e = e2) (hq3 : q3.cps.toList = P3.l) (hk3 : P3.ok) (he3 : P3.e = e3) (hq4 : q4.cps.toList = P4.l) (hk4 : P4.ok) (he4 : P4.e = e4)
    (next : ∀ tu y4, tu.cps.toList = 32 :: catL [P0, P1, P2, P3, P4] → GoesM w h₀ L a cd (pBody.drop 11) Post s (fun m => (m (Str.ofString "row") = some (.ref lR) ∧ m (Str.ofString "fronts") = some (.ref M) ∧ m (Str.ofString "cells") = some (.ref A) ∧ m (Str.ofString "place") = some (.int pl tp)) ∧ m (Str.ofString "k") = some (.int 0 tk9) ∧ m (Str.ofString "label") = some (.str (labS kk (Str.ofString "a")) y1) ∧ m (Str.ofString "name") = some (.str (nameS kk (Str.ofString "a")) y2) ∧ m (Str.ofString "turned") = some (.str tu y4)) ((I9, o9) :: (lR, listOf (rowl.map (·.2)).toArray er) :: (M, LCg.lst [.bytes (octs f0) x0, .bytes (octs f1) x1, .bytes (octs f2) x2, .bytes (octs f3) x3, .bytes (octs f4) x4]) :: (J, LCg.lst [.str q0 w0, .str q1 w1, .str q2 w2, .str q3 w3, .str q4 w4]) :: (H, LCg.lst [.ref T0, .ref T1, .ref T2, .ref T3, .ref T4]) :: (T4, p4) :: (T3, p3) :: (T2, p2) :: (T1, p1) :: (T0, p0) :: (B, listOf #[.int e0 u0, .int e1 u1, .int e2 u2, .int e3 u3, .int e4 u4] ep) :: (A, LCg.lst [.int c0 t0, .int c1 t1, .int c2 t2, .int c3 t3]) :: cellsN L o1 o2 o3 o4 o5 o6)) :
    GoesM w h₀ L a cd (pBody.drop 10) Post s (fun m => ((m (Str.ofString "row") = some (.ref lR) ∧ m (Str.ofString "fronts") = some (.ref M) ∧ m (Str.ofString "cells") = some (.ref A) ∧ m (Str.ofString "place") = some (.int pl tp)) ∧ m (Str.ofString "k") = some (.int 0 tk9) ∧ m (Str.ofString "start") = some (.int sv ts) ∧ (∃ t, m (Str.ofString "depth") = some (.int (((((sv + e0) + e1) + e2) + e3) + e4) t)) ∧ (∃ t, m (Str.ofString "due") = some (.int (((((sv + e0) + e1) + e2) + e3) + e4) t)) ∧ (∃ t, m (Str.ofString "low") = some (.int (((((0 + if (sv + e0) ≤ sv then 1 else 0) + if ((sv + e0) + e1) ≤ sv then 1 else 0) + if (((sv + e0) + e1) + e2) ≤ sv then 1 else 0) + if ((((sv + e0) + e1) + e2) + e3) ≤ sv then 1 else 0) + if (((((sv + e0) + e1) + e2) + e3) + e4) ≤ sv then 1 else 0) t))) ∧ m (Str.ofString "label") = some (.str (labS kk (Str.ofString "a")) y1) ∧ m (Str.ofString "name") = some (.str (nameS kk (Str.ofString "a")) y2) ∧ m (Str.ofString "more") = some (.int (moreI kk) y3)) ((I9, o9) :: (lR, listOf (rowl.map (·.2)).toArray er) :: (M, LCg.lst [.bytes (octs f0) x0, .bytes (octs f1) x1, .bytes (octs f2) x2, .bytes (octs f3) x3, .bytes (octs f4) x4]) :: (J, LCg.lst [.str q0 w0, .str q1 w1, .str q2 w2, .str q3 w3, .str q4 w4]) :: (H, LCg.lst [.ref T0, .ref T1, .ref T2, .ref T3, .ref T4]) :: (T4, p4) :: (T3, p3) :: (T2, p2) :: (T1, p1) :: (T0, p0) :: (B, listOf #[.int e0 u0, .int e1 u1, .int e2 u2, .int e3 u3, .int e4 u4] ep) :: (A, LCg.lst [.int c0 t0, .int c1 t1, .int c2 t2, .int c3 t3]) :: cellsN L o1 o2 o3 o4 o5 o6) := by
  obtain ⟨KX, X, V, GL, T, BT, TE, TW⟩ := C
  intro h tk m F ok N P
  revert KX
  k_fill
  intro KX
  unfold cellsN at N P
  conv in (execs _ _) => arg 1; whnf
  obtain ⟨⟨⟨m1, m2, m3, m4⟩, m5, m6, -, -, -⟩, m7, m8, m9⟩ := ok
  walk_at "mine:line"
  refine' next _ _ ?E4 _ _ _ ?F4 ?M4 ?N4 ?P4
  case F4 => assumption
  case M4 =>
    refine ⟨⟨m1, m2, m3, m4⟩, m5, m7, m8, ?_⟩
    rfl
  case E4 => (rw [Str.cps_append, Array.toList_append]; first | exact congrArg (List.cons 32) (by assumption) | (show 32 :: _ = _; simp [*]))
  case N4 => walk_at "mine:led"
  case P4 => walk_at "mine:part"

theorem segD4a_1 {w : World} {mean : ExcName → Option Value} {mg mb : Str → Option Value} {h₀ : Heap} {L a : Addr} {cd : Value} {s : Shared} {Post : Flow → Shared → Prop} {A M J H B T0 T1 T2 T3 T4 lR I9 : Addr} {o9 o1 o2 o3 o4 o5 o6 p0 p1 p2 p3 p4 : Obj}
    (C : LawCtx w mean mg mb h₀) (K0 : Below callerA h₀ [] h₀) {c0 c1 c2 c3 e0 e1 e2 e3 e4 pl : Int} {t0 t1 t2 t3 u0 u1 u2 u3 u4 w0 w1 w2 w3 w4 x0 x1 x2 x3 x4 tp : Tok} {ep er : Nat} {q0 q1 q2 q3 q4 f0 f1 f2 f3 f4 : Str} {P0 : Pc} {P1 : Pc} {P2 : Pc} {P3 : Pc} {P4 : Pc} {rowl : List (Int × Value)} {sv kk : Int} {tk9 ts y1 y2 y3 : Tok}
    (d6 : o6.data = .cell (some (.ref J))) (hq0 : q0.cps.toList = P0.l) (hk0 : P0.ok) (he0 : P0.e = e0) (hq1 : q1.cps.toList = P1.l) (hk1 : P1.ok) (he1 : P1.e = e1) (hq2 : q2.cps.toList = P2.l) (hk2 : P2.ok) (he2 : P2.e = e2) (hq3 : q3.cps.toList = P3.l) (hk3 : P3.ok) (he3 : P3.e = e3) (hq4 : q4.cps.toList = P4.l) (hk4 : P4.ok) (he4 : P4.e = e4)
    (next : ∀ tu y4, tu.cps.toList = 32 :: catL [P1, P2, P3, P4, P0] → GoesM w h₀ L a cd (pBody.drop 11) Post s (fun m => (m (Str.ofString "row") = some (.ref lR) ∧ m (Str.ofString "fronts") = some (.ref M) ∧ m (Str.ofString "cells") = some (.ref A) ∧ m (Str.ofString "place") = some (.int pl tp)) ∧ m (Str.ofString "k") = some (.int 1 tk9) ∧ m (Str.ofString "label") = some (.str (labS kk (Str.ofString "b")) y1) ∧ m (Str.ofString "name") = some (.str (nameS kk (Str.ofString "b")) y2) ∧ m (Str.ofString "turned") = some (.str tu y4)) ((I9, o9) :: (lR, listOf (rowl.map (·.2)).toArray er) :: (M, LCg.lst [.bytes (octs f0) x0, .bytes (octs f1) x1, .bytes (octs f2) x2, .bytes (octs f3) x3, .bytes (octs f4) x4]) :: (J, LCg.lst [.str q0 w0, .str q1 w1, .str q2 w2, .str q3 w3, .str q4 w4]) :: (H, LCg.lst [.ref T0, .ref T1, .ref T2, .ref T3, .ref T4]) :: (T4, p4) :: (T3, p3) :: (T2, p2) :: (T1, p1) :: (T0, p0) :: (B, listOf #[.int e0 u0, .int e1 u1, .int e2 u2, .int e3 u3, .int e4 u4] ep) :: (A, LCg.lst [.int c0 t0, .int c1 t1, .int c2 t2, .int c3 t3]) :: cellsN L o1 o2 o3 o4 o5 o6)) :
    GoesM w h₀ L a cd (pBody.drop 10) Post s (fun m => ((m (Str.ofString "row") = some (.ref lR) ∧ m (Str.ofString "fronts") = some (.ref M) ∧ m (Str.ofString "cells") = some (.ref A) ∧ m (Str.ofString "place") = some (.int pl tp)) ∧ m (Str.ofString "k") = some (.int 1 tk9) ∧ m (Str.ofString "start") = some (.int sv ts) ∧ (∃ t, m (Str.ofString "depth") = some (.int (((((sv + e1) + e2) + e3) + e4) + e0) t)) ∧ (∃ t, m (Str.ofString "due") = some (.int (((((sv + e1) + e2) + e3) + e4) + e0) t)) ∧ (∃ t, m (Str.ofString "low") = some (.int (((((0 + if (sv + e1) ≤ sv then 1 else 0) + if ((sv + e1) + e2) ≤ sv then 1 else 0) + if (((sv + e1) + e2) + e3) ≤ sv then 1 else 0) + if ((((sv + e1) + e2) + e3) + e4) ≤ sv then 1 else 0) + if (((((sv + e1) + e2) + e3) + e4) + e0) ≤ sv then 1 else 0) t))) ∧ m (Str.ofString "label") = some (.str (labS kk (Str.ofString "b")) y1) ∧ m (Str.ofString "name") = some (.str (nameS kk (Str.ofString "b")) y2) ∧ m (Str.ofString "more") = some (.int (moreI kk) y3)) ((I9, o9) :: (lR, listOf (rowl.map (·.2)).toArray er) :: (M, LCg.lst [.bytes (octs f0) x0, .bytes (octs f1) x1, .bytes (octs f2) x2, .bytes (octs f3) x3, .bytes (octs f4) x4]) :: (J, LCg.lst [.str q0 w0, .str q1 w1, .str q2 w2, .str q3 w3, .str q4 w4]) :: (H, LCg.lst [.ref T0, .ref T1, .ref T2, .ref T3, .ref T4]) :: (T4, p4) :: (T3, p3) :: (T2, p2) :: (T1, p1) :: (T0, p0) :: (B, listOf #[.int e0 u0, .int e1 u1, .int e2 u2, .int e3 u3, .int e4 u4] ep) :: (A, LCg.lst [.int c0 t0, .int c1 t1, .int c2 t2, .int c3 t3]) :: cellsN L o1 o2 o3 o4 o5 o6) := by
  obtain ⟨KX, X, V, GL, T, BT, TE, TW⟩ := C
  intro h tk m F ok N P
  revert KX
  k_fill
  intro KX
  unfold cellsN at N P
  conv in (execs _ _) => arg 1; whnf
  obtain ⟨⟨⟨m1, m2, m3, m4⟩, m5, m6, -, -, -⟩, m7, m8, m9⟩ := ok
  walk_at "mine:line"
  refine' next _ _ ?E4 _ _ _ ?F4 ?M4 ?N4 ?P4
  case F4 => assumption
  case M4 =>
    refine ⟨⟨m1, m2, m3, m4⟩, m5, m7, m8, ?_⟩
    rfl
  case E4 => (rw [Str.cps_append, Array.toList_append]; first | exact congrArg (List.cons 32) (by assumption) | (show 32 :: _ = _; simp [*]))
  case N4 => walk_at "mine:led"
  case P4 => walk_at "mine:part"

theorem segD4a_2 {w : World} {mean : ExcName → Option Value} {mg mb : Str → Option Value} {h₀ : Heap} {L a : Addr} {cd : Value} {s : Shared} {Post : Flow → Shared → Prop} {A M J H B T0 T1 T2 T3 T4 lR I9 : Addr} {o9 o1 o2 o3 o4 o5 o6 p0 p1 p2 p3 p4 : Obj}
    (C : LawCtx w mean mg mb h₀) (K0 : Below callerA h₀ [] h₀) {c0 c1 c2 c3 e0 e1 e2 e3 e4 pl : Int} {t0 t1 t2 t3 u0 u1 u2 u3 u4 w0 w1 w2 w3 w4 x0 x1 x2 x3 x4 tp : Tok} {ep er : Nat} {q0 q1 q2 q3 q4 f0 f1 f2 f3 f4 : Str} {P0 : Pc} {P1 : Pc} {P2 : Pc} {P3 : Pc} {P4 : Pc} {rowl : List (Int × Value)} {sv kk : Int} {tk9 ts y1 y2 y3 : Tok}
    (d6 : o6.data = .cell (some (.ref J))) (hq0 : q0.cps.toList = P0.l) (hk0 : P0.ok) (he0 : P0.e = e0) (hq1 : q1.cps.toList = P1.l) (hk1 : P1.ok) (he1 : P1.e = e1) (hq2 : q2.cps.toList = P2.l) (hk2 : P2.ok) (he2 : P2.e = e2) (hq3 : q3.cps.toList = P3.l) (hk3 : P3.ok) (he3 : P3.e = e3) (hq4 : q4.cps.toList = P4.l) (hk4 : P4.ok) (he4 : P4.e = e4)
    (next : ∀ tu y4, tu.cps.toList = 32 :: catL [P2, P3, P4, P0, P1] → GoesM w h₀ L a cd (pBody.drop 11) Post s (fun m => (m (Str.ofString "row") = some (.ref lR) ∧ m (Str.ofString "fronts") = some (.ref M) ∧ m (Str.ofString "cells") = some (.ref A) ∧ m (Str.ofString "place") = some (.int pl tp)) ∧ m (Str.ofString "k") = some (.int 2 tk9) ∧ m (Str.ofString "label") = some (.str (labS kk (Str.ofString "c")) y1) ∧ m (Str.ofString "name") = some (.str (nameS kk (Str.ofString "c")) y2) ∧ m (Str.ofString "turned") = some (.str tu y4)) ((I9, o9) :: (lR, listOf (rowl.map (·.2)).toArray er) :: (M, LCg.lst [.bytes (octs f0) x0, .bytes (octs f1) x1, .bytes (octs f2) x2, .bytes (octs f3) x3, .bytes (octs f4) x4]) :: (J, LCg.lst [.str q0 w0, .str q1 w1, .str q2 w2, .str q3 w3, .str q4 w4]) :: (H, LCg.lst [.ref T0, .ref T1, .ref T2, .ref T3, .ref T4]) :: (T4, p4) :: (T3, p3) :: (T2, p2) :: (T1, p1) :: (T0, p0) :: (B, listOf #[.int e0 u0, .int e1 u1, .int e2 u2, .int e3 u3, .int e4 u4] ep) :: (A, LCg.lst [.int c0 t0, .int c1 t1, .int c2 t2, .int c3 t3]) :: cellsN L o1 o2 o3 o4 o5 o6)) :
    GoesM w h₀ L a cd (pBody.drop 10) Post s (fun m => ((m (Str.ofString "row") = some (.ref lR) ∧ m (Str.ofString "fronts") = some (.ref M) ∧ m (Str.ofString "cells") = some (.ref A) ∧ m (Str.ofString "place") = some (.int pl tp)) ∧ m (Str.ofString "k") = some (.int 2 tk9) ∧ m (Str.ofString "start") = some (.int sv ts) ∧ (∃ t, m (Str.ofString "depth") = some (.int (((((sv + e2) + e3) + e4) + e0) + e1) t)) ∧ (∃ t, m (Str.ofString "due") = some (.int (((((sv + e2) + e3) + e4) + e0) + e1) t)) ∧ (∃ t, m (Str.ofString "low") = some (.int (((((0 + if (sv + e2) ≤ sv then 1 else 0) + if ((sv + e2) + e3) ≤ sv then 1 else 0) + if (((sv + e2) + e3) + e4) ≤ sv then 1 else 0) + if ((((sv + e2) + e3) + e4) + e0) ≤ sv then 1 else 0) + if (((((sv + e2) + e3) + e4) + e0) + e1) ≤ sv then 1 else 0) t))) ∧ m (Str.ofString "label") = some (.str (labS kk (Str.ofString "c")) y1) ∧ m (Str.ofString "name") = some (.str (nameS kk (Str.ofString "c")) y2) ∧ m (Str.ofString "more") = some (.int (moreI kk) y3)) ((I9, o9) :: (lR, listOf (rowl.map (·.2)).toArray er) :: (M, LCg.lst [.bytes (octs f0) x0, .bytes (octs f1) x1, .bytes (octs f2) x2, .bytes (octs f3) x3, .bytes (octs f4) x4]) :: (J, LCg.lst [.str q0 w0, .str q1 w1, .str q2 w2, .str q3 w3, .str q4 w4]) :: (H, LCg.lst [.ref T0, .ref T1, .ref T2, .ref T3, .ref T4]) :: (T4, p4) :: (T3, p3) :: (T2, p2) :: (T1, p1) :: (T0, p0) :: (B, listOf #[.int e0 u0, .int e1 u1, .int e2 u2, .int e3 u3, .int e4 u4] ep) :: (A, LCg.lst [.int c0 t0, .int c1 t1, .int c2 t2, .int c3 t3]) :: cellsN L o1 o2 o3 o4 o5 o6) := by
  obtain ⟨KX, X, V, GL, T, BT, TE, TW⟩ := C
  intro h tk m F ok N P
  revert KX
  k_fill
  intro KX
  unfold cellsN at N P
  conv in (execs _ _) => arg 1; whnf
  obtain ⟨⟨⟨m1, m2, m3, m4⟩, m5, m6, -, -, -⟩, m7, m8, m9⟩ := ok
  walk_at "mine:line"
  refine' next _ _ ?E4 _ _ _ ?F4 ?M4 ?N4 ?P4
  case F4 => assumption
  case M4 =>
    refine ⟨⟨m1, m2, m3, m4⟩, m5, m7, m8, ?_⟩
    rfl
  case E4 => (rw [Str.cps_append, Array.toList_append]; first | exact congrArg (List.cons 32) (by assumption) | (show 32 :: _ = _; simp [*]))
  case N4 => walk_at "mine:led"
  case P4 => walk_at "mine:part"

theorem segD4a_3 {w : World} {mean : ExcName → Option Value} {mg mb : Str → Option Value} {h₀ : Heap} {L a : Addr} {cd : Value} {s : Shared} {Post : Flow → Shared → Prop} {A M J H B T0 T1 T2 T3 T4 lR I9 : Addr} {o9 o1 o2 o3 o4 o5 o6 p0 p1 p2 p3 p4 : Obj}
    (C : LawCtx w mean mg mb h₀) (K0 : Below callerA h₀ [] h₀) {c0 c1 c2 c3 e0 e1 e2 e3 e4 pl : Int} {t0 t1 t2 t3 u0 u1 u2 u3 u4 w0 w1 w2 w3 w4 x0 x1 x2 x3 x4 tp : Tok} {ep er : Nat} {q0 q1 q2 q3 q4 f0 f1 f2 f3 f4 : Str} {P0 : Pc} {P1 : Pc} {P2 : Pc} {P3 : Pc} {P4 : Pc} {rowl : List (Int × Value)} {sv kk : Int} {tk9 ts y1 y2 y3 : Tok}
    (d6 : o6.data = .cell (some (.ref J))) (hq0 : q0.cps.toList = P0.l) (hk0 : P0.ok) (he0 : P0.e = e0) (hq1 : q1.cps.toList = P1.l) (hk1 : P1.ok) (he1 : P1.e = e1) (hq2 : q2.cps.toList = P2.l) (hk2 : P2.ok) (he2 : P2.e = e2) (hq3 : q3.cps.toList = P3.l) (hk3 : P3.ok) (he3 : P3.e = e3) (hq4 : q4.cps.toList = P4.l) (hk4 : P4.ok) (he4 : P4.e = e4)
    (next : ∀ tu y4, tu.cps.toList = 32 :: catL [P3, P4, P0, P1, P2] → GoesM w h₀ L a cd (pBody.drop 11) Post s (fun m => (m (Str.ofString "row") = some (.ref lR) ∧ m (Str.ofString "fronts") = some (.ref M) ∧ m (Str.ofString "cells") = some (.ref A) ∧ m (Str.ofString "place") = some (.int pl tp)) ∧ m (Str.ofString "k") = some (.int 3 tk9) ∧ m (Str.ofString "label") = some (.str (labS kk (Str.ofString "d")) y1) ∧ m (Str.ofString "name") = some (.str (nameS kk (Str.ofString "d")) y2) ∧ m (Str.ofString "turned") = some (.str tu y4)) ((I9, o9) :: (lR, listOf (rowl.map (·.2)).toArray er) :: (M, LCg.lst [.bytes (octs f0) x0, .bytes (octs f1) x1, .bytes (octs f2) x2, .bytes (octs f3) x3, .bytes (octs f4) x4]) :: (J, LCg.lst [.str q0 w0, .str q1 w1, .str q2 w2, .str q3 w3, .str q4 w4]) :: (H, LCg.lst [.ref T0, .ref T1, .ref T2, .ref T3, .ref T4]) :: (T4, p4) :: (T3, p3) :: (T2, p2) :: (T1, p1) :: (T0, p0) :: (B, listOf #[.int e0 u0, .int e1 u1, .int e2 u2, .int e3 u3, .int e4 u4] ep) :: (A, LCg.lst [.int c0 t0, .int c1 t1, .int c2 t2, .int c3 t3]) :: cellsN L o1 o2 o3 o4 o5 o6)) :
    GoesM w h₀ L a cd (pBody.drop 10) Post s (fun m => ((m (Str.ofString "row") = some (.ref lR) ∧ m (Str.ofString "fronts") = some (.ref M) ∧ m (Str.ofString "cells") = some (.ref A) ∧ m (Str.ofString "place") = some (.int pl tp)) ∧ m (Str.ofString "k") = some (.int 3 tk9) ∧ m (Str.ofString "start") = some (.int sv ts) ∧ (∃ t, m (Str.ofString "depth") = some (.int (((((sv + e3) + e4) + e0) + e1) + e2) t)) ∧ (∃ t, m (Str.ofString "due") = some (.int (((((sv + e3) + e4) + e0) + e1) + e2) t)) ∧ (∃ t, m (Str.ofString "low") = some (.int (((((0 + if (sv + e3) ≤ sv then 1 else 0) + if ((sv + e3) + e4) ≤ sv then 1 else 0) + if (((sv + e3) + e4) + e0) ≤ sv then 1 else 0) + if ((((sv + e3) + e4) + e0) + e1) ≤ sv then 1 else 0) + if (((((sv + e3) + e4) + e0) + e1) + e2) ≤ sv then 1 else 0) t))) ∧ m (Str.ofString "label") = some (.str (labS kk (Str.ofString "d")) y1) ∧ m (Str.ofString "name") = some (.str (nameS kk (Str.ofString "d")) y2) ∧ m (Str.ofString "more") = some (.int (moreI kk) y3)) ((I9, o9) :: (lR, listOf (rowl.map (·.2)).toArray er) :: (M, LCg.lst [.bytes (octs f0) x0, .bytes (octs f1) x1, .bytes (octs f2) x2, .bytes (octs f3) x3, .bytes (octs f4) x4]) :: (J, LCg.lst [.str q0 w0, .str q1 w1, .str q2 w2, .str q3 w3, .str q4 w4]) :: (H, LCg.lst [.ref T0, .ref T1, .ref T2, .ref T3, .ref T4]) :: (T4, p4) :: (T3, p3) :: (T2, p2) :: (T1, p1) :: (T0, p0) :: (B, listOf #[.int e0 u0, .int e1 u1, .int e2 u2, .int e3 u3, .int e4 u4] ep) :: (A, LCg.lst [.int c0 t0, .int c1 t1, .int c2 t2, .int c3 t3]) :: cellsN L o1 o2 o3 o4 o5 o6) := by
  obtain ⟨KX, X, V, GL, T, BT, TE, TW⟩ := C
  intro h tk m F ok N P
  revert KX
  k_fill
  intro KX
  unfold cellsN at N P
  conv in (execs _ _) => arg 1; whnf
  obtain ⟨⟨⟨m1, m2, m3, m4⟩, m5, m6, -, -, -⟩, m7, m8, m9⟩ := ok
  walk_at "mine:line"
  refine' next _ _ ?E4 _ _ _ ?F4 ?M4 ?N4 ?P4
  case F4 => assumption
  case M4 =>
    refine ⟨⟨m1, m2, m3, m4⟩, m5, m7, m8, ?_⟩
    rfl
  case E4 => (rw [Str.cps_append, Array.toList_append]; first | exact congrArg (List.cons 32) (by assumption) | (show 32 :: _ = _; simp [*]))
  case N4 => walk_at "mine:led"
  case P4 => walk_at "mine:part"

theorem segD4a_4 {w : World} {mean : ExcName → Option Value} {mg mb : Str → Option Value} {h₀ : Heap} {L a : Addr} {cd : Value} {s : Shared} {Post : Flow → Shared → Prop} {A M J H B T0 T1 T2 T3 T4 lR I9 : Addr} {o9 o1 o2 o3 o4 o5 o6 p0 p1 p2 p3 p4 : Obj}
    (C : LawCtx w mean mg mb h₀) (K0 : Below callerA h₀ [] h₀) {c0 c1 c2 c3 e0 e1 e2 e3 e4 pl : Int} {t0 t1 t2 t3 u0 u1 u2 u3 u4 w0 w1 w2 w3 w4 x0 x1 x2 x3 x4 tp : Tok} {ep er : Nat} {q0 q1 q2 q3 q4 f0 f1 f2 f3 f4 : Str} {P0 : Pc} {P1 : Pc} {P2 : Pc} {P3 : Pc} {P4 : Pc} {rowl : List (Int × Value)} {sv kk : Int} {tk9 ts y1 y2 y3 : Tok}
    (d6 : o6.data = .cell (some (.ref J))) (hq0 : q0.cps.toList = P0.l) (hk0 : P0.ok) (he0 : P0.e = e0) (hq1 : q1.cps.toList = P1.l) (hk1 : P1.ok) (he1 : P1.e = e1) (hq2 : q2.cps.toList = P2.l) (hk2 : P2.ok) (he2 : P2.e = e2) (hq3 : q3.cps.toList = P3.l) (hk3 : P3.ok) (he3 : P3.e = e3) (hq4 : q4.cps.toList = P4.l) (hk4 : P4.ok) (he4 : P4.e = e4)
    (next : ∀ tu y4, tu.cps.toList = 32 :: catL [P4, P0, P1, P2, P3] → GoesM w h₀ L a cd (pBody.drop 11) Post s (fun m => (m (Str.ofString "row") = some (.ref lR) ∧ m (Str.ofString "fronts") = some (.ref M) ∧ m (Str.ofString "cells") = some (.ref A) ∧ m (Str.ofString "place") = some (.int pl tp)) ∧ m (Str.ofString "k") = some (.int 4 tk9) ∧ m (Str.ofString "label") = some (.str (labS kk (Str.ofString "e")) y1) ∧ m (Str.ofString "name") = some (.str (nameS kk (Str.ofString "e")) y2) ∧ m (Str.ofString "turned") = some (.str tu y4)) ((I9, o9) :: (lR, listOf (rowl.map (·.2)).toArray er) :: (M, LCg.lst [.bytes (octs f0) x0, .bytes (octs f1) x1, .bytes (octs f2) x2, .bytes (octs f3) x3, .bytes (octs f4) x4]) :: (J, LCg.lst [.str q0 w0, .str q1 w1, .str q2 w2, .str q3 w3, .str q4 w4]) :: (H, LCg.lst [.ref T0, .ref T1, .ref T2, .ref T3, .ref T4]) :: (T4, p4) :: (T3, p3) :: (T2, p2) :: (T1, p1) :: (T0, p0) :: (B, listOf #[.int e0 u0, .int e1 u1, .int e2 u2, .int e3 u3, .int e4 u4] ep) :: (A, LCg.lst [.int c0 t0, .int c1 t1, .int c2 t2, .int c3 t3]) :: cellsN L o1 o2 o3 o4 o5 o6)) :
    GoesM w h₀ L a cd (pBody.drop 10) Post s (fun m => ((m (Str.ofString "row") = some (.ref lR) ∧ m (Str.ofString "fronts") = some (.ref M) ∧ m (Str.ofString "cells") = some (.ref A) ∧ m (Str.ofString "place") = some (.int pl tp)) ∧ m (Str.ofString "k") = some (.int 4 tk9) ∧ m (Str.ofString "start") = some (.int sv ts) ∧ (∃ t, m (Str.ofString "depth") = some (.int (((((sv + e4) + e0) + e1) + e2) + e3) t)) ∧ (∃ t, m (Str.ofString "due") = some (.int (((((sv + e4) + e0) + e1) + e2) + e3) t)) ∧ (∃ t, m (Str.ofString "low") = some (.int (((((0 + if (sv + e4) ≤ sv then 1 else 0) + if ((sv + e4) + e0) ≤ sv then 1 else 0) + if (((sv + e4) + e0) + e1) ≤ sv then 1 else 0) + if ((((sv + e4) + e0) + e1) + e2) ≤ sv then 1 else 0) + if (((((sv + e4) + e0) + e1) + e2) + e3) ≤ sv then 1 else 0) t))) ∧ m (Str.ofString "label") = some (.str (labS kk (Str.ofString "e")) y1) ∧ m (Str.ofString "name") = some (.str (nameS kk (Str.ofString "e")) y2) ∧ m (Str.ofString "more") = some (.int (moreI kk) y3)) ((I9, o9) :: (lR, listOf (rowl.map (·.2)).toArray er) :: (M, LCg.lst [.bytes (octs f0) x0, .bytes (octs f1) x1, .bytes (octs f2) x2, .bytes (octs f3) x3, .bytes (octs f4) x4]) :: (J, LCg.lst [.str q0 w0, .str q1 w1, .str q2 w2, .str q3 w3, .str q4 w4]) :: (H, LCg.lst [.ref T0, .ref T1, .ref T2, .ref T3, .ref T4]) :: (T4, p4) :: (T3, p3) :: (T2, p2) :: (T1, p1) :: (T0, p0) :: (B, listOf #[.int e0 u0, .int e1 u1, .int e2 u2, .int e3 u3, .int e4 u4] ep) :: (A, LCg.lst [.int c0 t0, .int c1 t1, .int c2 t2, .int c3 t3]) :: cellsN L o1 o2 o3 o4 o5 o6) := by
  obtain ⟨KX, X, V, GL, T, BT, TE, TW⟩ := C
  intro h tk m F ok N P
  revert KX
  k_fill
  intro KX
  unfold cellsN at N P
  conv in (execs _ _) => arg 1; whnf
  obtain ⟨⟨⟨m1, m2, m3, m4⟩, m5, m6, -, -, -⟩, m7, m8, m9⟩ := ok
  walk_at "mine:line"
  refine' next _ _ ?E4 _ _ _ ?F4 ?M4 ?N4 ?P4
  case F4 => assumption
  case M4 =>
    refine ⟨⟨m1, m2, m3, m4⟩, m5, m7, m8, ?_⟩
    rfl
  case E4 => (rw [Str.cps_append, Array.toList_append]; first | exact congrArg (List.cons 32) (by assumption) | (show 32 :: _ = _; simp [*]))
  case N4 => walk_at "mine:led"
  case P4 => walk_at "mine:part"

end Mine

-- part W16
namespace Mine
open PySem PySem.W PySem.Calls PyProof.Rows
set_option Elab.async false
set_option maxRecDepth 100000
set_option maxHeartbeats 8000000

theorem str_useA {w : World} {p : Program} {loose : List Str} {mean : ExcName → Option Value} {mg mb : Str → Option Value} {h₀ : Heap} {L fa f : Addr} {cd : Value} {m : Str → Option Value} {news : List (Addr × Obj)} {s : Shared} {Q E : Value → Shared → Prop} {y x : Str} {u : Tok}
    (K0 : Below callerA h₀ [] h₀) (F : Fr h₀ L s.heap m) (X : (Mine.hd.heap_39 w.params).In h₀) (N : News h₀ L s.heap news) (T : Top p loose mean mg mb h₀) (C : ∀ t, StrTells w f [.str y t] x)
    (ret : ∀ (t : Tok) (h' : Heap) (tk' : Nat), Fr h₀ L h' m → News h₀ L h' news → Q (.str x t) { s with heap := h', toks := tk' }) :
    wpAny (model Challenge.rw_wy0015_01.row.prog w) (callerA.deeper (lawEnv L fa cd)) (call (.ref f) [.str y u]) Q E s := str_use K0 F X N T (C u) ret
theorem bool_use {w : World} {p : Program} {loose : List Str} {mean : ExcName → Option Value} {mg mb : Str → Option Value} {h₀ : Heap} {L fa f : Addr} {cd : Value} {m : Str → Option Value} {news : List (Addr × Obj)} {s : Shared} {Q E : Value → Shared → Prop} {y : Str} {u : Tok} {x : Bool}
    (K0 : Below callerA h₀ [] h₀) (F : Fr h₀ L s.heap m) (X : (Mine.hd.heap_39 w.params).In h₀) (N : News h₀ L s.heap news) (T : Top p loose mean mg mb h₀) (C : ∀ t, BoolTells w f [.str y t] x)
    (ret : ∀ (h' : Heap) (tk' : Nat), Fr h₀ L h' m → News h₀ L h' news → Q (.bool x) { s with heap := h', toks := tk' }) :
    wpAny (model Challenge.rw_wy0015_01.row.prog w) (callerA.deeper (lawEnv L fa cd)) (call (.ref f) [.str y u]) Q E s :=
  C u p loose mean mg mb _ _ _ _ _ _ _ _ callerA h₀ h₀ L m news s Q E K0 F X X N T T rfl (by decide) (by decide) ret

theorem off_W16 : True := by w_top off; trivial


local macro_rules | `(tactic| walk_at "subscriptTail Name Slice ref ref") => `(tactic| (k_here; (with_reducible show wpAny _ _ (subscriptTail _ (PySem.Expr.Slice _ none (some _) _) (Value.ref _) (Value.ref _)) _ _ _); k_dflt (refine' slice_step ?F ?N ?l ?p ?q ?k ?o ?i ?_ ?s ?t ?z; (case F => k_asm); (case N => k_asm); (case l => kmk_list); (case p => kmk_part); (case q => kmk_part); (case k => kmk_part); (case o => decide); (case i => l_ints); (case s => with_unfolding_all rfl); (case t => kmk_pure); (case z => kmk_size)); intro D' ws' h' ms' F' N' l1 hI'; (try k_lt l1); (try k_sweep)))

local macro_rules | `(tactic| walk_at "eval ListComp") => `(tactic| (k_here; k_dflt (refine LCg.ListComp_U (F₀ := by k_asm) (by rfl) (by decide) (by rfl) (by decide) (by rfl) ?_); k_dflt lcg_toSrc))
local macro_rules | `(tactic| walk_at "exec Assign cons ListComp") => `(tactic| (k_here; k_dflt (refine LCg.Assign_ListComp_U (F₀ := by k_asm) (by rfl) (by with_unfolding_all rfl) (by rfl) (by decide) (by rfl) (by decide) (by rfl) (by rfl) (by rfl) ?_); k_dflt lcg_toSrc))
local macro_rules | `(tactic| walk_at "CompSrc") => `(tactic| (k_here; k_dflt (first
  | (refine LCg.CompSrc.ledger (by rfl) (by k_asm) (by k_asm) (by k_mem) (by first | size_fits | exact Nat.le_of_ble_eq_true rfl) ?_; intro g'; lcg_lit)
  | (refine LCg.CompSrc.base (by rfl) (by k_asm) (by k_asm) (by assumption) (by first | size_fits | exact Nat.le_of_ble_eq_true rfl) ?_; intro g'; lcg_lit)
  | (refine LCg.CompSrc.range (by rfl) (by k_asm) (by k_asm) (by assumption) (by first | decide | rfl) (by first | rfl | decide) (by first | size_fits | exact Nat.le_of_ble_eq_true rfl) ?_; intro g'; lcg_lit))))
local macro_rules | `(tactic| walk_at "eval Name") => `(tactic| (k_here; (with_reducible show wpAny _ _ (eval (PySem.Expr.Name _ _) (compEnvC _ _ _ _)) _ _ _); k_dflt (first
  | refine LCgL.ld_own (by k_asm) (by k_mem) (by with_reducible assumption) (by with_reducible assumption) ?_
  | refine lcf_free (by k_asm) (by rfl) (by k_mem) (by with_reducible assumption) ?_
  | refine LCgL.ld_global (by k_asm) (by k_asm) (by k_asm) (by k_is) ?_
  | refine LCgL.ld_built (by k_asm) (by k_asm) (by k_asm) (by k_is) (by boot_by_name) (by decide) ?_)))
local macro_rules | `(tactic| walk_at "mine:go") => `(tactic| (repeat' ((fail_if_success (with_reducible show LCg.CompRest _ _ _ _ _ _ _ _ _ _ _ _ _ _ _ _ _ _ _)); (fail_if_success (with_reducible show RangeRest _ _ _ _ _ _ _ _ _ _ _ _ _ _ _ _ _)); (fail_if_success (with_reducible show wpAny _ _ (execs (_ :: _) _) _ _ _)); first | (k_unfold; (try dsimp only)) | walk1 | (dsimp only; walk1) | (leave1; walk_say "STEP leave1"; (try dsimp only)))))
local macro_rules | `(tactic| walk_at "mine:line") => `(tactic| (walk1; (try ((with_reducible show wpAny _ _ (execs (_ :: _) _) _ _ _); walk1)); walk_at "mine:go"))
local macro_rules | `(tactic| walk_at "mine:sub") => `(tactic| (intro p hp; (repeat (first | exact hp | apply List.mem_cons_of_mem))))

local macro_rules | `(tactic| walk_at "mine:look") => `(tactic| first | assumption | (refine Fr_eq (by assumption) ?_; intro z; first | exact rfl | (simp only [look_cons]; exact rfl) | (simp only [look_cons]; done) | (simp only [look_cons]; split <;> rfl) | (dsimp only; exact rfl)))
local macro_rules | `(tactic| walk_at "mine:led") => `(tactic| (refine news_sub (by assumption) ?_; (try unfold cellsN); lcg_sub))
local macro_rules | `(tactic| walk_at "mine:part") => `(tactic| (refine Apart.sub (by assumption) ?_; (try unfold cellsN); repeat (first | exact List.Sublist.slnil | refine List.Sublist.cons_cons _ ?_ | refine List.Sublist.cons _ ?_)))
local macro_rules | `(tactic| walk_at "mine:at") => `(tactic| first | exact AtIn.head | (refine' AtIn.tail ?b; (case b => walk_at "mine:at")))
local macro_rules | `(tactic| walk_at "storeName") => `(tactic| (k_here; k_dflt (refine' storeA ?F ?N ?P ?c ?U ?d ?_ ?a ?b; (case a => rfl); (case b => rfl); (case F => k_asm); (case N => k_asm); (case P => with_reducible assumption); (case c => rfl); (case U => walk_at "mine:at"); (case d => k_asm); k_whole); intro h' o' F' N' P' d'; (try dsimp only at N' P'); (try k_sweep)))
local macro_rules | `(tactic| walk_at "newList") => `(tactic| (k_here; k_dflt (refine' newList_K ?k1 ?k2 ?_; (case k1 => k_asm); (case k2 => k_asm); k_whole); intro l' h' F' N' l1; have P' := Apart.below N' l1 (by with_reducible assumption); clear l1; (try k_sweep)))
local macro_rules | `(tactic| walk_at "call builtin:list.append") => `(tactic| (k_here; k_dflt (refine' appendA ?F ?N ?P ?U ?_ ?z; (case F => k_asm); (case N => k_asm); (case P => with_reducible assumption); (case U => walk_at "mine:at"); (case z => exact Nat.le_of_ble_eq_true rfl); k_whole); intro h' F' N' P'; (try simp only [List.push_toArray, List.cons_append, List.nil_append] at N' P'); (try k_sweep)))
local macro_rules | `(tactic| walk_at "FinE") => `(tactic| ((unfold LCg.FinE); intro D' h' tk' F' N' o1'; have P' := Apart.cons' N' o1' (by with_reducible assumption); clear o1'; (try simp only [List.nil_append, List.cons_append] at N' P'); (try dsimp only); (try k_sweep)))
local macro_rules | `(tactic| walk_at "FinA") => `(tactic| ((unfold LCg.FinA); intro D' h' tk' F' N' o1'; have P' := Apart.cons' N' o1' (by with_reducible assumption); clear o1'; (try simp only [List.nil_append, List.cons_append] at N' P'); (try dsimp only); (try k_sweep)))


local macro_rules | `(tactic| walk_at "eval Name") => `(tactic| (k_here; (with_reducible show wpAny _ _ (eval (PySem.Expr.Name _ _) (envOfC _ _ _ _ _)) _ _ _); k_dflt (first
  | (refine' nameX_L ?nF ?nv ?_ ?na ?nb; (case na => rfl); (case nb => rfl); (case nF => k_asm); (case nv => assumption); k_whole)
  | (refine' nameX_C ?cN ?cc ?cm ?cd ?_ ?ca ?cb; (case ca => rfl); (case cb => rfl); (case cN => k_asm); (case cc => rfl); (case cm => k_mem); (case cd => k_asm); k_whole)
  | (refine' nameX_K ?kF ?kX ?kT ?ke ?_ ?ka ?kb; (case ka => rfl); (case kb => rfl); (case kF => k_asm); (case kX => k_asm); (case kT => k_asm); (case ke => k_is); k_whole)
  | (refine' nameX_B ?bF ?bX ?bT ?be ?bv ?bn ?_ ?ba ?bb; (case ba => rfl); (case bb => rfl); (case bF => k_asm); (case bX => k_asm); (case bT => k_asm); (case be => k_is); (case bv => boot_fast); (case bn => decide); k_whole))))
local macro_rules | `(tactic| walk_at "loadName") => `(tactic| (k_here; k_dflt (refine' loadX_Lm ?lF ?lv ?_ ?la ?lb; (case la => rfl); (case lb => rfl); (case lF => k_asm); (case lv => assumption); k_whole)))
local macro_rules | `(tactic| walk_at "subscriptTail Name Name ref int") => `(tactic| (k_here; k_dflt (refine' item_listL (l := List.map _ _) ?sl ?s0 ?s1 ?sx ?_ ?ss ?sg; (case sl => exact News.isList (by k_asm) (by k_mem)); (case s0 => assumption); (case s1 => assumption); (case sx => assumption); (case ss => with_unfolding_all rfl); (case sg => kmk_pure); k_whole)))
local macro_rules | `(tactic| walk_at "call ref") => `(tactic| (k_here; (with_reducible show wpAny _ _ (call (Value.ref 44) [_]) _ _ _); k_dflt (refine' depth_at ?i1 ?i2 ?i3 ?i4 ?i5 (depthK _ _ _ ?i6) ?_; (case i1 => assumption); (case i2 => k_asm); (case i3 => assumption); (case i4 => k_asm); (case i5 => assumption); (case i6 => first | assumption | exact (show ∀ t : Tok, Key (Value.bytes _ t) _ by assumption) _)); intro t' h' tk' F' N'; (try k_sweep)))
local macro_rules | `(tactic| walk_at "call ref") => `(tactic| (k_here; (with_reducible show wpAny _ _ (call (Value.ref 44) [_, _]) _ _ _); k_dflt (refine' depth_at ?i1 ?i2 ?i3 ?i4 ?i5 (depthK2 _ _ _ _ _ ?i6) ?_; (case i1 => assumption); (case i2 => k_asm); (case i3 => assumption); (case i4 => k_asm); (case i5 => assumption); (case i6 => first | assumption | exact (show ∀ t : Tok, Key (Value.bytes _ t) _ by assumption) _)); intro t' h' tk' F' N'; (try k_sweep)))

local macro_rules | `(tactic| walk_at "binaryOp Add str str") => `(tactic| (k_here; (with_reducible show wpAny _ _ (binaryOp Operator.Add (Value.str _ _) (Value.str _ _)) _ _ _); k_dflt (refine' PyProof.Rows.add_str ?_ ?az; (case az => first | with_reducible assumption | assumption)); intro t' k'))
local macro_rules | `(tactic| walk_at "subscriptTail") => `(tactic| (k_here; (with_reducible show wpAny _ _ (subscriptTail _ (PySem.Expr.Slice _ _ _ _) (Value.str _ _) (Value.ref _)) _ _ _); k_dflt (first
  | (refine' slice_strN_ns ?sF ?sN ?_ ?ss ?st ?sz; (case sF => k_asm); (case sN => k_asm); (case ss => with_unfolding_all rfl); (case st => kmk_pure); (case sz => assumption))
  | (refine' slice_strN_sn ?rF ?rN ?_ ?rs ?rt ?rz; (case rF => k_asm); (case rN => k_asm); (case rs => with_unfolding_all rfl); (case rt => kmk_pure); (case rz => assumption))); intro h' t' k' F' N'; (try k_sweep)))
local macro_rules | `(tactic| walk_at "call ref") => `(tactic| (k_here; (with_reducible show wpAny _ _ (call (Value.ref 112) _) _ _ _); k_dflt (refine' str_useA ?i1 ?i2 ?i3 ?i4 ?i5 ?i6 ?_; (case i1 => assumption); (case i2 => k_asm); (case i3 => assumption); (case i4 => k_asm); (case i5 => assumption); (case i6 => first | with_reducible assumption | assumption)); intro t' h' tk' F' N'; (try k_sweep)))
local macro_rules | `(tactic| walk_at "call ref") => `(tactic| (k_here; (with_reducible show wpAny _ _ (call (Value.ref 133) _) _ _ _); k_dflt (refine' bool_use ?j1 ?j2 ?j3 ?j4 ?j5 ?j6 ?_; (case j1 => assumption); (case j2 => k_asm); (case j3 => assumption); (case j4 => k_asm); (case j5 => assumption); (case j6 => first | with_reducible assumption | assumption)); intro h' tk' F' N'; (try k_sweep)))
theorem segD4c {w : World} {mean : ExcName → Option Value} {mg mb : Str → Option Value} {h₀ : Heap} {L a : Addr} {cd : Value} {s : Shared} {Post : Flow → Shared → Prop} (C : LawCtx w mean mg mb h₀) (K0 : Below callerA h₀ [] h₀) {news : List (Addr × Obj)} {lab nm tu : Str} {y1 y2 y4 : Tok}
    (hA0 : ∀ t, StrTells w 112 [.str ((Str.ofString "257") ++ tu) t] nm) (hB0 : (Str.ofString "257").length + tu.length ≤ sizeLine)
    (hA1 : ∀ t, StrTells w 112 [.str ((Str.ofString "257 ") ++ lab) t] nm) (hB1 : (Str.ofString "257 ").length + lab.length ≤ sizeLine)
    (hA2 : ∀ t, StrTells w 112 [.str ((Str.ofString "257 ") ++ (Txt.slice lab none (some (-1)))) t] nm) (hB2 : (Str.ofString "257 ").length + (Txt.slice lab none (some (-1))).length ≤ sizeLine)
    (hA3 : ∀ t, StrTells w 112 [.str ((Str.ofString "257-") ++ (Txt.slice tu (some 1) none)) t] (Str.ofString "")) (hB3 : (Str.ofString "257-").length + (Txt.slice tu (some 1) none).length ≤ sizeLine)
    (hA4 : ∀ t, StrTells w 112 [.str ((Str.ofString "257 ") ++ (Txt.slice tu (some 2) none)) t] (Str.ofString "")) (hB4 : (Str.ofString "257 ").length + (Txt.slice tu (some 2) none).length ≤ sizeLine)
    (hB7 : lab.length ≤ sizeLine) (hB8 : tu.length ≤ sizeLine) {h : Heap} {tk : Nat} {m : Str → Option Value} (F : Fr h₀ L h m) (m7 : m (Str.ofString "label") = some (.str lab y1)) (m8 : m (Str.ofString "name") = some (.str nm y2)) (m9 : m (Str.ofString "turned") = some (.str tu y4)) (N : News h₀ L h news)
    (ret : ∀ h' tk', Fr h₀ L h' m → News h₀ L h' news → wpAny (model Challenge.rw_wy0015_01.row.prog w) (callerA.deeper (lawEnv L a cd)) (execs (pBody.drop 13) (lawEnv L a cd)) Post (fun _ _ => False) { s with heap := h', toks := tk' }) :
    wpAny (model Challenge.rw_wy0015_01.row.prog w) (callerA.deeper (lawEnv L a cd)) (execs (pBody.drop 11) (lawEnv L a cd)) Post (fun _ _ => False) { s with heap := h, toks := tk } := by
  have ret' : ∀ h' tk', Fr h₀ L h' m → News h₀ L h' news → wpAny (model Challenge.rw_wy0015_01.row.prog w) (callerA.deeper (lawEnv L a cd)) (execs (pBody.drop 13) (lawEnv L a cd)) Post (fun _ _ => False) { s with heap := h', toks := tk' } := ret
  clear ret
  conv at ret' in (execs _ _) => arg 1; whnf
  obtain ⟨KX, X, V, GL, T, BT, TE, TW⟩ := C
  revert KX
  k_fill
  intro KX
  conv in (execs _ _) => arg 1; whnf
  walk_at "mine:line"
  all_goals try (exfalso; simp_all; done)
  walk_at "mine:line"
  all_goals try (exfalso; simp_all; done)
  with_reducible refine ret' _ _ (by assumption) (by assumption)

theorem segD4e_0 {w : World} {mean : ExcName → Option Value} {mg mb : Str → Option Value} {h₀ : Heap} {L a : Addr} {cd : Value} {s : Shared} {Post : Flow → Shared → Prop} (C : LawCtx w mean mg mb h₀) (K0 : Below callerA h₀ [] h₀) {news : List (Addr × Obj)} {tu : Str} {tk9 y4 : Tok}
    (hA9 : ∀ t, BoolTells w 133 [.str ((Str.ofString "157") ++ tu) t] true) (hB9 : (Str.ofString "157").length + tu.length ≤ sizeLine) {h : Heap} {tk : Nat} {m : Str → Option Value} (F : Fr h₀ L h m) (m5 : m (Str.ofString "k") = some (.int 0 tk9)) (m9 : m (Str.ofString "turned") = some (.str tu y4)) (N : News h₀ L h news)
    (ret : ∀ h' tk', Fr h₀ L h' m → News h₀ L h' news → Post .next { s with heap := h', toks := tk' }) :
    wpAny (model Challenge.rw_wy0015_01.row.prog w) (callerA.deeper (lawEnv L a cd)) (execs (pBody.drop 13) (lawEnv L a cd)) Post (fun _ _ => False) { s with heap := h, toks := tk } := by
  obtain ⟨KX, X, V, GL, T, BT, TE, TW⟩ := C
  revert KX
  k_fill
  intro KX
  conv in (execs _ _) => arg 1; whnf
  walk_at "mine:line"
  exact ret _ _ (by assumption) (news_sub (by assumption) (by walk_at "mine:sub"))

theorem segD4e_1 {w : World} {mean : ExcName → Option Value} {mg mb : Str → Option Value} {h₀ : Heap} {L a : Addr} {cd : Value} {s : Shared} {Post : Flow → Shared → Prop} (C : LawCtx w mean mg mb h₀) (K0 : Below callerA h₀ [] h₀) {news : List (Addr × Obj)} {tu : Str} {tk9 y4 : Tok}
    (hA9 : ∀ t, BoolTells w 133 [.str ((Str.ofString "207") ++ tu) t] true) (hB9 : (Str.ofString "207").length + tu.length ≤ sizeLine) {h : Heap} {tk : Nat} {m : Str → Option Value} (F : Fr h₀ L h m) (m5 : m (Str.ofString "k") = some (.int 1 tk9)) (m9 : m (Str.ofString "turned") = some (.str tu y4)) (N : News h₀ L h news)
    (ret : ∀ h' tk', Fr h₀ L h' m → News h₀ L h' news → Post .next { s with heap := h', toks := tk' }) :
    wpAny (model Challenge.rw_wy0015_01.row.prog w) (callerA.deeper (lawEnv L a cd)) (execs (pBody.drop 13) (lawEnv L a cd)) Post (fun _ _ => False) { s with heap := h, toks := tk } := by
  obtain ⟨KX, X, V, GL, T, BT, TE, TW⟩ := C
  revert KX
  k_fill
  intro KX
  conv in (execs _ _) => arg 1; whnf
  walk_at "mine:line"
  exact ret _ _ (by assumption) (news_sub (by assumption) (by walk_at "mine:sub"))

theorem segD4e_2 {w : World} {mean : ExcName → Option Value} {mg mb : Str → Option Value} {h₀ : Heap} {L a : Addr} {cd : Value} {s : Shared} {Post : Flow → Shared → Prop} (C : LawCtx w mean mg mb h₀) (K0 : Below callerA h₀ [] h₀) {news : List (Addr × Obj)} {tu : Str} {tk9 y4 : Tok}
    (hA9 : ∀ t, BoolTells w 133 [.str ((Str.ofString "250") ++ tu) t] true) (hB9 : (Str.ofString "250").length + tu.length ≤ sizeLine) {h : Heap} {tk : Nat} {m : Str → Option Value} (F : Fr h₀ L h m) (m5 : m (Str.ofString "k") = some (.int 2 tk9)) (m9 : m (Str.ofString "turned") = some (.str tu y4)) (N : News h₀ L h news)
    (ret : ∀ h' tk', Fr h₀ L h' m → News h₀ L h' news → Post .next { s with heap := h', toks := tk' }) :
    wpAny (model Challenge.rw_wy0015_01.row.prog w) (callerA.deeper (lawEnv L a cd)) (execs (pBody.drop 13) (lawEnv L a cd)) Post (fun _ _ => False) { s with heap := h, toks := tk } := by
  obtain ⟨KX, X, V, GL, T, BT, TE, TW⟩ := C
  revert KX
  k_fill
  intro KX
  conv in (execs _ _) => arg 1; whnf
  walk_at "mine:line"
  exact ret _ _ (by assumption) (news_sub (by assumption) (by walk_at "mine:sub"))

theorem segD4e_3 {w : World} {mean : ExcName → Option Value} {mg mb : Str → Option Value} {h₀ : Heap} {L a : Addr} {cd : Value} {s : Shared} {Post : Flow → Shared → Prop} (C : LawCtx w mean mg mb h₀) (K0 : Below callerA h₀ [] h₀) {news : List (Addr × Obj)} {tu : Str} {tk9 y4 : Tok}
    (hA9 : ∀ t, BoolTells w 133 [.str ((Str.ofString "256") ++ tu) t] true) (hB9 : (Str.ofString "256").length + tu.length ≤ sizeLine) {h : Heap} {tk : Nat} {m : Str → Option Value} (F : Fr h₀ L h m) (m5 : m (Str.ofString "k") = some (.int 3 tk9)) (m9 : m (Str.ofString "turned") = some (.str tu y4)) (N : News h₀ L h news)
    (ret : ∀ h' tk', Fr h₀ L h' m → News h₀ L h' news → Post .next { s with heap := h', toks := tk' }) :
    wpAny (model Challenge.rw_wy0015_01.row.prog w) (callerA.deeper (lawEnv L a cd)) (execs (pBody.drop 13) (lawEnv L a cd)) Post (fun _ _ => False) { s with heap := h, toks := tk } := by
  obtain ⟨KX, X, V, GL, T, BT, TE, TW⟩ := C
  revert KX
  k_fill
  intro KX
  conv in (execs _ _) => arg 1; whnf
  walk_at "mine:line"
  exact ret _ _ (by assumption) (news_sub (by assumption) (by walk_at "mine:sub"))

theorem segD4e_4 {w : World} {mean : ExcName → Option Value} {mg mb : Str → Option Value} {h₀ : Heap} {L a : Addr} {cd : Value} {s : Shared} {Post : Flow → Shared → Prop} (C : LawCtx w mean mg mb h₀) (K0 : Below callerA h₀ [] h₀) {news : List (Addr × Obj)} {tu : Str} {tk9 y4 : Tok}
    (hA9 : ∀ t, BoolTells w 133 [.str ((Str.ofString "357") ++ tu) t] true) (hB9 : (Str.ofString "357").length + tu.length ≤ sizeLine) {h : Heap} {tk : Nat} {m : Str → Option Value} (F : Fr h₀ L h m) (m5 : m (Str.ofString "k") = some (.int 4 tk9)) (m9 : m (Str.ofString "turned") = some (.str tu y4)) (N : News h₀ L h news)
    (ret : ∀ h' tk', Fr h₀ L h' m → News h₀ L h' news → Post .next { s with heap := h', toks := tk' }) :
    wpAny (model Challenge.rw_wy0015_01.row.prog w) (callerA.deeper (lawEnv L a cd)) (execs (pBody.drop 13) (lawEnv L a cd)) Post (fun _ _ => False) { s with heap := h, toks := tk } := by
  obtain ⟨KX, X, V, GL, T, BT, TE, TW⟩ := C
  revert KX
  k_fill
  intro KX
  conv in (execs _ _) => arg 1; whnf
  walk_at "mine:line"
  exact ret _ _ (by assumption) (news_sub (by assumption) (by walk_at "mine:sub"))

theorem segD4b_0 {w : World} {mean : ExcName → Option Value} {mg mb : Str → Option Value} {h₀ : Heap} {L a : Addr} {cd : Value} {s : Shared} {Post : Flow → Shared → Prop} {A M J H B T0 T1 T2 T3 T4 lR I9 : Addr} {o9 o1 o2 o3 o4 o5 o6 p0 p1 p2 p3 p4 : Obj}
    (C : LawCtx w mean mg mb h₀) (K0 : Below callerA h₀ [] h₀) {c0 c1 c2 c3 e0 e1 e2 e3 e4 pl : Int} {t0 t1 t2 t3 u0 u1 u2 u3 u4 w0 w1 w2 w3 w4 x0 x1 x2 x3 x4 tp : Tok} {ep er : Nat} {q0 q1 q2 q3 q4 f0 f1 f2 f3 f4 : Str} {P0 : Pc} {P1 : Pc} {P2 : Pc} {P3 : Pc} {P4 : Pc} {rowl : List (Int × Value)} {kk : Int} {tu : Str} {tk9 y1 y2 y4 : Tok}
    (hA0 : ∀ t, StrTells w 112 [.str ((Str.ofString "257") ++ tu) t] (nameS kk (Str.ofString "a"))) (hB0 : (Str.ofString "257").length + tu.length ≤ sizeLine)
    (hA1 : ∀ t, StrTells w 112 [.str ((Str.ofString "257 ") ++ (labS kk (Str.ofString "a"))) t] (nameS kk (Str.ofString "a"))) (hB1 : (Str.ofString "257 ").length + (labS kk (Str.ofString "a")).length ≤ sizeLine)
    (hA2 : ∀ t, StrTells w 112 [.str ((Str.ofString "257 ") ++ (Txt.slice (labS kk (Str.ofString "a")) none (some (-1)))) t] (nameS kk (Str.ofString "a"))) (hB2 : (Str.ofString "257 ").length + (Txt.slice (labS kk (Str.ofString "a")) none (some (-1))).length ≤ sizeLine)
    (hA3 : ∀ t, StrTells w 112 [.str ((Str.ofString "257-") ++ (Txt.slice tu (some 1) none)) t] (Str.ofString "")) (hB3 : (Str.ofString "257-").length + (Txt.slice tu (some 1) none).length ≤ sizeLine)
    (hA4 : ∀ t, StrTells w 112 [.str ((Str.ofString "257 ") ++ (Txt.slice tu (some 2) none)) t] (Str.ofString "")) (hB4 : (Str.ofString "257 ").length + (Txt.slice tu (some 2) none).length ≤ sizeLine)
    (hA9 : ∀ t, BoolTells w 133 [.str ((Str.ofString "157") ++ tu) t] true) (hB9 : (Str.ofString "157").length + tu.length ≤ sizeLine) (hB7 : (labS kk (Str.ofString "a")).length ≤ sizeLine) (hB8 : tu.length ≤ sizeLine)
    {h : Heap} {tk : Nat} {m : Str → Option Value} (F : Fr h₀ L h m) (ok : (m (Str.ofString "row") = some (.ref lR) ∧ m (Str.ofString "fronts") = some (.ref M) ∧ m (Str.ofString "cells") = some (.ref A) ∧ m (Str.ofString "place") = some (.int pl tp)) ∧ m (Str.ofString "k") = some (.int 0 tk9) ∧ m (Str.ofString "label") = some (.str (labS kk (Str.ofString "a")) y1) ∧ m (Str.ofString "name") = some (.str (nameS kk (Str.ofString "a")) y2) ∧ m (Str.ofString "turned") = some (.str tu y4)) (N : News h₀ L h ((I9, o9) :: (lR, listOf (rowl.map (·.2)).toArray er) :: (M, LCg.lst [.bytes (octs f0) x0, .bytes (octs f1) x1, .bytes (octs f2) x2, .bytes (octs f3) x3, .bytes (octs f4) x4]) :: (J, LCg.lst [.str q0 w0, .str q1 w1, .str q2 w2, .str q3 w3, .str q4 w4]) :: (H, LCg.lst [.ref T0, .ref T1, .ref T2, .ref T3, .ref T4]) :: (T4, p4) :: (T3, p3) :: (T2, p2) :: (T1, p1) :: (T0, p0) :: (B, listOf #[.int e0 u0, .int e1 u1, .int e2 u2, .int e3 u3, .int e4 u4] ep) :: (A, LCg.lst [.int c0 t0, .int c1 t1, .int c2 t2, .int c3 t3]) :: cellsN L o1 o2 o3 o4 o5 o6))
    (ret : ∀ h' tk' m', Fr h₀ L h' m' → News h₀ L h' ((I9, o9) :: (lR, listOf (rowl.map (·.2)).toArray er) :: (M, LCg.lst [.bytes (octs f0) x0, .bytes (octs f1) x1, .bytes (octs f2) x2, .bytes (octs f3) x3, .bytes (octs f4) x4]) :: (J, LCg.lst [.str q0 w0, .str q1 w1, .str q2 w2, .str q3 w3, .str q4 w4]) :: (H, LCg.lst [.ref T0, .ref T1, .ref T2, .ref T3, .ref T4]) :: (T4, p4) :: (T3, p3) :: (T2, p2) :: (T1, p1) :: (T0, p0) :: (B, listOf #[.int e0 u0, .int e1 u1, .int e2 u2, .int e3 u3, .int e4 u4] ep) :: (A, LCg.lst [.int c0 t0, .int c1 t1, .int c2 t2, .int c3 t3]) :: cellsN L o1 o2 o3 o4 o5 o6) → (m' (Str.ofString "row") = some (.ref lR) ∧ m' (Str.ofString "fronts") = some (.ref M) ∧ m' (Str.ofString "cells") = some (.ref A) ∧ m' (Str.ofString "place") = some (.int pl tp)) → Post .next { s with heap := h', toks := tk' }) :
    wpAny (model Challenge.rw_wy0015_01.row.prog w) (callerA.deeper (lawEnv L a cd)) (execs (pBody.drop 11) (lawEnv L a cd)) Post (fun _ _ => False) { s with heap := h, toks := tk } :=
  segD4c C K0 hA0 hB0 hA1 hB1 hA2 hB2 hA3 hB3 hA4 hB4 hB7 hB8 F ok.2.2.1 ok.2.2.2.1 ok.2.2.2.2 N fun h' tk' F' N' =>
    segD4e_0 C K0 hA9 hB9 F' ok.2.1 ok.2.2.2.2 N' fun h'' tk'' F'' N'' => ret h'' tk'' m F'' N'' ok.1

theorem segD4b_1 {w : World} {mean : ExcName → Option Value} {mg mb : Str → Option Value} {h₀ : Heap} {L a : Addr} {cd : Value} {s : Shared} {Post : Flow → Shared → Prop} {A M J H B T0 T1 T2 T3 T4 lR I9 : Addr} {o9 o1 o2 o3 o4 o5 o6 p0 p1 p2 p3 p4 : Obj}
    (C : LawCtx w mean mg mb h₀) (K0 : Below callerA h₀ [] h₀) {c0 c1 c2 c3 e0 e1 e2 e3 e4 pl : Int} {t0 t1 t2 t3 u0 u1 u2 u3 u4 w0 w1 w2 w3 w4 x0 x1 x2 x3 x4 tp : Tok} {ep er : Nat} {q0 q1 q2 q3 q4 f0 f1 f2 f3 f4 : Str} {P0 : Pc} {P1 : Pc} {P2 : Pc} {P3 : Pc} {P4 : Pc} {rowl : List (Int × Value)} {kk : Int} {tu : Str} {tk9 y1 y2 y4 : Tok}
    (hA0 : ∀ t, StrTells w 112 [.str ((Str.ofString "257") ++ tu) t] (nameS kk (Str.ofString "b"))) (hB0 : (Str.ofString "257").length + tu.length ≤ sizeLine)
    (hA1 : ∀ t, StrTells w 112 [.str ((Str.ofString "257 ") ++ (labS kk (Str.ofString "b"))) t] (nameS kk (Str.ofString "b"))) (hB1 : (Str.ofString "257 ").length + (labS kk (Str.ofString "b")).length ≤ sizeLine)
    (hA2 : ∀ t, StrTells w 112 [.str ((Str.ofString "257 ") ++ (Txt.slice (labS kk (Str.ofString "b")) none (some (-1)))) t] (nameS kk (Str.ofString "b"))) (hB2 : (Str.ofString "257 ").length + (Txt.slice (labS kk (Str.ofString "b")) none (some (-1))).length ≤ sizeLine)
    (hA3 : ∀ t, StrTells w 112 [.str ((Str.ofString "257-") ++ (Txt.slice tu (some 1) none)) t] (Str.ofString "")) (hB3 : (Str.ofString "257-").length + (Txt.slice tu (some 1) none).length ≤ sizeLine)
    (hA4 : ∀ t, StrTells w 112 [.str ((Str.ofString "257 ") ++ (Txt.slice tu (some 2) none)) t] (Str.ofString "")) (hB4 : (Str.ofString "257 ").length + (Txt.slice tu (some 2) none).length ≤ sizeLine)
    (hA9 : ∀ t, BoolTells w 133 [.str ((Str.ofString "207") ++ tu) t] true) (hB9 : (Str.ofString "207").length + tu.length ≤ sizeLine) (hB7 : (labS kk (Str.ofString "b")).length ≤ sizeLine) (hB8 : tu.length ≤ sizeLine)
    {h : Heap} {tk : Nat} {m : Str → Option Value} (F : Fr h₀ L h m) (ok : (m (Str.ofString "row") = some (.ref lR) ∧ m (Str.ofString "fronts") = some (.ref M) ∧ m (Str.ofString "cells") = some (.ref A) ∧ m (Str.ofString "place") = some (.int pl tp)) ∧ m (Str.ofString "k") = some (.int 1 tk9) ∧ m (Str.ofString "label") = some (.str (labS kk (Str.ofString "b")) y1) ∧ m (Str.ofString "name") = some (.str (nameS kk (Str.ofString "b")) y2) ∧ m (Str.ofString "turned") = some (.str tu y4)) (N : News h₀ L h ((I9, o9) :: (lR, listOf (rowl.map (·.2)).toArray er) :: (M, LCg.lst [.bytes (octs f0) x0, .bytes (octs f1) x1, .bytes (octs f2) x2, .bytes (octs f3) x3, .bytes (octs f4) x4]) :: (J, LCg.lst [.str q0 w0, .str q1 w1, .str q2 w2, .str q3 w3, .str q4 w4]) :: (H, LCg.lst [.ref T0, .ref T1, .ref T2, .ref T3, .ref T4]) :: (T4, p4) :: (T3, p3) :: (T2, p2) :: (T1, p1) :: (T0, p0) :: (B, listOf #[.int e0 u0, .int e1 u1, .int e2 u2, .int e3 u3, .int e4 u4] ep) :: (A, LCg.lst [.int c0 t0, .int c1 t1, .int c2 t2, .int c3 t3]) :: cellsN L o1 o2 o3 o4 o5 o6))
    (ret : ∀ h' tk' m', Fr h₀ L h' m' → News h₀ L h' ((I9, o9) :: (lR, listOf (rowl.map (·.2)).toArray er) :: (M, LCg.lst [.bytes (octs f0) x0, .bytes (octs f1) x1, .bytes (octs f2) x2, .bytes (octs f3) x3, .bytes (octs f4) x4]) :: (J, LCg.lst [.str q0 w0, .str q1 w1, .str q2 w2, .str q3 w3, .str q4 w4]) :: (H, LCg.lst [.ref T0, .ref T1, .ref T2, .ref T3, .ref T4]) :: (T4, p4) :: (T3, p3) :: (T2, p2) :: (T1, p1) :: (T0, p0) :: (B, listOf #[.int e0 u0, .int e1 u1, .int e2 u2, .int e3 u3, .int e4 u4] ep) :: (A, LCg.lst [.int c0 t0, .int c1 t1, .int c2 t2, .int c3 t3]) :: cellsN L o1 o2 o3 o4 o5 o6) → (m' (Str.ofString "row") = some (.ref lR) ∧ m' (Str.ofString "fronts") = some (.ref M) ∧ m' (Str.ofString "cells") = some (.ref A) ∧ m' (Str.ofString "place") = some (.int pl tp)) → Post .next { s with heap := h', toks := tk' }) :
    wpAny (model Challenge.rw_wy0015_01.row.prog w) (callerA.deeper (lawEnv L a cd)) (execs (pBody.drop 11) (lawEnv L a cd)) Post (fun _ _ => False) { s with heap := h, toks := tk } :=
  segD4c C K0 hA0 hB0 hA1 hB1 hA2 hB2 hA3 hB3 hA4 hB4 hB7 hB8 F ok.2.2.1 ok.2.2.2.1 ok.2.2.2.2 N fun h' tk' F' N' =>
    segD4e_1 C K0 hA9 hB9 F' ok.2.1 ok.2.2.2.2 N' fun h'' tk'' F'' N'' => ret h'' tk'' m F'' N'' ok.1

theorem segD4b_2 {w : World} {mean : ExcName → Option Value} {mg mb : Str → Option Value} {h₀ : Heap} {L a : Addr} {cd : Value} {s : Shared} {Post : Flow → Shared → Prop} {A M J H B T0 T1 T2 T3 T4 lR I9 : Addr} {o9 o1 o2 o3 o4 o5 o6 p0 p1 p2 p3 p4 : Obj}
    (C : LawCtx w mean mg mb h₀) (K0 : Below callerA h₀ [] h₀) {c0 c1 c2 c3 e0 e1 e2 e3 e4 pl : Int} {t0 t1 t2 t3 u0 u1 u2 u3 u4 w0 w1 w2 w3 w4 x0 x1 x2 x3 x4 tp : Tok} {ep er : Nat} {q0 q1 q2 q3 q4 f0 f1 f2 f3 f4 : Str} {P0 : Pc} {P1 : Pc} {P2 : Pc} {P3 : Pc} {P4 : Pc} {rowl : List (Int × Value)} {kk : Int} {tu : Str} {tk9 y1 y2 y4 : Tok}
    (hA0 : ∀ t, StrTells w 112 [.str ((Str.ofString "257") ++ tu) t] (nameS kk (Str.ofString "c"))) (hB0 : (Str.ofString "257").length + tu.length ≤ sizeLine)
    (hA1 : ∀ t, StrTells w 112 [.str ((Str.ofString "257 ") ++ (labS kk (Str.ofString "c"))) t] (nameS kk (Str.ofString "c"))) (hB1 : (Str.ofString "257 ").length + (labS kk (Str.ofString "c")).length ≤ sizeLine)
    (hA2 : ∀ t, StrTells w 112 [.str ((Str.ofString "257 ") ++ (Txt.slice (labS kk (Str.ofString "c")) none (some (-1)))) t] (nameS kk (Str.ofString "c"))) (hB2 : (Str.ofString "257 ").length + (Txt.slice (labS kk (Str.ofString "c")) none (some (-1))).length ≤ sizeLine)
    (hA3 : ∀ t, StrTells w 112 [.str ((Str.ofString "257-") ++ (Txt.slice tu (some 1) none)) t] (Str.ofString "")) (hB3 : (Str.ofString "257-").length + (Txt.slice tu (some 1) none).length ≤ sizeLine)
    (hA4 : ∀ t, StrTells w 112 [.str ((Str.ofString "257 ") ++ (Txt.slice tu (some 2) none)) t] (Str.ofString "")) (hB4 : (Str.ofString "257 ").length + (Txt.slice tu (some 2) none).length ≤ sizeLine)
    (hA9 : ∀ t, BoolTells w 133 [.str ((Str.ofString "250") ++ tu) t] true) (hB9 : (Str.ofString "250").length + tu.length ≤ sizeLine) (hB7 : (labS kk (Str.ofString "c")).length ≤ sizeLine) (hB8 : tu.length ≤ sizeLine)
    {h : Heap} {tk : Nat} {m : Str → Option Value} (F : Fr h₀ L h m) (ok : (m (Str.ofString "row") = some (.ref lR) ∧ m (Str.ofString "fronts") = some (.ref M) ∧ m (Str.ofString "cells") = some (.ref A) ∧ m (Str.ofString "place") = some (.int pl tp)) ∧ m (Str.ofString "k") = some (.int 2 tk9) ∧ m (Str.ofString "label") = some (.str (labS kk (Str.ofString "c")) y1) ∧ m (Str.ofString "name") = some (.str (nameS kk (Str.ofString "c")) y2) ∧ m (Str.ofString "turned") = some (.str tu y4)) (N : News h₀ L h ((I9, o9) :: (lR, listOf (rowl.map (·.2)).toArray er) :: (M, LCg.lst [.bytes (octs f0) x0, .bytes (octs f1) x1, .bytes (octs f2) x2, .bytes (octs f3) x3, .bytes (octs f4) x4]) :: (J, LCg.lst [.str q0 w0, .str q1 w1, .str q2 w2, .str q3 w3, .str q4 w4]) :: (H, LCg.lst [.ref T0, .ref T1, .ref T2, .ref T3, .ref T4]) :: (T4, p4) :: (T3, p3) :: (T2, p2) :: (T1, p1) :: (T0, p0) :: (B, listOf #[.int e0 u0, .int e1 u1, .int e2 u2, .int e3 u3, .int e4 u4] ep) :: (A, LCg.lst [.int c0 t0, .int c1 t1, .int c2 t2, .int c3 t3]) :: cellsN L o1 o2 o3 o4 o5 o6))
    (ret : ∀ h' tk' m', Fr h₀ L h' m' → News h₀ L h' ((I9, o9) :: (lR, listOf (rowl.map (·.2)).toArray er) :: (M, LCg.lst [.bytes (octs f0) x0, .bytes (octs f1) x1, .bytes (octs f2) x2, .bytes (octs f3) x3, .bytes (octs f4) x4]) :: (J, LCg.lst [.str q0 w0, .str q1 w1, .str q2 w2, .str q3 w3, .str q4 w4]) :: (H, LCg.lst [.ref T0, .ref T1, .ref T2, .ref T3, .ref T4]) :: (T4, p4) :: (T3, p3) :: (T2, p2) :: (T1, p1) :: (T0, p0) :: (B, listOf #[.int e0 u0, .int e1 u1, .int e2 u2, .int e3 u3, .int e4 u4] ep) :: (A, LCg.lst [.int c0 t0, .int c1 t1, .int c2 t2, .int c3 t3]) :: cellsN L o1 o2 o3 o4 o5 o6) → (m' (Str.ofString "row") = some (.ref lR) ∧ m' (Str.ofString "fronts") = some (.ref M) ∧ m' (Str.ofString "cells") = some (.ref A) ∧ m' (Str.ofString "place") = some (.int pl tp)) → Post .next { s with heap := h', toks := tk' }) :
    wpAny (model Challenge.rw_wy0015_01.row.prog w) (callerA.deeper (lawEnv L a cd)) (execs (pBody.drop 11) (lawEnv L a cd)) Post (fun _ _ => False) { s with heap := h, toks := tk } :=
  segD4c C K0 hA0 hB0 hA1 hB1 hA2 hB2 hA3 hB3 hA4 hB4 hB7 hB8 F ok.2.2.1 ok.2.2.2.1 ok.2.2.2.2 N fun h' tk' F' N' =>
    segD4e_2 C K0 hA9 hB9 F' ok.2.1 ok.2.2.2.2 N' fun h'' tk'' F'' N'' => ret h'' tk'' m F'' N'' ok.1

theorem segD4b_3 {w : World} {mean : ExcName → Option Value} {mg mb : Str → Option Value} {h₀ : Heap} {L a : Addr} {cd : Value} {s : Shared} {Post : Flow → Shared → Prop} {A M J H B T0 T1 T2 T3 T4 lR I9 : Addr} {o9 o1 o2 o3 o4 o5 o6 p0 p1 p2 p3 p4 : Obj}
    (C : LawCtx w mean mg mb h₀) (K0 : Below callerA h₀ [] h₀) {c0 c1 c2 c3 e0 e1 e2 e3 e4 pl : Int} {t0 t1 t2 t3 u0 u1 u2 u3 u4 w0 w1 w2 w3 w4 x0 x1 x2 x3 x4 tp : Tok} {ep er : Nat} {q0 q1 q2 q3 q4 f0 f1 f2 f3 f4 : Str} {P0 : Pc} {P1 : Pc} {P2 : Pc} {P3 : Pc} {P4 : Pc} {rowl : List (Int × Value)} {kk : Int} {tu : Str} {tk9 y1 y2 y4 : Tok}
    (hA0 : ∀ t, StrTells w 112 [.str ((Str.ofString "257") ++ tu) t] (nameS kk (Str.ofString "d"))) (hB0 : (Str.ofString "257").length + tu.length ≤ sizeLine)
    (hA1 : ∀ t, StrTells w 112 [.str ((Str.ofString "257 ") ++ (labS kk (Str.ofString "d"))) t] (nameS kk (Str.ofString "d"))) (hB1 : (Str.ofString "257 ").length + (labS kk (Str.ofString "d")).length ≤ sizeLine)
    (hA2 : ∀ t, StrTells w 112 [.str ((Str.ofString "257 ") ++ (Txt.slice (labS kk (Str.ofString "d")) none (some (-1)))) t] (nameS kk (Str.ofString "d"))) (hB2 : (Str.ofString "257 ").length + (Txt.slice (labS kk (Str.ofString "d")) none (some (-1))).length ≤ sizeLine)
    (hA3 : ∀ t, StrTells w 112 [.str ((Str.ofString "257-") ++ (Txt.slice tu (some 1) none)) t] (Str.ofString "")) (hB3 : (Str.ofString "257-").length + (Txt.slice tu (some 1) none).length ≤ sizeLine)
    (hA4 : ∀ t, StrTells w 112 [.str ((Str.ofString "257 ") ++ (Txt.slice tu (some 2) none)) t] (Str.ofString "")) (hB4 : (Str.ofString "257 ").length + (Txt.slice tu (some 2) none).length ≤ sizeLine)
    (hA9 : ∀ t, BoolTells w 133 [.str ((Str.ofString "256") ++ tu) t] true) (hB9 : (Str.ofString "256").length + tu.length ≤ sizeLine) (hB7 : (labS kk (Str.ofString "d")).length ≤ sizeLine) (hB8 : tu.length ≤ sizeLine)
    {h : Heap} {tk : Nat} {m : Str → Option Value} (F : Fr h₀ L h m) (ok : (m (Str.ofString "row") = some (.ref lR) ∧ m (Str.ofString "fronts") = some (.ref M) ∧ m (Str.ofString "cells") = some (.ref A) ∧ m (Str.ofString "place") = some (.int pl tp)) ∧ m (Str.ofString "k") = some (.int 3 tk9) ∧ m (Str.ofString "label") = some (.str (labS kk (Str.ofString "d")) y1) ∧ m (Str.ofString "name") = some (.str (nameS kk (Str.ofString "d")) y2) ∧ m (Str.ofString "turned") = some (.str tu y4)) (N : News h₀ L h ((I9, o9) :: (lR, listOf (rowl.map (·.2)).toArray er) :: (M, LCg.lst [.bytes (octs f0) x0, .bytes (octs f1) x1, .bytes (octs f2) x2, .bytes (octs f3) x3, .bytes (octs f4) x4]) :: (J, LCg.lst [.str q0 w0, .str q1 w1, .str q2 w2, .str q3 w3, .str q4 w4]) :: (H, LCg.lst [.ref T0, .ref T1, .ref T2, .ref T3, .ref T4]) :: (T4, p4) :: (T3, p3) :: (T2, p2) :: (T1, p1) :: (T0, p0) :: (B, listOf #[.int e0 u0, .int e1 u1, .int e2 u2, .int e3 u3, .int e4 u4] ep) :: (A, LCg.lst [.int c0 t0, .int c1 t1, .int c2 t2, .int c3 t3]) :: cellsN L o1 o2 o3 o4 o5 o6))
    (ret : ∀ h' tk' m', Fr h₀ L h' m' → News h₀ L h' ((I9, o9) :: (lR, listOf (rowl.map (·.2)).toArray er) :: (M, LCg.lst [.bytes (octs f0) x0, .bytes (octs f1) x1, .bytes (octs f2) x2, .bytes (octs f3) x3, .bytes (octs f4) x4]) :: (J, LCg.lst [.str q0 w0, .str q1 w1, .str q2 w2, .str q3 w3, .str q4 w4]) :: (H, LCg.lst [.ref T0, .ref T1, .ref T2, .ref T3, .ref T4]) :: (T4, p4) :: (T3, p3) :: (T2, p2) :: (T1, p1) :: (T0, p0) :: (B, listOf #[.int e0 u0, .int e1 u1, .int e2 u2, .int e3 u3, .int e4 u4] ep) :: (A, LCg.lst [.int c0 t0, .int c1 t1, .int c2 t2, .int c3 t3]) :: cellsN L o1 o2 o3 o4 o5 o6) → (m' (Str.ofString "row") = some (.ref lR) ∧ m' (Str.ofString "fronts") = some (.ref M) ∧ m' (Str.ofString "cells") = some (.ref A) ∧ m' (Str.ofString "place") = some (.int pl tp)) → Post .next { s with heap := h', toks := tk' }) :
    wpAny (model Challenge.rw_wy0015_01.row.prog w) (callerA.deeper (lawEnv L a cd)) (execs (pBody.drop 11) (lawEnv L a cd)) Post (fun _ _ => False) { s with heap := h, toks := tk } :=
  segD4c C K0 hA0 hB0 hA1 hB1 hA2 hB2 hA3 hB3 hA4 hB4 hB7 hB8 F ok.2.2.1 ok.2.2.2.1 ok.2.2.2.2 N fun h' tk' F' N' =>
    segD4e_3 C K0 hA9 hB9 F' ok.2.1 ok.2.2.2.2 N' fun h'' tk'' F'' N'' => ret h'' tk'' m F'' N'' ok.1

theorem segD4b_4 {w : World} {mean : ExcName → Option Value} {mg mb : Str → Option Value} {h₀ : Heap} {L a : Addr} {cd : Value} {s : Shared} {Post : Flow → Shared → Prop} {A M J H B T0 T1 T2 T3 T4 lR I9 : Addr} {o9 o1 o2 o3 o4 o5 o6 p0 p1 p2 p3 p4 : Obj}
    (C : LawCtx w mean mg mb h₀) (K0 : Below callerA h₀ [] h₀) {c0 c1 c2 c3 e0 e1 e2 e3 e4 pl : Int} {t0 t1 t2 t3 u0 u1 u2 u3 u4 w0 w1 w2 w3 w4 x0 x1 x2 x3 x4 tp : Tok} {ep er : Nat} {q0 q1 q2 q3 q4 f0 f1 f2 f3 f4 : Str} {P0 : Pc} {P1 : Pc} {P2 : Pc} {P3 : Pc} {P4 : Pc} {rowl : List (Int × Value)} {kk : Int} {tu : Str} {tk9 y1 y2 y4 : Tok}
    (hA0 : ∀ t, StrTells w 112 [.str ((Str.ofString "257") ++ tu) t] (nameS kk (Str.ofString "e"))) (hB0 : (Str.ofString "257").length + tu.length ≤ sizeLine)
    (hA1 : ∀ t, StrTells w 112 [.str ((Str.ofString "257 ") ++ (labS kk (Str.ofString "e"))) t] (nameS kk (Str.ofString "e"))) (hB1 : (Str.ofString "257 ").length + (labS kk (Str.ofString "e")).length ≤ sizeLine)
    (hA2 : ∀ t, StrTells w 112 [.str ((Str.ofString "257 ") ++ (Txt.slice (labS kk (Str.ofString "e")) none (some (-1)))) t] (nameS kk (Str.ofString "e"))) (hB2 : (Str.ofString "257 ").length + (Txt.slice (labS kk (Str.ofString "e")) none (some (-1))).length ≤ sizeLine)
    (hA3 : ∀ t, StrTells w 112 [.str ((Str.ofString "257-") ++ (Txt.slice tu (some 1) none)) t] (Str.ofString "")) (hB3 : (Str.ofString "257-").length + (Txt.slice tu (some 1) none).length ≤ sizeLine)
    (hA4 : ∀ t, StrTells w 112 [.str ((Str.ofString "257 ") ++ (Txt.slice tu (some 2) none)) t] (Str.ofString "")) (hB4 : (Str.ofString "257 ").length + (Txt.slice tu (some 2) none).length ≤ sizeLine)
    (hA9 : ∀ t, BoolTells w 133 [.str ((Str.ofString "357") ++ tu) t] true) (hB9 : (Str.ofString "357").length + tu.length ≤ sizeLine) (hB7 : (labS kk (Str.ofString "e")).length ≤ sizeLine) (hB8 : tu.length ≤ sizeLine)
    {h : Heap} {tk : Nat} {m : Str → Option Value} (F : Fr h₀ L h m) (ok : (m (Str.ofString "row") = some (.ref lR) ∧ m (Str.ofString "fronts") = some (.ref M) ∧ m (Str.ofString "cells") = some (.ref A) ∧ m (Str.ofString "place") = some (.int pl tp)) ∧ m (Str.ofString "k") = some (.int 4 tk9) ∧ m (Str.ofString "label") = some (.str (labS kk (Str.ofString "e")) y1) ∧ m (Str.ofString "name") = some (.str (nameS kk (Str.ofString "e")) y2) ∧ m (Str.ofString "turned") = some (.str tu y4)) (N : News h₀ L h ((I9, o9) :: (lR, listOf (rowl.map (·.2)).toArray er) :: (M, LCg.lst [.bytes (octs f0) x0, .bytes (octs f1) x1, .bytes (octs f2) x2, .bytes (octs f3) x3, .bytes (octs f4) x4]) :: (J, LCg.lst [.str q0 w0, .str q1 w1, .str q2 w2, .str q3 w3, .str q4 w4]) :: (H, LCg.lst [.ref T0, .ref T1, .ref T2, .ref T3, .ref T4]) :: (T4, p4) :: (T3, p3) :: (T2, p2) :: (T1, p1) :: (T0, p0) :: (B, listOf #[.int e0 u0, .int e1 u1, .int e2 u2, .int e3 u3, .int e4 u4] ep) :: (A, LCg.lst [.int c0 t0, .int c1 t1, .int c2 t2, .int c3 t3]) :: cellsN L o1 o2 o3 o4 o5 o6))
    (ret : ∀ h' tk' m', Fr h₀ L h' m' → News h₀ L h' ((I9, o9) :: (lR, listOf (rowl.map (·.2)).toArray er) :: (M, LCg.lst [.bytes (octs f0) x0, .bytes (octs f1) x1, .bytes (octs f2) x2, .bytes (octs f3) x3, .bytes (octs f4) x4]) :: (J, LCg.lst [.str q0 w0, .str q1 w1, .str q2 w2, .str q3 w3, .str q4 w4]) :: (H, LCg.lst [.ref T0, .ref T1, .ref T2, .ref T3, .ref T4]) :: (T4, p4) :: (T3, p3) :: (T2, p2) :: (T1, p1) :: (T0, p0) :: (B, listOf #[.int e0 u0, .int e1 u1, .int e2 u2, .int e3 u3, .int e4 u4] ep) :: (A, LCg.lst [.int c0 t0, .int c1 t1, .int c2 t2, .int c3 t3]) :: cellsN L o1 o2 o3 o4 o5 o6) → (m' (Str.ofString "row") = some (.ref lR) ∧ m' (Str.ofString "fronts") = some (.ref M) ∧ m' (Str.ofString "cells") = some (.ref A) ∧ m' (Str.ofString "place") = some (.int pl tp)) → Post .next { s with heap := h', toks := tk' }) :
    wpAny (model Challenge.rw_wy0015_01.row.prog w) (callerA.deeper (lawEnv L a cd)) (execs (pBody.drop 11) (lawEnv L a cd)) Post (fun _ _ => False) { s with heap := h, toks := tk } :=
  segD4c C K0 hA0 hB0 hA1 hB1 hA2 hB2 hA3 hB3 hA4 hB4 hB7 hB8 F ok.2.2.1 ok.2.2.2.1 ok.2.2.2.2 N fun h' tk' F' N' =>
    segD4e_4 C K0 hA9 hB9 F' ok.2.1 ok.2.2.2.2 N' fun h'' tk'' F'' N'' => ret h'' tk'' m F'' N'' ok.1

end Mine

-- part P4
namespace Mine
open PySem PySem.W PyProof.Rows PySem.Builtin PySem.Builtin.Str
set_option maxRecDepth 100000

/-- parse257's answer, from the code points -/
theorem parse_ok {w : World} {x r : Str} {l : List Nat} (hx : x.cps.toList = 50 :: 53 :: 55 :: 32 :: 34 :: l) (hl : l.length ≤ 1000) (hr : pl l = r.cps.toList) : ∀ t, StrTells w 112 [.str x t] r := by
  intro t
  have hn : x.length = l.length + 5 := by rw [str_len hx]; rfl
  have hn' : x.cps.toList.length = l.length + 5 := by rw [hx]; rfl
  refine parse1 w x r t (by omega) (by omega) ?_ ?_ ?_
  · have : Txt.slice x none (some 3) = Str.ofString "257" := str_ext (by rw [sl_to (by decide) (by rw [hn']; omega), hx]; rfl)
    rw [this]; decide
  · have : Txt.slice x (some 3) (some 5) = Str.ofString " \"" := str_ext (by rw [sl_mid (by decide) (by decide) (by rw [hn']; omega), hx]; rfl)
    rw [this]; decide
  · rw [hx]; exact hr
theorem ne_of_cps {x y : Str} (h : x.cps.toList ≠ y.cps.toList) : (x != y) = true := by
  simp only [bne_iff_ne, ne_eq]
  exact fun e => h (by rw [e])
theorem parse_no {w : World} {x : Str} {a b : Nat} {l : List Nat} (hx : x.cps.toList = 50 :: 53 :: 55 :: a :: b :: l) (hl : l.length ≤ 1000) (hab : ¬ (a = 32 ∧ b = 34)) : ∀ t, StrTells w 112 [.str x t] (Str.ofString "") := by
  intro t
  have hn : x.length = l.length + 5 := by rw [str_len hx]; rfl
  have hn' : x.cps.toList.length = l.length + 5 := by rw [hx]; rfl
  refine parse2 w x t (by omega) ?_ ?_
  · have : Txt.slice x none (some 3) = Str.ofString "257" := str_ext (by rw [sl_to (by decide) (by rw [hn']; omega), hx]; rfl)
    rw [this]; decide
  · refine ne_of_cps ?_
    rw [sl_mid (by decide) (by decide) (by rw [hn']; omega), hx]
    show [a, b] ≠ [32, 34]
    intro e
    injection e with e1 e2
    injection e2 with e2 _
    exact hab ⟨e1, e2⟩
theorem refused_ok {w : World} {x : Str} {a b c : Nat} {l : List Nat} (hx : x.cps.toList = a :: b :: c :: l) (hl : l.length ≤ 1000) (h : ¬ (a = 50 ∧ b = 53 ∧ c = 55)) : ∀ t, BoolTells w 133 [.str x t] true := by
  intro t
  have hn : x.length = l.length + 3 := by rw [str_len hx]; rfl
  have hn' : x.cps.toList.length = l.length + 3 := by rw [hx]; rfl
  refine refused1 w x t (by omega) (ne_of_cps ?_)
  rw [sl_to (by decide) (by rw [hn']; omega), hx]
  show [a, b, c] ≠ [50, 53, 55]
  intro e
  injection e with e1 e2
  injection e2 with e2 e3
  injection e3 with e3 _
  exact h ⟨e1, e2, e3⟩

/-- what the law asks of the replies, for one piece at the head of the ring -/
structure Asks (w : World) (kk : Int) (c : Str) (dg : Str) (tu : Str) : Prop where
  a0 : ∀ t, StrTells w 112 [.str (Str.ofString "257" ++ tu) t] (nameS kk c)
  b0 : (Str.ofString "257").length + tu.length ≤ sizeLine
  a1 : ∀ t, StrTells w 112 [.str (Str.ofString "257 " ++ labS kk c) t] (nameS kk c)
  b1 : (Str.ofString "257 ").length + (labS kk c).length ≤ sizeLine
  a2 : ∀ t, StrTells w 112 [.str (Str.ofString "257 " ++ Txt.slice (labS kk c) none (some (-1))) t] (nameS kk c)
  b2 : (Str.ofString "257 ").length + (Txt.slice (labS kk c) none (some (-1))).length ≤ sizeLine
  a3 : ∀ t, StrTells w 112 [.str (Str.ofString "257-" ++ Txt.slice tu (some 1) none) t] (Str.ofString "")
  b3 : (Str.ofString "257-").length + (Txt.slice tu (some 1) none).length ≤ sizeLine
  a4 : ∀ t, StrTells w 112 [.str (Str.ofString "257 " ++ Txt.slice tu (some 2) none) t] (Str.ofString "")
  b4 : (Str.ofString "257 ").length + (Txt.slice tu (some 2) none).length ≤ sizeLine
  a9 : ∀ t, BoolTells w 133 [.str (dg ++ tu) t] true
  b9 : dg.length + tu.length ≤ sizeLine
  b7 : (labS kk c).length ≤ sizeLine
  b8 : tu.length ≤ sizeLine
theorem app_list {x y : Str} {a b : List Nat} (hx : x.cps.toList = a) (hy : y.cps.toList = b) : (x ++ y).cps.toList = a ++ b := by
  rw [Str.cps_append, Array.toList_append, hx, hy]
theorem asks_all {w : World} {p : Pc} {rest : List Pc} {c dg tu : Str} {d1 d2 d3 : Nat} (hp : p.ok) (hr : ∀ q ∈ rest, q.ok) (hn : rest.length ≤ 9) (hc : c.cps = #[p.ch]) (htu : tu.cps.toList = 32 :: catL (p :: rest)) (hdg : dg.cps.toList = [d1, d2, d3]) (hd : ¬ (d1 = 50 ∧ d2 = 53 ∧ d3 = 55)) : Asks w p.k c dg tu := by
  obtain ⟨h1, h2, h3, h4, h5, h6⟩ := hp
  have hok : ∀ q ∈ p :: rest, q.ok := List.forall_mem_cons.mpr ⟨⟨h1, h2, h3, h4, h5, h6⟩, hr⟩
  have hcs := cat_small _ hok
  have hlab := labS_list p.k c p.ch hc
  have hlen := (labL_small p.k h4).2
  have hge := labL_len p.k p.ch
  have hl8 : (labL p.k p.ch).tail.length = (labL p.k p.ch).length - 1 := List.length_tail
  have htl : tu.length = (catL (p :: rest)).length + 1 := by rw [str_len htu]; rfl
  have htl' : tu.cps.toList.length = (catL (p :: rest)).length + 1 := by rw [htu]; rfl
  have hcl : (catL (p :: rest)).length ≤ 490 := by have := hcs.2; simp only [List.length_cons] at this; omega
  have hcat : catL (p :: rest) = 34 :: ((labL p.k p.ch).tail ++ (runL p.e ++ catL rest)) := by
    show (labL p.k p.ch ++ runL p.e) ++ catL rest = _
    conv => lhs; rw [labL_cons]
    simp
  have hcut : (Txt.slice (labS p.k c) none (some (-1))).cps.toList = 34 :: (labL p.k p.ch).tail.take ((labL p.k p.ch).length - 2) := by
    rw [sl_last (by rw [hlab]; omega), hlab]
    obtain ⟨n, hn⟩ : ∃ n, (labL p.k p.ch).length = n + 2 := ⟨(labL p.k p.ch).length - 2, by omega⟩
    rw [hn, show n + 2 - 1 = n + 1 by omega, show n + 2 - 2 = n by omega]
    conv => lhs; rw [labL_cons]
    rfl
  have htail : (labL p.k p.ch).tail.length + (runL p.e ++ catL rest).length + 1 = (catL (p :: rest)).length := by rw [hcat]; simp
  obtain ⟨c2, l2, hs1, hs2⟩ := labL_snd p.k h1
  have hf1 : (Txt.slice tu (some 1) none).cps.toList = catL (p :: rest) := by rw [sl_from (by decide) (by rw [htl']; omega), htu]; rfl
  have hf2 : (Txt.slice tu (some 2) none).cps.toList = (labL p.k p.ch).tail ++ (runL p.e ++ catL rest) := by rw [sl_from (by decide) (by rw [htl']; omega), htu, hcat]; rfl
  have s3 : (Str.ofString "257").length = 3 := rfl
  have s4 : (Str.ofString "257 ").length = 4 := rfl
  have s5 : (Str.ofString "257-").length = 4 := rfl
  have hll : (labS p.k c).length = (labL p.k p.ch).length := str_len hlab
  have hle := PyProof.Txt.length_slice_le
  refine ⟨?_, ?_, ?_, ?_, ?_, ?_, ?_, ?_, ?_, ?_, ?_, ?_, ?_, ?_⟩
  · refine parse_ok (l := (labL p.k p.ch).tail ++ (runL p.e ++ catL rest)) ?_ ?_ ?_
    · rw [app_list (a := [50, 53, 55]) rfl htu, hcat]; rfl
    · rw [List.length_append]; omega
    · rw [pl_lab p.k h1 (runL_head _ _), nameS_list p.k c p.ch hc]
  · rw [s3, sizeLine_eq]; omega
  · refine parse_ok (l := (labL p.k p.ch).tail) ?_ (by omega) ?_
    · rw [app_list (a := [50, 53, 55, 32]) rfl hlab]
      conv => lhs; rw [labL_cons]
      rfl
    · have := pl_lab p.k h1 (X := []) (by simp)
      rw [List.append_nil] at this
      rw [this, nameS_list p.k c p.ch hc]
  · rw [s4, sizeLine_eq]; omega
  · refine parse_ok (l := (labL p.k p.ch).tail.take ((labL p.k p.ch).length - 2)) ?_ ?_ ?_
    · rw [app_list (a := [50, 53, 55, 32]) rfl hcut]; rfl
    · rw [List.length_take]; omega
    · rw [pl_cut p.k h1, nameS_list p.k c p.ch hc]
  · have := hle (labS p.k c) none (some (-1)); rw [s4, sizeLine_eq]; omega
  · refine parse_no (a := 45) (b := 34) (l := (labL p.k p.ch).tail ++ (runL p.e ++ catL rest)) ?_ ?_ (by decide)
    · rw [app_list (a := [50, 53, 55, 45]) rfl hf1, hcat]; rfl
    · rw [List.length_append]; omega
  · have := hle tu (some 1) none; rw [s5, sizeLine_eq]; omega
  · refine parse_no (a := 32) (b := c2) (l := l2 ++ (runL p.e ++ catL rest)) ?_ ?_ (fun e => hs2 e.2)
    · rw [app_list (a := [50, 53, 55, 32]) rfl hf2, hs1]; rfl
    · have : (labL p.k p.ch).tail.length = l2.length + 1 := by rw [hs1]; rfl
      rw [List.length_append]; omega
  · have := hle tu (some 2) none; rw [s4, sizeLine_eq]; omega
  · refine refused_ok (a := d1) (b := d2) (c := d3) (l := 32 :: catL (p :: rest)) ?_ ?_ hd
    · rw [app_list hdg htu]; rfl
    · simp only [List.length_cons]; omega
  · rw [str_len hdg, sizeLine_eq, htl]; simp only [List.length_cons, List.length_nil]; omega
  · rw [hll, sizeLine_eq]; omega
  · rw [sizeLine_eq]; omega
end Mine

-- part P5
namespace Mine
open PySem PySem.W PyProof.Rows
set_option maxRecDepth 100000

def insN (x : Int × Nat) : List (Int × Nat) → List (Int × Nat)
  | [] => [x]
  | y :: r => if y.1 < x.1 then y :: insN x r else x :: y :: r
/-- x stands before q -/
def before (q x : Int × Nat) : Bool := decide (x.1 < q.1 ∨ (x.1 = q.1 ∧ q.2 < x.2))
theorem before_iff {q x : Int × Nat} : before q x = true ↔ x.1 < q.1 ∨ (x.1 = q.1 ∧ q.2 < x.2) := by simp [before]
theorem insN_mem (x : Int × Nat) : ∀ l, ∀ q ∈ insN x l, q = x ∨ q ∈ l
  | [], _, h => .inl (List.mem_singleton.mp h)
  | z :: r, q, h => by
    simp only [insN] at h
    split at h
    · rcases List.mem_cons.mp h with rfl | h
      · exact .inr (.head _)
      · rcases insN_mem x r q h with h | h
        · exact .inl h
        · exact .inr (.tail _ h)
    · rcases List.mem_cons.mp h with rfl | h
      · exact .inl rfl
      · exact .inr h
theorem insN_perm (x : Int × Nat) : ∀ l, (insN x l).Perm (x :: l)
  | [] => List.Perm.refl _
  | z :: r => by
    simp only [insN]
    split
    · exact ((insN_perm x r).cons z).trans (List.Perm.swap x z r)
    · exact List.Perm.refl _
theorem insN_row (x : Int × Nat) : ∀ l, (l.Pairwise fun a b => before b a = true) → (∀ q ∈ l, q.2 < x.2) → (insN x l).Pairwise fun a b => before b a = true
  | [], _, _ => List.pairwise_singleton ..
  | z :: r, h, hx => by
    obtain ⟨h1, h2⟩ := List.pairwise_cons.mp h
    have hz := hx z (.head _)
    simp only [insN]
    split
    · refine List.pairwise_cons.mpr ⟨fun q hq => ?_, insN_row x r h2 fun q hq => hx q (.tail _ hq)⟩
      rcases insN_mem x r q hq with rfl | hq
      · rw [before_iff]; exact .inl (by assumption)
      · exact h1 q hq
    · refine List.pairwise_cons.mpr ⟨fun q hq => ?_, h⟩
      have hq2 := hx q hq
      rw [before_iff]
      rcases List.mem_cons.mp hq with rfl | hq
      · omega
      · have := before_iff.mp (h1 q hq)
        omega
theorem count_at : ∀ (l : List (Int × Nat)), (l.Pairwise fun a b => before b a = true) → ∀ (p : Nat) (q : Int × Nat), l[p]? = some q → l.countP (before q) = p
  | [], _, p, q, h => by simp at h
  | a :: l, hl, 0, q, h => by
    obtain ⟨h1, h2⟩ := List.pairwise_cons.mp hl
    have e : a = q := by simpa using h
    subst e
    rw [List.countP_eq_zero]
    intro b hb
    rcases List.mem_cons.mp hb with rfl | hb
    · rw [before_iff]; omega
    · have := before_iff.mp (h1 b hb)
      rw [before_iff]; omega
  | a :: l, hl, p + 1, q, h => by
    obtain ⟨h1, h2⟩ := List.pairwise_cons.mp hl
    have e : l[p]? = some q := by simpa using h
    have hm : q ∈ l := List.mem_of_getElem? e
    rw [List.countP_cons_of_pos (h1 q hm), count_at l h2 p q e]
theorem ins_map (d : Int) (k : Nat) (f : Nat → Value) : ∀ l : List (Int × Nat), insL (d, f k) (l.map fun q => (q.1, f q.2)) = (insN (d, k) l).map fun q => (q.1, f q.2)
  | [] => rfl
  | z :: r => by
    simp only [List.map_cons, insL, insN]
    split
    · rw [ins_map d k f r]; rfl
    · rfl
def rowN (d0 d1 d2 d3 d4 : Int) : List (Int × Nat) := insN (d4, 4) (insN (d3, 3) (insN (d2, 2) (insN (d1, 1) (insN (d0, 0) []))))
theorem rowN_perm (d0 d1 d2 d3 d4 : Int) : (rowN d0 d1 d2 d3 d4).Perm [(d4, 4), (d3, 3), (d2, 2), (d1, 1), (d0, 0)] :=
  (insN_perm _ _).trans (.cons _ ((insN_perm _ _).trans (.cons _ ((insN_perm _ _).trans (.cons _ ((insN_perm _ _).trans (.cons _ (insN_perm _ _))))))))
theorem rowN_row (d0 d1 d2 d3 d4 : Int) : (rowN d0 d1 d2 d3 d4).Pairwise fun a b => before b a = true := by
  have p1 := insN_perm (d0, 0) []
  have p2 := (insN_perm (d1, 1) (insN (d0, 0) [])).trans (.cons _ p1)
  have p3 := (insN_perm (d2, 2) (insN (d1, 1) (insN (d0, 0) []))).trans (.cons _ p2)
  have p4 := (insN_perm (d3, 3) (insN (d2, 2) (insN (d1, 1) (insN (d0, 0) [])))).trans (.cons _ p3)
  refine insN_row _ _ (insN_row _ _ (insN_row _ _ (insN_row _ _ (insN_row _ _ List.Pairwise.nil (by simp)) ?_) ?_) ?_) ?_
  · intro q hq
    have := p1.mem_iff.mp hq
    simp at this; subst this; simp
  · intro q hq
    have := p2.mem_iff.mp hq
    simp at this; rcases this with rfl | rfl <;> simp
  · intro q hq
    have := p3.mem_iff.mp hq
    simp at this; rcases this with rfl | rfl | rfl <;> simp
  · intro q hq
    have := p4.mem_iff.mp hq
    simp at this; rcases this with rfl | rfl | rfl | rfl <;> simp
/-- where a front stands in the row -/
theorem row_place (z0 z1 z2 z3 z4 : Value) (d0 d1 d2 d3 d4 : Int) (p : Nat) (hp : p < 5) :
    ∃ q ∈ [(d4, 4), (d3, 3), (d2, 2), (d1, 1), (d0, 0)], ((insL (d4, z4) (insL (d3, z3) (insL (d2, z2) (insL (d1, z1) (insL (d0, z0) []))))).map (·.2))[p]? = some ((fun k => match k with | 0 => z0 | 1 => z1 | 2 => z2 | 3 => z3 | _ => z4) q.2) ∧
      [(d4, 4), (d3, 3), (d2, 2), (d1, 1), (d0, 0)].countP (before q) = p := by
  have hP := rowN_perm d0 d1 d2 d3 d4
  have hlen : (rowN d0 d1 d2 d3 d4).length = 5 := hP.length_eq
  have hget : (rowN d0 d1 d2 d3 d4)[p]? = some ((rowN d0 d1 d2 d3 d4)[p]'(by omega)) := List.getElem?_eq_getElem _
  have hmem := List.mem_of_getElem? hget
  refine ⟨_, hP.mem_iff.mp hmem, ?_, ?_⟩
  · have e : insL (d4, z4) (insL (d3, z3) (insL (d2, z2) (insL (d1, z1) (insL (d0, z0) [])))) = (rowN d0 d1 d2 d3 d4).map fun q => (q.1, (fun k => match k with | 0 => z0 | 1 => z1 | 2 => z2 | 3 => z3 | _ => z4) q.2) := by
      have h := fun (d : Int) (k : Nat) => ins_map d k (fun k => match k with | 0 => z0 | 1 => z1 | 2 => z2 | 3 => z3 | _ => z4)
      have h0 := h d0 0 []
      have h1 := h d1 1 (insN (d0, 0) [])
      have h2 := h d2 2 (insN (d1, 1) (insN (d0, 0) []))
      have h3 := h d3 3 (insN (d2, 2) (insN (d1, 1) (insN (d0, 0) [])))
      have h4 := h d4 4 (insN (d3, 3) (insN (d2, 2) (insN (d1, 1) (insN (d0, 0) []))))
      simp only [List.map_nil] at h0
      rw [← h0] at h1
      rw [← h1] at h2
      rw [← h2] at h3
      rw [← h3] at h4
      exact h4
    rw [e, List.map_map, List.getElem?_map, hget]
    rfl
  · rw [← hP.countP_eq]
    exact count_at _ (rowN_row d0 d1 d2 d3 d4) p _ hget
theorem ite_before {a : Prop} [Decidable a] {b : Bool} (h : a ↔ b = true) : (if a then (1 : Int) else 0) = ((if b = true then 1 else 0 : Nat) : Int) := by
  by_cases q : a
  · rw [if_pos q, if_pos (h.mp q)]; rfl
  · rw [if_neg q, if_neg (fun e => q (h.mpr e))]; rfl
def bi (b : Bool) : Int := if b then 1 else 0
theorem bi_cast (b : Bool) : ((if b = true then 1 else 0 : Nat) : Int) = bi b := by cases b <;> rfl
theorem ite_bi {a : Prop} [Decidable a] {b : Bool} (h : a ↔ b = true) : (if a then (1 : Int) else 0) = bi b := (ite_before h).trans (bi_cast b)
theorem count5 (p : Int × Nat → Bool) (r0 r1 r2 r3 r4 : Int × Nat) : (([r4, r3, r2, r1, r0].countP p : Nat) : Int) = ((((bi (p r0) + bi (p r1)) + bi (p r2)) + bi (p r3)) + bi (p r4)) := by
  simp only [List.countP_cons, List.countP_nil, Int.natCast_add, bi_cast]
  generalize bi (p r0) = x0; generalize bi (p r1) = x1; generalize bi (p r2) = x2; generalize bi (p r3) = x3; generalize bi (p r4) = x4
  omega
theorem bf_n {sv X dx dq : Int} {q2 x2 : Nat} (e : X + dq = sv + dx) (h : q2 < x2) : X ≤ sv ↔ before (dq, q2) (dx, x2) = true := by
  rw [before_iff]
  simp only []
  omega
theorem bf_w {sv X dx dq : Int} {q2 x2 : Nat} (e : X + dq = sv + dx + 1) (h : x2 ≤ q2) : X ≤ sv ↔ before (dq, q2) (dx, x2) = true := by
  rw [before_iff]
  simp only []
  omega
theorem sum5_0 (x0 x1 x2 x3 x4 : Int) : (((((0 + x1) + x2) + x3) + x4) + x0) = ((((x0 + x1) + x2) + x3) + x4) := by omega
theorem sum5_1 (x0 x1 x2 x3 x4 : Int) : (((((0 + x2) + x3) + x4) + x0) + x1) = ((((x0 + x1) + x2) + x3) + x4) := by omega
theorem sum5_2 (x0 x1 x2 x3 x4 : Int) : (((((0 + x3) + x4) + x0) + x1) + x2) = ((((x0 + x1) + x2) + x3) + x4) := by omega
theorem sum5_3 (x0 x1 x2 x3 x4 : Int) : (((((0 + x4) + x0) + x1) + x2) + x3) = ((((x0 + x1) + x2) + x3) + x4) := by omega
theorem sum5_4 (x0 x1 x2 x3 x4 : Int) : (((((0 + x0) + x1) + x2) + x3) + x4) = ((((x0 + x1) + x2) + x3) + x4) := by omega
theorem low_0 (e0 e1 e2 e3 e4 sv : Int) (h4 : e4 = 1 - (e0 + (e1 + (e2 + (e3 + 0))))) : (((((0 + if (sv + e0) ≤ sv then 1 else 0) + if ((sv + e0) + e1) ≤ sv then 1 else 0) + if (((sv + e0) + e1) + e2) ≤ sv then 1 else 0) + if ((((sv + e0) + e1) + e2) + e3) ≤ sv then 1 else 0) + if (((((sv + e0) + e1) + e2) + e3) + e4) ≤ sv then 1 else 0) = (([((e0 + (e1 + (e2 + (e3 + (0))))), 4), ((e0 + (e1 + (e2 + (0)))), 3), ((e0 + (e1 + (0))), 2), ((e0 + (0)), 1), ((0), 0)].countP (before ((0), 0)) : Nat) : Int) := by
  have q0 := ite_bi (a := (sv + e0) ≤ sv) (b := before ((0), 0) ((e0 + (0)), 1)) (by first | exact bf_n (by omega) (by decide) | exact bf_w (by omega) (by decide))
  have q1 := ite_bi (a := ((sv + e0) + e1) ≤ sv) (b := before ((0), 0) ((e0 + (e1 + (0))), 2)) (by first | exact bf_n (by omega) (by decide) | exact bf_w (by omega) (by decide))
  have q2 := ite_bi (a := (((sv + e0) + e1) + e2) ≤ sv) (b := before ((0), 0) ((e0 + (e1 + (e2 + (0)))), 3)) (by first | exact bf_n (by omega) (by decide) | exact bf_w (by omega) (by decide))
  have q3 := ite_bi (a := ((((sv + e0) + e1) + e2) + e3) ≤ sv) (b := before ((0), 0) ((e0 + (e1 + (e2 + (e3 + (0))))), 4)) (by first | exact bf_n (by omega) (by decide) | exact bf_w (by omega) (by decide))
  have q4 := ite_bi (a := (((((sv + e0) + e1) + e2) + e3) + e4) ≤ sv) (b := before ((0), 0) ((0), 0)) (by first | exact bf_n (by omega) (by decide) | exact bf_w (by omega) (by decide))
  rw [q0, q1, q2, q3, q4, count5]
  exact sum5_0 _ _ _ _ _
theorem low_1 (e0 e1 e2 e3 e4 sv : Int) (h4 : e4 = 1 - (e0 + (e1 + (e2 + (e3 + 0))))) : (((((0 + if (sv + e1) ≤ sv then 1 else 0) + if ((sv + e1) + e2) ≤ sv then 1 else 0) + if (((sv + e1) + e2) + e3) ≤ sv then 1 else 0) + if ((((sv + e1) + e2) + e3) + e4) ≤ sv then 1 else 0) + if (((((sv + e1) + e2) + e3) + e4) + e0) ≤ sv then 1 else 0) = (([((e0 + (e1 + (e2 + (e3 + (0))))), 4), ((e0 + (e1 + (e2 + (0)))), 3), ((e0 + (e1 + (0))), 2), ((e0 + (0)), 1), ((0), 0)].countP (before ((e0 + (0)), 1)) : Nat) : Int) := by
  have q0 := ite_bi (a := (sv + e1) ≤ sv) (b := before ((e0 + (0)), 1) ((e0 + (e1 + (0))), 2)) (by first | exact bf_n (by omega) (by decide) | exact bf_w (by omega) (by decide))
  have q1 := ite_bi (a := ((sv + e1) + e2) ≤ sv) (b := before ((e0 + (0)), 1) ((e0 + (e1 + (e2 + (0)))), 3)) (by first | exact bf_n (by omega) (by decide) | exact bf_w (by omega) (by decide))
  have q2 := ite_bi (a := (((sv + e1) + e2) + e3) ≤ sv) (b := before ((e0 + (0)), 1) ((e0 + (e1 + (e2 + (e3 + (0))))), 4)) (by first | exact bf_n (by omega) (by decide) | exact bf_w (by omega) (by decide))
  have q3 := ite_bi (a := ((((sv + e1) + e2) + e3) + e4) ≤ sv) (b := before ((e0 + (0)), 1) ((0), 0)) (by first | exact bf_n (by omega) (by decide) | exact bf_w (by omega) (by decide))
  have q4 := ite_bi (a := (((((sv + e1) + e2) + e3) + e4) + e0) ≤ sv) (b := before ((e0 + (0)), 1) ((e0 + (0)), 1)) (by first | exact bf_n (by omega) (by decide) | exact bf_w (by omega) (by decide))
  rw [q0, q1, q2, q3, q4, count5]
  exact sum5_1 _ _ _ _ _
theorem low_2 (e0 e1 e2 e3 e4 sv : Int) (h4 : e4 = 1 - (e0 + (e1 + (e2 + (e3 + 0))))) : (((((0 + if (sv + e2) ≤ sv then 1 else 0) + if ((sv + e2) + e3) ≤ sv then 1 else 0) + if (((sv + e2) + e3) + e4) ≤ sv then 1 else 0) + if ((((sv + e2) + e3) + e4) + e0) ≤ sv then 1 else 0) + if (((((sv + e2) + e3) + e4) + e0) + e1) ≤ sv then 1 else 0) = (([((e0 + (e1 + (e2 + (e3 + (0))))), 4), ((e0 + (e1 + (e2 + (0)))), 3), ((e0 + (e1 + (0))), 2), ((e0 + (0)), 1), ((0), 0)].countP (before ((e0 + (e1 + (0))), 2)) : Nat) : Int) := by
  have q0 := ite_bi (a := (sv + e2) ≤ sv) (b := before ((e0 + (e1 + (0))), 2) ((e0 + (e1 + (e2 + (0)))), 3)) (by first | exact bf_n (by omega) (by decide) | exact bf_w (by omega) (by decide))
  have q1 := ite_bi (a := ((sv + e2) + e3) ≤ sv) (b := before ((e0 + (e1 + (0))), 2) ((e0 + (e1 + (e2 + (e3 + (0))))), 4)) (by first | exact bf_n (by omega) (by decide) | exact bf_w (by omega) (by decide))
  have q2 := ite_bi (a := (((sv + e2) + e3) + e4) ≤ sv) (b := before ((e0 + (e1 + (0))), 2) ((0), 0)) (by first | exact bf_n (by omega) (by decide) | exact bf_w (by omega) (by decide))
  have q3 := ite_bi (a := ((((sv + e2) + e3) + e4) + e0) ≤ sv) (b := before ((e0 + (e1 + (0))), 2) ((e0 + (0)), 1)) (by first | exact bf_n (by omega) (by decide) | exact bf_w (by omega) (by decide))
  have q4 := ite_bi (a := (((((sv + e2) + e3) + e4) + e0) + e1) ≤ sv) (b := before ((e0 + (e1 + (0))), 2) ((e0 + (e1 + (0))), 2)) (by first | exact bf_n (by omega) (by decide) | exact bf_w (by omega) (by decide))
  rw [q0, q1, q2, q3, q4, count5]
  exact sum5_2 _ _ _ _ _
theorem low_3 (e0 e1 e2 e3 e4 sv : Int) (h4 : e4 = 1 - (e0 + (e1 + (e2 + (e3 + 0))))) : (((((0 + if (sv + e3) ≤ sv then 1 else 0) + if ((sv + e3) + e4) ≤ sv then 1 else 0) + if (((sv + e3) + e4) + e0) ≤ sv then 1 else 0) + if ((((sv + e3) + e4) + e0) + e1) ≤ sv then 1 else 0) + if (((((sv + e3) + e4) + e0) + e1) + e2) ≤ sv then 1 else 0) = (([((e0 + (e1 + (e2 + (e3 + (0))))), 4), ((e0 + (e1 + (e2 + (0)))), 3), ((e0 + (e1 + (0))), 2), ((e0 + (0)), 1), ((0), 0)].countP (before ((e0 + (e1 + (e2 + (0)))), 3)) : Nat) : Int) := by
  have q0 := ite_bi (a := (sv + e3) ≤ sv) (b := before ((e0 + (e1 + (e2 + (0)))), 3) ((e0 + (e1 + (e2 + (e3 + (0))))), 4)) (by first | exact bf_n (by omega) (by decide) | exact bf_w (by omega) (by decide))
  have q1 := ite_bi (a := ((sv + e3) + e4) ≤ sv) (b := before ((e0 + (e1 + (e2 + (0)))), 3) ((0), 0)) (by first | exact bf_n (by omega) (by decide) | exact bf_w (by omega) (by decide))
  have q2 := ite_bi (a := (((sv + e3) + e4) + e0) ≤ sv) (b := before ((e0 + (e1 + (e2 + (0)))), 3) ((e0 + (0)), 1)) (by first | exact bf_n (by omega) (by decide) | exact bf_w (by omega) (by decide))
  have q3 := ite_bi (a := ((((sv + e3) + e4) + e0) + e1) ≤ sv) (b := before ((e0 + (e1 + (e2 + (0)))), 3) ((e0 + (e1 + (0))), 2)) (by first | exact bf_n (by omega) (by decide) | exact bf_w (by omega) (by decide))
  have q4 := ite_bi (a := (((((sv + e3) + e4) + e0) + e1) + e2) ≤ sv) (b := before ((e0 + (e1 + (e2 + (0)))), 3) ((e0 + (e1 + (e2 + (0)))), 3)) (by first | exact bf_n (by omega) (by decide) | exact bf_w (by omega) (by decide))
  rw [q0, q1, q2, q3, q4, count5]
  exact sum5_3 _ _ _ _ _
theorem low_4 (e0 e1 e2 e3 e4 sv : Int) (h4 : e4 = 1 - (e0 + (e1 + (e2 + (e3 + 0))))) : (((((0 + if (sv + e4) ≤ sv then 1 else 0) + if ((sv + e4) + e0) ≤ sv then 1 else 0) + if (((sv + e4) + e0) + e1) ≤ sv then 1 else 0) + if ((((sv + e4) + e0) + e1) + e2) ≤ sv then 1 else 0) + if (((((sv + e4) + e0) + e1) + e2) + e3) ≤ sv then 1 else 0) = (([((e0 + (e1 + (e2 + (e3 + (0))))), 4), ((e0 + (e1 + (e2 + (0)))), 3), ((e0 + (e1 + (0))), 2), ((e0 + (0)), 1), ((0), 0)].countP (before ((e0 + (e1 + (e2 + (e3 + (0))))), 4)) : Nat) : Int) := by
  have q0 := ite_bi (a := (sv + e4) ≤ sv) (b := before ((e0 + (e1 + (e2 + (e3 + (0))))), 4) ((0), 0)) (by first | exact bf_n (by omega) (by decide) | exact bf_w (by omega) (by decide))
  have q1 := ite_bi (a := ((sv + e4) + e0) ≤ sv) (b := before ((e0 + (e1 + (e2 + (e3 + (0))))), 4) ((e0 + (0)), 1)) (by first | exact bf_n (by omega) (by decide) | exact bf_w (by omega) (by decide))
  have q2 := ite_bi (a := (((sv + e4) + e0) + e1) ≤ sv) (b := before ((e0 + (e1 + (e2 + (e3 + (0))))), 4) ((e0 + (e1 + (0))), 2)) (by first | exact bf_n (by omega) (by decide) | exact bf_w (by omega) (by decide))
  have q3 := ite_bi (a := ((((sv + e4) + e0) + e1) + e2) ≤ sv) (b := before ((e0 + (e1 + (e2 + (e3 + (0))))), 4) ((e0 + (e1 + (e2 + (0)))), 3)) (by first | exact bf_n (by omega) (by decide) | exact bf_w (by omega) (by decide))
  have q4 := ite_bi (a := (((((sv + e4) + e0) + e1) + e2) + e3) ≤ sv) (b := before ((e0 + (e1 + (e2 + (e3 + (0))))), 4) ((e0 + (e1 + (e2 + (e3 + (0))))), 4)) (by first | exact bf_n (by omega) (by decide) | exact bf_w (by omega) (by decide))
  rw [q0, q1, q2, q3, q4, count5]
  exact sum5_4 _ _ _ _ _
end Mine

-- part W17
namespace Mine
open PySem PySem.W PySem.Calls PyProof.Rows
set_option Elab.async false
set_option maxRecDepth 100000
set_option maxHeartbeats 8000000

theorem labL_pos (k : Int) (ch : Nat) : 0 < (labL k ch).length := by have := labL_len k ch; omega
theorem octs_ne {x y : Str} {a b : List Pc} (hx : x.cps.toList = catL a) (hy : y.cps.toList = catL (a ++ b)) (hb : b ≠ []) : (octs x).toList ≠ (octs y).toList := by
  intro e
  have h1 := octs_size hx
  have h2 := octs_size hy
  have h3 : (octs x).size = (octs y).size := by rw [← Array.length_toList, ← Array.length_toList, e]
  rw [h1, h2, catL_append, List.length_append] at h3
  cases b with
  | nil => exact hb rfl
  | cons p r =>
    have := labL_pos p.k p.ch
    simp only [catL, Pc.l, List.length_append] at h3
    omega
theorem key_front {x : Str} {ps : List Pc} {t : Tok} {d : Int} (hx : x.cps.toList = catL ps) (h : ∀ p ∈ ps, p.ok) (hn : ps.length ≤ 10) (hd : sumE ps = d) : Key (.bytes (octs x) t) d := hd ▸ key_cat hx h hn
theorem turnP_0 {w : World} {mean : ExcName → Option Value} {mg mb : Str → Option Value} {h₀ : Heap} {L a : Addr} {cd : Value} {s : Shared} {Post : Flow → Shared → Prop} {A M J H B T0 T1 T2 T3 T4 lR I9 : Addr} {o9 o1 o2 o3 o4 o5 o6 p0 p1 p2 p3 p4 : Obj}
    (C : LawCtx w mean mg mb h₀) (K0 : Below callerA h₀ [] h₀) {c0 c1 c2 c3 e0 e1 e2 e3 e4 pl : Int} {t0 t1 t2 t3 u0 u1 u2 u3 u4 w0 w1 w2 w3 w4 x0 x1 x2 x3 x4 tp : Tok} {ep er : Nat} {q0 q1 q2 q3 q4 f0 f1 f2 f3 f4 : Str} {P0 : Pc} {P1 : Pc} {P2 : Pc} {P3 : Pc} {P4 : Pc} {rowl : List (Int × Value)} {kk : Int}
    (d3 : o3.data = .cell (some (.ref B))) (d5 : o5.data = .cell (some (.ref H))) (d6 : o6.data = .cell (some (.ref J))) (hq0 : q0.cps.toList = P0.l) (hk0 : P0.ok) (he0 : P0.e = e0) (hq1 : q1.cps.toList = P1.l) (hk1 : P1.ok) (he1 : P1.e = e1) (hq2 : q2.cps.toList = P2.l) (hk2 : P2.ok) (he2 : P2.e = e2) (hq3 : q3.cps.toList = P3.l) (hk3 : P3.ok) (he3 : P3.e = e3) (hq4 : q4.cps.toList = P4.l) (hk4 : P4.ok) (he4 : P4.e = e4) (hf0 : f0.cps.toList = catL []) (hf1 : f1.cps.toList = catL [P0]) (hf2 : f2.cps.toList = catL [P0, P1]) (hf3 : f3.cps.toList = catL [P0, P1, P2]) (hf4 : f4.cps.toList = catL [P0, P1, P2, P3])
    (hp : IsPartO kk "a" p0) (hkk : P0.k = kk) (hch : P0.ch = 97)
    (hp0 : 0 ≤ pl) (hp1 : pl < 2 ^ 63) (hrow : (rowl.map (·.2))[pl.toNat]? = some (.bytes (octs f0) x0)) (hlow : (((((0 + if ((Int.fdiv c0 35) + e0) ≤ (Int.fdiv c0 35) then 1 else 0) + if (((Int.fdiv c0 35) + e0) + e1) ≤ (Int.fdiv c0 35) then 1 else 0) + if ((((Int.fdiv c0 35) + e0) + e1) + e2) ≤ (Int.fdiv c0 35) then 1 else 0) + if (((((Int.fdiv c0 35) + e0) + e1) + e2) + e3) ≤ (Int.fdiv c0 35) then 1 else 0) + if ((((((Int.fdiv c0 35) + e0) + e1) + e2) + e3) + e4) ≤ (Int.fdiv c0 35) then 1 else 0) = pl)
    (ret : ∀ h' tk' m', Fr h₀ L h' m' → News h₀ L h' ((I9, o9) :: (lR, listOf (rowl.map (·.2)).toArray er) :: (M, LCg.lst [.bytes (octs f0) x0, .bytes (octs f1) x1, .bytes (octs f2) x2, .bytes (octs f3) x3, .bytes (octs f4) x4]) :: (J, LCg.lst [.str q0 w0, .str q1 w1, .str q2 w2, .str q3 w3, .str q4 w4]) :: (H, LCg.lst [.ref T0, .ref T1, .ref T2, .ref T3, .ref T4]) :: (T4, p4) :: (T3, p3) :: (T2, p2) :: (T1, p1) :: (T0, p0) :: (B, listOf #[.int e0 u0, .int e1 u1, .int e2 u2, .int e3 u3, .int e4 u4] ep) :: (A, LCg.lst [.int c0 t0, .int c1 t1, .int c2 t2, .int c3 t3]) :: cellsN L o1 o2 o3 o4 o5 o6) → (m' (Str.ofString "row") = some (.ref lR) ∧ m' (Str.ofString "fronts") = some (.ref M) ∧ m' (Str.ofString "cells") = some (.ref A) ∧ m' (Str.ofString "place") = some (.int pl tp)) → Post .next { s with heap := h', toks := tk' }) :
    GoesM w h₀ L a cd pBody Post s (fun m => m (Str.ofString "row") = some (.ref lR) ∧ m (Str.ofString "fronts") = some (.ref M) ∧ m (Str.ofString "cells") = some (.ref A) ∧ m (Str.ofString "place") = some (.int pl tp)) ((I9, o9) :: (lR, listOf (rowl.map (·.2)).toArray er) :: (M, LCg.lst [.bytes (octs f0) x0, .bytes (octs f1) x1, .bytes (octs f2) x2, .bytes (octs f3) x3, .bytes (octs f4) x4]) :: (J, LCg.lst [.str q0 w0, .str q1 w1, .str q2 w2, .str q3 w3, .str q4 w4]) :: (H, LCg.lst [.ref T0, .ref T1, .ref T2, .ref T3, .ref T4]) :: (T4, p4) :: (T3, p3) :: (T2, p2) :: (T1, p1) :: (T0, p0) :: (B, listOf #[.int e0 u0, .int e1 u1, .int e2 u2, .int e3 u3, .int e4 u4] ep) :: (A, LCg.lst [.int c0 t0, .int c1 t1, .int c2 t2, .int c3 t3]) :: cellsN L o1 o2 o3 o4 o5 o6) := by
  have hkey : Key (.bytes (octs f0) x0) (0) := key_front hf0 (by intro p hp; cases hp) (by simp) (by simp only [sumE, *])
  refine segD1_0 C K0 d3 hkey  hp0 hp1 hrow (fun ts tk' td tu tl => ?_)
  refine segD2_0 C K0 d3 d6 hq0 hk0 he0 hq1 hk1 he1 hq2 hk2 he2 hq3 hk3 he3 hq4 hk4 he4 ?_
  refine segD3_0 (P0 := P0) (P1 := P1) (P2 := P2) (P3 := P3) (P4 := P4) C K0 d5 hp hlow (fun y1 y2 y3 => ?_)
  with_reducible refine segD4a_0 C K0 d6 hq0 hk0 he0 hq1 hk1 he1 hq2 hk2 he2 hq3 hk3 he3 hq4 hk4 he4 (fun tu y4 htu => ?_)
  intro h tk m F ok N P
  have q := asks_all (w := w) (p := P0) (rest := [P1, P2, P3, P4]) (c := Str.ofString "a") (dg := Str.ofString "157") (tu := tu) (d1 := 49) (d2 := 53) (d3 := 55) hk0 (by intro p hp; simp only [List.mem_cons, List.not_mem_nil, or_false] at hp; rcases hp with rfl | rfl | rfl | rfl <;> assumption) (by simp) (by rw [hch]; rfl) htu rfl (by decide)
  rw [hkk] at q
  exact segD4b_0 (P0 := P0) (P1 := P1) (P2 := P2) (P3 := P3) (P4 := P4) C K0 q.a0 q.b0 q.a1 q.b1 q.a2 q.b2 q.a3 q.b3 q.a4 q.b4 q.a9 q.b9 q.b7 q.b8 F ok N ret

theorem turnP_1 {w : World} {mean : ExcName → Option Value} {mg mb : Str → Option Value} {h₀ : Heap} {L a : Addr} {cd : Value} {s : Shared} {Post : Flow → Shared → Prop} {A M J H B T0 T1 T2 T3 T4 lR I9 : Addr} {o9 o1 o2 o3 o4 o5 o6 p0 p1 p2 p3 p4 : Obj}
    (C : LawCtx w mean mg mb h₀) (K0 : Below callerA h₀ [] h₀) {c0 c1 c2 c3 e0 e1 e2 e3 e4 pl : Int} {t0 t1 t2 t3 u0 u1 u2 u3 u4 w0 w1 w2 w3 w4 x0 x1 x2 x3 x4 tp : Tok} {ep er : Nat} {q0 q1 q2 q3 q4 f0 f1 f2 f3 f4 : Str} {P0 : Pc} {P1 : Pc} {P2 : Pc} {P3 : Pc} {P4 : Pc} {rowl : List (Int × Value)} {kk : Int}
    (d3 : o3.data = .cell (some (.ref B))) (d5 : o5.data = .cell (some (.ref H))) (d6 : o6.data = .cell (some (.ref J))) (hq0 : q0.cps.toList = P0.l) (hk0 : P0.ok) (he0 : P0.e = e0) (hq1 : q1.cps.toList = P1.l) (hk1 : P1.ok) (he1 : P1.e = e1) (hq2 : q2.cps.toList = P2.l) (hk2 : P2.ok) (he2 : P2.e = e2) (hq3 : q3.cps.toList = P3.l) (hk3 : P3.ok) (he3 : P3.e = e3) (hq4 : q4.cps.toList = P4.l) (hk4 : P4.ok) (he4 : P4.e = e4) (hf0 : f0.cps.toList = catL []) (hf1 : f1.cps.toList = catL [P0]) (hf2 : f2.cps.toList = catL [P0, P1]) (hf3 : f3.cps.toList = catL [P0, P1, P2]) (hf4 : f4.cps.toList = catL [P0, P1, P2, P3])
    (hp : IsPartO kk "b" p1) (hkk : P1.k = kk) (hch : P1.ch = 98)
    (hp0 : 0 ≤ pl) (hp1 : pl < 2 ^ 63) (hrow : (rowl.map (·.2))[pl.toNat]? = some (.bytes (octs f1) x1)) (hlow : (((((0 + if ((Int.fdiv c1 35) + e1) ≤ (Int.fdiv c1 35) then 1 else 0) + if (((Int.fdiv c1 35) + e1) + e2) ≤ (Int.fdiv c1 35) then 1 else 0) + if ((((Int.fdiv c1 35) + e1) + e2) + e3) ≤ (Int.fdiv c1 35) then 1 else 0) + if (((((Int.fdiv c1 35) + e1) + e2) + e3) + e4) ≤ (Int.fdiv c1 35) then 1 else 0) + if ((((((Int.fdiv c1 35) + e1) + e2) + e3) + e4) + e0) ≤ (Int.fdiv c1 35) then 1 else 0) = pl)
    (ret : ∀ h' tk' m', Fr h₀ L h' m' → News h₀ L h' ((I9, o9) :: (lR, listOf (rowl.map (·.2)).toArray er) :: (M, LCg.lst [.bytes (octs f0) x0, .bytes (octs f1) x1, .bytes (octs f2) x2, .bytes (octs f3) x3, .bytes (octs f4) x4]) :: (J, LCg.lst [.str q0 w0, .str q1 w1, .str q2 w2, .str q3 w3, .str q4 w4]) :: (H, LCg.lst [.ref T0, .ref T1, .ref T2, .ref T3, .ref T4]) :: (T4, p4) :: (T3, p3) :: (T2, p2) :: (T1, p1) :: (T0, p0) :: (B, listOf #[.int e0 u0, .int e1 u1, .int e2 u2, .int e3 u3, .int e4 u4] ep) :: (A, LCg.lst [.int c0 t0, .int c1 t1, .int c2 t2, .int c3 t3]) :: cellsN L o1 o2 o3 o4 o5 o6) → (m' (Str.ofString "row") = some (.ref lR) ∧ m' (Str.ofString "fronts") = some (.ref M) ∧ m' (Str.ofString "cells") = some (.ref A) ∧ m' (Str.ofString "place") = some (.int pl tp)) → Post .next { s with heap := h', toks := tk' }) :
    GoesM w h₀ L a cd pBody Post s (fun m => m (Str.ofString "row") = some (.ref lR) ∧ m (Str.ofString "fronts") = some (.ref M) ∧ m (Str.ofString "cells") = some (.ref A) ∧ m (Str.ofString "place") = some (.int pl tp)) ((I9, o9) :: (lR, listOf (rowl.map (·.2)).toArray er) :: (M, LCg.lst [.bytes (octs f0) x0, .bytes (octs f1) x1, .bytes (octs f2) x2, .bytes (octs f3) x3, .bytes (octs f4) x4]) :: (J, LCg.lst [.str q0 w0, .str q1 w1, .str q2 w2, .str q3 w3, .str q4 w4]) :: (H, LCg.lst [.ref T0, .ref T1, .ref T2, .ref T3, .ref T4]) :: (T4, p4) :: (T3, p3) :: (T2, p2) :: (T1, p1) :: (T0, p0) :: (B, listOf #[.int e0 u0, .int e1 u1, .int e2 u2, .int e3 u3, .int e4 u4] ep) :: (A, LCg.lst [.int c0 t0, .int c1 t1, .int c2 t2, .int c3 t3]) :: cellsN L o1 o2 o3 o4 o5 o6) := by
  have hkey : Key (.bytes (octs f1) x1) (e0 + (0)) := key_front hf1 (by intro p hp; simp only [List.mem_cons, List.not_mem_nil, or_false] at hp; rcases hp with rfl <;> assumption) (by simp) (by simp only [sumE, *])
  refine segD1_1 C K0 d3 hkey (octs_ne (b := [P0]) hf0 hf1 (by simp)) hp0 hp1 hrow (fun ts tk' td tu tl => ?_)
  refine segD2_1 C K0 d3 d6 hq0 hk0 he0 hq1 hk1 he1 hq2 hk2 he2 hq3 hk3 he3 hq4 hk4 he4 ?_
  refine segD3_1 (P0 := P0) (P1 := P1) (P2 := P2) (P3 := P3) (P4 := P4) C K0 d5 hp hlow (fun y1 y2 y3 => ?_)
  with_reducible refine segD4a_1 C K0 d6 hq0 hk0 he0 hq1 hk1 he1 hq2 hk2 he2 hq3 hk3 he3 hq4 hk4 he4 (fun tu y4 htu => ?_)
  intro h tk m F ok N P
  have q := asks_all (w := w) (p := P1) (rest := [P2, P3, P4, P0]) (c := Str.ofString "b") (dg := Str.ofString "207") (tu := tu) (d1 := 50) (d2 := 48) (d3 := 55) hk1 (by intro p hp; simp only [List.mem_cons, List.not_mem_nil, or_false] at hp; rcases hp with rfl | rfl | rfl | rfl <;> assumption) (by simp) (by rw [hch]; rfl) htu rfl (by decide)
  rw [hkk] at q
  exact segD4b_1 (P0 := P0) (P1 := P1) (P2 := P2) (P3 := P3) (P4 := P4) C K0 q.a0 q.b0 q.a1 q.b1 q.a2 q.b2 q.a3 q.b3 q.a4 q.b4 q.a9 q.b9 q.b7 q.b8 F ok N ret

theorem turnP_2 {w : World} {mean : ExcName → Option Value} {mg mb : Str → Option Value} {h₀ : Heap} {L a : Addr} {cd : Value} {s : Shared} {Post : Flow → Shared → Prop} {A M J H B T0 T1 T2 T3 T4 lR I9 : Addr} {o9 o1 o2 o3 o4 o5 o6 p0 p1 p2 p3 p4 : Obj}
    (C : LawCtx w mean mg mb h₀) (K0 : Below callerA h₀ [] h₀) {c0 c1 c2 c3 e0 e1 e2 e3 e4 pl : Int} {t0 t1 t2 t3 u0 u1 u2 u3 u4 w0 w1 w2 w3 w4 x0 x1 x2 x3 x4 tp : Tok} {ep er : Nat} {q0 q1 q2 q3 q4 f0 f1 f2 f3 f4 : Str} {P0 : Pc} {P1 : Pc} {P2 : Pc} {P3 : Pc} {P4 : Pc} {rowl : List (Int × Value)} {kk : Int}
    (d3 : o3.data = .cell (some (.ref B))) (d5 : o5.data = .cell (some (.ref H))) (d6 : o6.data = .cell (some (.ref J))) (hq0 : q0.cps.toList = P0.l) (hk0 : P0.ok) (he0 : P0.e = e0) (hq1 : q1.cps.toList = P1.l) (hk1 : P1.ok) (he1 : P1.e = e1) (hq2 : q2.cps.toList = P2.l) (hk2 : P2.ok) (he2 : P2.e = e2) (hq3 : q3.cps.toList = P3.l) (hk3 : P3.ok) (he3 : P3.e = e3) (hq4 : q4.cps.toList = P4.l) (hk4 : P4.ok) (he4 : P4.e = e4) (hf0 : f0.cps.toList = catL []) (hf1 : f1.cps.toList = catL [P0]) (hf2 : f2.cps.toList = catL [P0, P1]) (hf3 : f3.cps.toList = catL [P0, P1, P2]) (hf4 : f4.cps.toList = catL [P0, P1, P2, P3])
    (hp : IsPartO kk "c" p2) (hkk : P2.k = kk) (hch : P2.ch = 99)
    (hp0 : 0 ≤ pl) (hp1 : pl < 2 ^ 63) (hrow : (rowl.map (·.2))[pl.toNat]? = some (.bytes (octs f2) x2)) (hlow : (((((0 + if ((Int.fdiv c2 35) + e2) ≤ (Int.fdiv c2 35) then 1 else 0) + if (((Int.fdiv c2 35) + e2) + e3) ≤ (Int.fdiv c2 35) then 1 else 0) + if ((((Int.fdiv c2 35) + e2) + e3) + e4) ≤ (Int.fdiv c2 35) then 1 else 0) + if (((((Int.fdiv c2 35) + e2) + e3) + e4) + e0) ≤ (Int.fdiv c2 35) then 1 else 0) + if ((((((Int.fdiv c2 35) + e2) + e3) + e4) + e0) + e1) ≤ (Int.fdiv c2 35) then 1 else 0) = pl)
    (ret : ∀ h' tk' m', Fr h₀ L h' m' → News h₀ L h' ((I9, o9) :: (lR, listOf (rowl.map (·.2)).toArray er) :: (M, LCg.lst [.bytes (octs f0) x0, .bytes (octs f1) x1, .bytes (octs f2) x2, .bytes (octs f3) x3, .bytes (octs f4) x4]) :: (J, LCg.lst [.str q0 w0, .str q1 w1, .str q2 w2, .str q3 w3, .str q4 w4]) :: (H, LCg.lst [.ref T0, .ref T1, .ref T2, .ref T3, .ref T4]) :: (T4, p4) :: (T3, p3) :: (T2, p2) :: (T1, p1) :: (T0, p0) :: (B, listOf #[.int e0 u0, .int e1 u1, .int e2 u2, .int e3 u3, .int e4 u4] ep) :: (A, LCg.lst [.int c0 t0, .int c1 t1, .int c2 t2, .int c3 t3]) :: cellsN L o1 o2 o3 o4 o5 o6) → (m' (Str.ofString "row") = some (.ref lR) ∧ m' (Str.ofString "fronts") = some (.ref M) ∧ m' (Str.ofString "cells") = some (.ref A) ∧ m' (Str.ofString "place") = some (.int pl tp)) → Post .next { s with heap := h', toks := tk' }) :
    GoesM w h₀ L a cd pBody Post s (fun m => m (Str.ofString "row") = some (.ref lR) ∧ m (Str.ofString "fronts") = some (.ref M) ∧ m (Str.ofString "cells") = some (.ref A) ∧ m (Str.ofString "place") = some (.int pl tp)) ((I9, o9) :: (lR, listOf (rowl.map (·.2)).toArray er) :: (M, LCg.lst [.bytes (octs f0) x0, .bytes (octs f1) x1, .bytes (octs f2) x2, .bytes (octs f3) x3, .bytes (octs f4) x4]) :: (J, LCg.lst [.str q0 w0, .str q1 w1, .str q2 w2, .str q3 w3, .str q4 w4]) :: (H, LCg.lst [.ref T0, .ref T1, .ref T2, .ref T3, .ref T4]) :: (T4, p4) :: (T3, p3) :: (T2, p2) :: (T1, p1) :: (T0, p0) :: (B, listOf #[.int e0 u0, .int e1 u1, .int e2 u2, .int e3 u3, .int e4 u4] ep) :: (A, LCg.lst [.int c0 t0, .int c1 t1, .int c2 t2, .int c3 t3]) :: cellsN L o1 o2 o3 o4 o5 o6) := by
  have hkey : Key (.bytes (octs f2) x2) (e0 + (e1 + (0))) := key_front hf2 (by intro p hp; simp only [List.mem_cons, List.not_mem_nil, or_false] at hp; rcases hp with rfl | rfl <;> assumption) (by simp) (by simp only [sumE, *])
  refine segD1_2 C K0 d3 hkey (octs_ne (b := [P0, P1]) hf0 hf2 (by simp)) (octs_ne (b := [P1]) hf1 hf2 (by simp)) hp0 hp1 hrow (fun ts tk' td tu tl => ?_)
  refine segD2_2 C K0 d3 d6 hq0 hk0 he0 hq1 hk1 he1 hq2 hk2 he2 hq3 hk3 he3 hq4 hk4 he4 ?_
  refine segD3_2 (P0 := P0) (P1 := P1) (P2 := P2) (P3 := P3) (P4 := P4) C K0 d5 hp hlow (fun y1 y2 y3 => ?_)
  with_reducible refine segD4a_2 C K0 d6 hq0 hk0 he0 hq1 hk1 he1 hq2 hk2 he2 hq3 hk3 he3 hq4 hk4 he4 (fun tu y4 htu => ?_)
  intro h tk m F ok N P
  have q := asks_all (w := w) (p := P2) (rest := [P3, P4, P0, P1]) (c := Str.ofString "c") (dg := Str.ofString "250") (tu := tu) (d1 := 50) (d2 := 53) (d3 := 48) hk2 (by intro p hp; simp only [List.mem_cons, List.not_mem_nil, or_false] at hp; rcases hp with rfl | rfl | rfl | rfl <;> assumption) (by simp) (by rw [hch]; rfl) htu rfl (by decide)
  rw [hkk] at q
  exact segD4b_2 (P0 := P0) (P1 := P1) (P2 := P2) (P3 := P3) (P4 := P4) C K0 q.a0 q.b0 q.a1 q.b1 q.a2 q.b2 q.a3 q.b3 q.a4 q.b4 q.a9 q.b9 q.b7 q.b8 F ok N ret

theorem turnP_3 {w : World} {mean : ExcName → Option Value} {mg mb : Str → Option Value} {h₀ : Heap} {L a : Addr} {cd : Value} {s : Shared} {Post : Flow → Shared → Prop} {A M J H B T0 T1 T2 T3 T4 lR I9 : Addr} {o9 o1 o2 o3 o4 o5 o6 p0 p1 p2 p3 p4 : Obj}
    (C : LawCtx w mean mg mb h₀) (K0 : Below callerA h₀ [] h₀) {c0 c1 c2 c3 e0 e1 e2 e3 e4 pl : Int} {t0 t1 t2 t3 u0 u1 u2 u3 u4 w0 w1 w2 w3 w4 x0 x1 x2 x3 x4 tp : Tok} {ep er : Nat} {q0 q1 q2 q3 q4 f0 f1 f2 f3 f4 : Str} {P0 : Pc} {P1 : Pc} {P2 : Pc} {P3 : Pc} {P4 : Pc} {rowl : List (Int × Value)} {kk : Int}
    (d3 : o3.data = .cell (some (.ref B))) (d5 : o5.data = .cell (some (.ref H))) (d6 : o6.data = .cell (some (.ref J))) (hq0 : q0.cps.toList = P0.l) (hk0 : P0.ok) (he0 : P0.e = e0) (hq1 : q1.cps.toList = P1.l) (hk1 : P1.ok) (he1 : P1.e = e1) (hq2 : q2.cps.toList = P2.l) (hk2 : P2.ok) (he2 : P2.e = e2) (hq3 : q3.cps.toList = P3.l) (hk3 : P3.ok) (he3 : P3.e = e3) (hq4 : q4.cps.toList = P4.l) (hk4 : P4.ok) (he4 : P4.e = e4) (hf0 : f0.cps.toList = catL []) (hf1 : f1.cps.toList = catL [P0]) (hf2 : f2.cps.toList = catL [P0, P1]) (hf3 : f3.cps.toList = catL [P0, P1, P2]) (hf4 : f4.cps.toList = catL [P0, P1, P2, P3])
    (hp : IsPartO kk "d" p3) (hkk : P3.k = kk) (hch : P3.ch = 100)
    (hp0 : 0 ≤ pl) (hp1 : pl < 2 ^ 63) (hrow : (rowl.map (·.2))[pl.toNat]? = some (.bytes (octs f3) x3)) (hlow : (((((0 + if ((Int.fdiv c3 35) + e3) ≤ (Int.fdiv c3 35) then 1 else 0) + if (((Int.fdiv c3 35) + e3) + e4) ≤ (Int.fdiv c3 35) then 1 else 0) + if ((((Int.fdiv c3 35) + e3) + e4) + e0) ≤ (Int.fdiv c3 35) then 1 else 0) + if (((((Int.fdiv c3 35) + e3) + e4) + e0) + e1) ≤ (Int.fdiv c3 35) then 1 else 0) + if ((((((Int.fdiv c3 35) + e3) + e4) + e0) + e1) + e2) ≤ (Int.fdiv c3 35) then 1 else 0) = pl)
    (ret : ∀ h' tk' m', Fr h₀ L h' m' → News h₀ L h' ((I9, o9) :: (lR, listOf (rowl.map (·.2)).toArray er) :: (M, LCg.lst [.bytes (octs f0) x0, .bytes (octs f1) x1, .bytes (octs f2) x2, .bytes (octs f3) x3, .bytes (octs f4) x4]) :: (J, LCg.lst [.str q0 w0, .str q1 w1, .str q2 w2, .str q3 w3, .str q4 w4]) :: (H, LCg.lst [.ref T0, .ref T1, .ref T2, .ref T3, .ref T4]) :: (T4, p4) :: (T3, p3) :: (T2, p2) :: (T1, p1) :: (T0, p0) :: (B, listOf #[.int e0 u0, .int e1 u1, .int e2 u2, .int e3 u3, .int e4 u4] ep) :: (A, LCg.lst [.int c0 t0, .int c1 t1, .int c2 t2, .int c3 t3]) :: cellsN L o1 o2 o3 o4 o5 o6) → (m' (Str.ofString "row") = some (.ref lR) ∧ m' (Str.ofString "fronts") = some (.ref M) ∧ m' (Str.ofString "cells") = some (.ref A) ∧ m' (Str.ofString "place") = some (.int pl tp)) → Post .next { s with heap := h', toks := tk' }) :
    GoesM w h₀ L a cd pBody Post s (fun m => m (Str.ofString "row") = some (.ref lR) ∧ m (Str.ofString "fronts") = some (.ref M) ∧ m (Str.ofString "cells") = some (.ref A) ∧ m (Str.ofString "place") = some (.int pl tp)) ((I9, o9) :: (lR, listOf (rowl.map (·.2)).toArray er) :: (M, LCg.lst [.bytes (octs f0) x0, .bytes (octs f1) x1, .bytes (octs f2) x2, .bytes (octs f3) x3, .bytes (octs f4) x4]) :: (J, LCg.lst [.str q0 w0, .str q1 w1, .str q2 w2, .str q3 w3, .str q4 w4]) :: (H, LCg.lst [.ref T0, .ref T1, .ref T2, .ref T3, .ref T4]) :: (T4, p4) :: (T3, p3) :: (T2, p2) :: (T1, p1) :: (T0, p0) :: (B, listOf #[.int e0 u0, .int e1 u1, .int e2 u2, .int e3 u3, .int e4 u4] ep) :: (A, LCg.lst [.int c0 t0, .int c1 t1, .int c2 t2, .int c3 t3]) :: cellsN L o1 o2 o3 o4 o5 o6) := by
  have hkey : Key (.bytes (octs f3) x3) (e0 + (e1 + (e2 + (0)))) := key_front hf3 (by intro p hp; simp only [List.mem_cons, List.not_mem_nil, or_false] at hp; rcases hp with rfl | rfl | rfl <;> assumption) (by simp) (by simp only [sumE, *])
  refine segD1_3 C K0 d3 hkey (octs_ne (b := [P0, P1, P2]) hf0 hf3 (by simp)) (octs_ne (b := [P1, P2]) hf1 hf3 (by simp)) (octs_ne (b := [P2]) hf2 hf3 (by simp)) hp0 hp1 hrow (fun ts tk' td tu tl => ?_)
  refine segD2_3 C K0 d3 d6 hq0 hk0 he0 hq1 hk1 he1 hq2 hk2 he2 hq3 hk3 he3 hq4 hk4 he4 ?_
  refine segD3_3 (P0 := P0) (P1 := P1) (P2 := P2) (P3 := P3) (P4 := P4) C K0 d5 hp hlow (fun y1 y2 y3 => ?_)
  with_reducible refine segD4a_3 C K0 d6 hq0 hk0 he0 hq1 hk1 he1 hq2 hk2 he2 hq3 hk3 he3 hq4 hk4 he4 (fun tu y4 htu => ?_)
  intro h tk m F ok N P
  have q := asks_all (w := w) (p := P3) (rest := [P4, P0, P1, P2]) (c := Str.ofString "d") (dg := Str.ofString "256") (tu := tu) (d1 := 50) (d2 := 53) (d3 := 54) hk3 (by intro p hp; simp only [List.mem_cons, List.not_mem_nil, or_false] at hp; rcases hp with rfl | rfl | rfl | rfl <;> assumption) (by simp) (by rw [hch]; rfl) htu rfl (by decide)
  rw [hkk] at q
  exact segD4b_3 (P0 := P0) (P1 := P1) (P2 := P2) (P3 := P3) (P4 := P4) C K0 q.a0 q.b0 q.a1 q.b1 q.a2 q.b2 q.a3 q.b3 q.a4 q.b4 q.a9 q.b9 q.b7 q.b8 F ok N ret

theorem turnP_4 {w : World} {mean : ExcName → Option Value} {mg mb : Str → Option Value} {h₀ : Heap} {L a : Addr} {cd : Value} {s : Shared} {Post : Flow → Shared → Prop} {A M J H B T0 T1 T2 T3 T4 lR I9 : Addr} {o9 o1 o2 o3 o4 o5 o6 p0 p1 p2 p3 p4 : Obj}
    (C : LawCtx w mean mg mb h₀) (K0 : Below callerA h₀ [] h₀) {c0 c1 c2 c3 e0 e1 e2 e3 e4 pl : Int} {t0 t1 t2 t3 u0 u1 u2 u3 u4 w0 w1 w2 w3 w4 x0 x1 x2 x3 x4 tp : Tok} {ep er : Nat} {q0 q1 q2 q3 q4 f0 f1 f2 f3 f4 : Str} {P0 : Pc} {P1 : Pc} {P2 : Pc} {P3 : Pc} {P4 : Pc} {rowl : List (Int × Value)} {kk : Int}
    (d3 : o3.data = .cell (some (.ref B))) (d5 : o5.data = .cell (some (.ref H))) (d6 : o6.data = .cell (some (.ref J))) (hq0 : q0.cps.toList = P0.l) (hk0 : P0.ok) (he0 : P0.e = e0) (hq1 : q1.cps.toList = P1.l) (hk1 : P1.ok) (he1 : P1.e = e1) (hq2 : q2.cps.toList = P2.l) (hk2 : P2.ok) (he2 : P2.e = e2) (hq3 : q3.cps.toList = P3.l) (hk3 : P3.ok) (he3 : P3.e = e3) (hq4 : q4.cps.toList = P4.l) (hk4 : P4.ok) (he4 : P4.e = e4) (hf0 : f0.cps.toList = catL []) (hf1 : f1.cps.toList = catL [P0]) (hf2 : f2.cps.toList = catL [P0, P1]) (hf3 : f3.cps.toList = catL [P0, P1, P2]) (hf4 : f4.cps.toList = catL [P0, P1, P2, P3])
    (hp : IsPartO kk "e" p4) (hkk : P4.k = kk) (hch : P4.ch = 101)
    (hp0 : 0 ≤ pl) (hp1 : pl < 2 ^ 63) (hrow : (rowl.map (·.2))[pl.toNat]? = some (.bytes (octs f4) x4)) (hlow : (((((0 + if ((Int.fdiv c0 35) + e4) ≤ (Int.fdiv c0 35) then 1 else 0) + if (((Int.fdiv c0 35) + e4) + e0) ≤ (Int.fdiv c0 35) then 1 else 0) + if ((((Int.fdiv c0 35) + e4) + e0) + e1) ≤ (Int.fdiv c0 35) then 1 else 0) + if (((((Int.fdiv c0 35) + e4) + e0) + e1) + e2) ≤ (Int.fdiv c0 35) then 1 else 0) + if ((((((Int.fdiv c0 35) + e4) + e0) + e1) + e2) + e3) ≤ (Int.fdiv c0 35) then 1 else 0) = pl)
    (ret : ∀ h' tk' m', Fr h₀ L h' m' → News h₀ L h' ((I9, o9) :: (lR, listOf (rowl.map (·.2)).toArray er) :: (M, LCg.lst [.bytes (octs f0) x0, .bytes (octs f1) x1, .bytes (octs f2) x2, .bytes (octs f3) x3, .bytes (octs f4) x4]) :: (J, LCg.lst [.str q0 w0, .str q1 w1, .str q2 w2, .str q3 w3, .str q4 w4]) :: (H, LCg.lst [.ref T0, .ref T1, .ref T2, .ref T3, .ref T4]) :: (T4, p4) :: (T3, p3) :: (T2, p2) :: (T1, p1) :: (T0, p0) :: (B, listOf #[.int e0 u0, .int e1 u1, .int e2 u2, .int e3 u3, .int e4 u4] ep) :: (A, LCg.lst [.int c0 t0, .int c1 t1, .int c2 t2, .int c3 t3]) :: cellsN L o1 o2 o3 o4 o5 o6) → (m' (Str.ofString "row") = some (.ref lR) ∧ m' (Str.ofString "fronts") = some (.ref M) ∧ m' (Str.ofString "cells") = some (.ref A) ∧ m' (Str.ofString "place") = some (.int pl tp)) → Post .next { s with heap := h', toks := tk' }) :
    GoesM w h₀ L a cd pBody Post s (fun m => m (Str.ofString "row") = some (.ref lR) ∧ m (Str.ofString "fronts") = some (.ref M) ∧ m (Str.ofString "cells") = some (.ref A) ∧ m (Str.ofString "place") = some (.int pl tp)) ((I9, o9) :: (lR, listOf (rowl.map (·.2)).toArray er) :: (M, LCg.lst [.bytes (octs f0) x0, .bytes (octs f1) x1, .bytes (octs f2) x2, .bytes (octs f3) x3, .bytes (octs f4) x4]) :: (J, LCg.lst [.str q0 w0, .str q1 w1, .str q2 w2, .str q3 w3, .str q4 w4]) :: (H, LCg.lst [.ref T0, .ref T1, .ref T2, .ref T3, .ref T4]) :: (T4, p4) :: (T3, p3) :: (T2, p2) :: (T1, p1) :: (T0, p0) :: (B, listOf #[.int e0 u0, .int e1 u1, .int e2 u2, .int e3 u3, .int e4 u4] ep) :: (A, LCg.lst [.int c0 t0, .int c1 t1, .int c2 t2, .int c3 t3]) :: cellsN L o1 o2 o3 o4 o5 o6) := by
  have hkey : Key (.bytes (octs f4) x4) (e0 + (e1 + (e2 + (e3 + (0))))) := key_front hf4 (by intro p hp; simp only [List.mem_cons, List.not_mem_nil, or_false] at hp; rcases hp with rfl | rfl | rfl | rfl <;> assumption) (by simp) (by simp only [sumE, *])
  refine segD1_4 C K0 d3 hkey (octs_ne (b := [P0, P1, P2, P3]) hf0 hf4 (by simp)) (octs_ne (b := [P1, P2, P3]) hf1 hf4 (by simp)) (octs_ne (b := [P2, P3]) hf2 hf4 (by simp)) (octs_ne (b := [P3]) hf3 hf4 (by simp)) hp0 hp1 hrow (fun ts tk' td tu tl => ?_)
  refine segD2_4 C K0 d3 d6 hq0 hk0 he0 hq1 hk1 he1 hq2 hk2 he2 hq3 hk3 he3 hq4 hk4 he4 ?_
  refine segD3_4 (P0 := P0) (P1 := P1) (P2 := P2) (P3 := P3) (P4 := P4) C K0 d5 hp hlow (fun y1 y2 y3 => ?_)
  with_reducible refine segD4a_4 C K0 d6 hq0 hk0 he0 hq1 hk1 he1 hq2 hk2 he2 hq3 hk3 he3 hq4 hk4 he4 (fun tu y4 htu => ?_)
  intro h tk m F ok N P
  have q := asks_all (w := w) (p := P4) (rest := [P0, P1, P2, P3]) (c := Str.ofString "e") (dg := Str.ofString "357") (tu := tu) (d1 := 51) (d2 := 53) (d3 := 55) hk4 (by intro p hp; simp only [List.mem_cons, List.not_mem_nil, or_false] at hp; rcases hp with rfl | rfl | rfl | rfl <;> assumption) (by simp) (by rw [hch]; rfl) htu rfl (by decide)
  rw [hkk] at q
  exact segD4b_4 (P0 := P0) (P1 := P1) (P2 := P2) (P3 := P3) (P4 := P4) C K0 q.a0 q.b0 q.a1 q.b1 q.a2 q.b2 q.a3 q.b3 q.a4 q.b4 q.a9 q.b9 q.b7 q.b8 F ok N ret

end Mine

-- part W18
namespace Mine
open PySem PySem.W PySem.Calls PyProof.Rows
set_option Elab.async false
set_option maxRecDepth 100000
set_option maxHeartbeats 8000000

theorem off_W18 : True := by w_top off; trivial


theorem turnAny {w : World} {mean : ExcName → Option Value} {mg mb : Str → Option Value} {h₀ : Heap} {L a : Addr} {cd : Value} {s : Shared} {Post : Flow → Shared → Prop} {A M J H B T0 T1 T2 T3 T4 lR I9 : Addr} {o9 o1 o2 o3 o4 o5 o6 p0 p1 p2 p3 p4 : Obj}
    (C : LawCtx w mean mg mb h₀) (K0 : Below callerA h₀ [] h₀) {c0 c1 c2 c3 e0 e1 e2 e3 e4 : Int} {t0 t1 t2 t3 u0 u1 u2 u3 u4 w0 w1 w2 w3 w4 x0 x1 x2 x3 x4 : Tok} {ep er : Nat} {q0 q1 q2 q3 q4 f0 f1 f2 f3 f4 : Str} {P0 : Pc} {P1 : Pc} {P2 : Pc} {P3 : Pc} {P4 : Pc} {rowl : List (Int × Value)} {tp : Tok} (p : Nat) (hp5 : p < 5)
    (d3 : o3.data = .cell (some (.ref B))) (d5 : o5.data = .cell (some (.ref H))) (d6 : o6.data = .cell (some (.ref J))) (hq0 : q0.cps.toList = P0.l) (hk0 : P0.ok) (he0 : P0.e = e0) (hq1 : q1.cps.toList = P1.l) (hk1 : P1.ok) (he1 : P1.e = e1) (hq2 : q2.cps.toList = P2.l) (hk2 : P2.ok) (he2 : P2.e = e2) (hq3 : q3.cps.toList = P3.l) (hk3 : P3.ok) (he3 : P3.e = e3) (hq4 : q4.cps.toList = P4.l) (hk4 : P4.ok) (he4 : P4.e = e4) (hf0 : f0.cps.toList = catL []) (hf1 : f1.cps.toList = catL [P0]) (hf2 : f2.cps.toList = catL [P0, P1]) (hf3 : f3.cps.toList = catL [P0, P1, P2]) (hf4 : f4.cps.toList = catL [P0, P1, P2, P3]) (hp0 : IsPartO P0.k "a" p0) (hch0 : P0.ch = 97) (hp1 : IsPartO P1.k "b" p1) (hch1 : P1.ch = 98) (hp2 : IsPartO P2.k "c" p2) (hch2 : P2.ch = 99) (hp3 : IsPartO P3.k "d" p3) (hch3 : P3.ch = 100) (hp4 : IsPartO P4.k "e" p4) (hch4 : P4.ch = 101)
    (h4 : e4 = 1 - (e0 + (e1 + (e2 + (e3 + 0))))) (hrl : rowl = insL ((e0 + (e1 + (e2 + (e3 + (0))))), .bytes (octs f4) x4) (insL ((e0 + (e1 + (e2 + (0)))), .bytes (octs f3) x3) (insL ((e0 + (e1 + (0))), .bytes (octs f2) x2) (insL ((e0 + (0)), .bytes (octs f1) x1) (insL ((0), .bytes (octs f0) x0) ([]))))))
    (ret : ∀ h' tk' m', Fr h₀ L h' m' → News h₀ L h' ((I9, o9) :: (lR, listOf (rowl.map (·.2)).toArray er) :: (M, LCg.lst [.bytes (octs f0) x0, .bytes (octs f1) x1, .bytes (octs f2) x2, .bytes (octs f3) x3, .bytes (octs f4) x4]) :: (J, LCg.lst [.str q0 w0, .str q1 w1, .str q2 w2, .str q3 w3, .str q4 w4]) :: (H, LCg.lst [.ref T0, .ref T1, .ref T2, .ref T3, .ref T4]) :: (T4, p4) :: (T3, p3) :: (T2, p2) :: (T1, p1) :: (T0, p0) :: (B, listOf #[.int e0 u0, .int e1 u1, .int e2 u2, .int e3 u3, .int e4 u4] ep) :: (A, LCg.lst [.int c0 t0, .int c1 t1, .int c2 t2, .int c3 t3]) :: cellsN L o1 o2 o3 o4 o5 o6) → (m' (Str.ofString "row") = some (.ref lR) ∧ m' (Str.ofString "fronts") = some (.ref M) ∧ m' (Str.ofString "cells") = some (.ref A) ∧ m' (Str.ofString "place") = some (.int (0 + (p : Int)) tp)) → Post .next { s with heap := h', toks := tk' }) :
    GoesM w h₀ L a cd pBody Post s (fun m => m (Str.ofString "row") = some (.ref lR) ∧ m (Str.ofString "fronts") = some (.ref M) ∧ m (Str.ofString "cells") = some (.ref A) ∧ m (Str.ofString "place") = some (.int (0 + (p : Int)) tp)) ((I9, o9) :: (lR, listOf (rowl.map (·.2)).toArray er) :: (M, LCg.lst [.bytes (octs f0) x0, .bytes (octs f1) x1, .bytes (octs f2) x2, .bytes (octs f3) x3, .bytes (octs f4) x4]) :: (J, LCg.lst [.str q0 w0, .str q1 w1, .str q2 w2, .str q3 w3, .str q4 w4]) :: (H, LCg.lst [.ref T0, .ref T1, .ref T2, .ref T3, .ref T4]) :: (T4, p4) :: (T3, p3) :: (T2, p2) :: (T1, p1) :: (T0, p0) :: (B, listOf #[.int e0 u0, .int e1 u1, .int e2 u2, .int e3 u3, .int e4 u4] ep) :: (A, LCg.lst [.int c0 t0, .int c1 t1, .int c2 t2, .int c3 t3]) :: cellsN L o1 o2 o3 o4 o5 o6) := by
  obtain ⟨q, hq, hget, hcnt⟩ := row_place (.bytes (octs f0) x0) (.bytes (octs f1) x1) (.bytes (octs f2) x2) (.bytes (octs f3) x3) (.bytes (octs f4) x4) (0) (e0 + (0)) (e0 + (e1 + (0))) (e0 + (e1 + (e2 + (0)))) (e0 + (e1 + (e2 + (e3 + (0))))) p hp5
  rw [← hrl] at hget
  have hpl0 : (0 : Int) ≤ 0 + (p : Int) := by omega
  have hpl1 : (0 : Int) + (p : Int) < 2 ^ 63 := by omega
  have hpn : (0 + (p : Int)).toNat = p := by omega
  simp only [List.mem_cons, List.not_mem_nil, or_false] at hq
  rcases hq with rfl | rfl | rfl | rfl | rfl
  · exact turnP_4 C K0 d3 d5 d6 hq0 hk0 he0 hq1 hk1 he1 hq2 hk2 he2 hq3 hk3 he3 hq4 hk4 he4 hf0 hf1 hf2 hf3 hf4 hp4 rfl hch4 hpl0 hpl1 (by rw [hpn]; exact hget) ((low_4 e0 e1 e2 e3 e4 _ h4).trans (by rw [hcnt]; exact (Int.zero_add _).symm)) ret
  · exact turnP_3 C K0 d3 d5 d6 hq0 hk0 he0 hq1 hk1 he1 hq2 hk2 he2 hq3 hk3 he3 hq4 hk4 he4 hf0 hf1 hf2 hf3 hf4 hp3 rfl hch3 hpl0 hpl1 (by rw [hpn]; exact hget) ((low_3 e0 e1 e2 e3 e4 _ h4).trans (by rw [hcnt]; exact (Int.zero_add _).symm)) ret
  · exact turnP_2 C K0 d3 d5 d6 hq0 hk0 he0 hq1 hk1 he1 hq2 hk2 he2 hq3 hk3 he3 hq4 hk4 he4 hf0 hf1 hf2 hf3 hf4 hp2 rfl hch2 hpl0 hpl1 (by rw [hpn]; exact hget) ((low_2 e0 e1 e2 e3 e4 _ h4).trans (by rw [hcnt]; exact (Int.zero_add _).symm)) ret
  · exact turnP_1 C K0 d3 d5 d6 hq0 hk0 he0 hq1 hk1 he1 hq2 hk2 he2 hq3 hk3 he3 hq4 hk4 he4 hf0 hf1 hf2 hf3 hf4 hp1 rfl hch1 hpl0 hpl1 (by rw [hpn]; exact hget) ((low_1 e0 e1 e2 e3 e4 _ h4).trans (by rw [hcnt]; exact (Int.zero_add _).symm)) ret
  · exact turnP_0 C K0 d3 d5 d6 hq0 hk0 he0 hq1 hk1 he1 hq2 hk2 he2 hq3 hk3 he3 hq4 hk4 he4 hf0 hf1 hf2 hf3 hf4 hp0 rfl hch0 hpl0 hpl1 (by rw [hpn]; exact hget) ((low_0 e0 e1 e2 e3 e4 _ h4).trans (by rw [hcnt]; exact (Int.zero_add _).symm)) ret
local macro_rules | `(tactic| walk_at "subscriptTail Name Slice ref ref") => `(tactic| (k_here; (with_reducible show wpAny _ _ (subscriptTail _ (PySem.Expr.Slice _ none (some _) _) (Value.ref _) (Value.ref _)) _ _ _); k_dflt (refine' slice_step ?F ?N ?l ?p ?q ?k ?o ?i ?_ ?s ?t ?z; (case F => k_asm); (case N => k_asm); (case l => kmk_list); (case p => kmk_part); (case q => kmk_part); (case k => kmk_part); (case o => decide); (case i => l_ints); (case s => with_unfolding_all rfl); (case t => kmk_pure); (case z => kmk_size)); intro D' ws' h' ms' F' N' l1 hI'; (try k_lt l1); (try k_sweep)))

local macro_rules | `(tactic| walk_at "eval ListComp") => `(tactic| (k_here; k_dflt (refine LCg.ListComp_U (F₀ := by k_asm) (by rfl) (by decide) (by rfl) (by decide) (by rfl) ?_); k_dflt lcg_toSrc))
local macro_rules | `(tactic| walk_at "exec Assign cons ListComp") => `(tactic| (k_here; k_dflt (refine LCg.Assign_ListComp_U (F₀ := by k_asm) (by rfl) (by with_unfolding_all rfl) (by rfl) (by decide) (by rfl) (by decide) (by rfl) (by rfl) (by rfl) ?_); k_dflt lcg_toSrc))
local macro_rules | `(tactic| walk_at "CompSrc") => `(tactic| (k_here; k_dflt (first
  | (refine LCg.CompSrc.ledger (by rfl) (by k_asm) (by k_asm) (by k_mem) (by first | size_fits | exact Nat.le_of_ble_eq_true rfl) ?_; intro g'; lcg_lit)
  | (refine LCg.CompSrc.base (by rfl) (by k_asm) (by k_asm) (by assumption) (by first | size_fits | exact Nat.le_of_ble_eq_true rfl) ?_; intro g'; lcg_lit)
  | (refine LCg.CompSrc.range (by rfl) (by k_asm) (by k_asm) (by assumption) (by first | decide | rfl) (by first | rfl | decide) (by first | size_fits | exact Nat.le_of_ble_eq_true rfl) ?_; intro g'; lcg_lit))))
local macro_rules | `(tactic| walk_at "eval Name") => `(tactic| (k_here; (with_reducible show wpAny _ _ (eval (PySem.Expr.Name _ _) (compEnvC _ _ _ _)) _ _ _); k_dflt (first
  | refine LCgL.ld_own (by k_asm) (by k_mem) (by with_reducible assumption) (by with_reducible assumption) ?_
  | refine lcf_free (by k_asm) (by rfl) (by k_mem) (by with_reducible assumption) ?_
  | refine LCgL.ld_global (by k_asm) (by k_asm) (by k_asm) (by k_is) ?_
  | refine LCgL.ld_built (by k_asm) (by k_asm) (by k_asm) (by k_is) (by boot_by_name) (by decide) ?_)))
local macro_rules | `(tactic| walk_at "mine:go") => `(tactic| (repeat' ((fail_if_success (with_reducible show LCg.CompRest _ _ _ _ _ _ _ _ _ _ _ _ _ _ _ _ _ _ _)); (fail_if_success (with_reducible show RangeRest _ _ _ _ _ _ _ _ _ _ _ _ _ _ _ _ _)); (fail_if_success (with_reducible show wpAny _ _ (execs (_ :: _) _) _ _ _)); first | (k_unfold; (try dsimp only)) | walk1 | (dsimp only; walk1) | (leave1; walk_say "STEP leave1"; (try dsimp only)))))
local macro_rules | `(tactic| walk_at "mine:line") => `(tactic| (walk1; (try ((with_reducible show wpAny _ _ (execs (_ :: _) _) _ _ _); walk1)); walk_at "mine:go"))
local macro_rules | `(tactic| walk_at "mine:sub") => `(tactic| (intro p hp; (repeat (first | exact hp | apply List.mem_cons_of_mem))))

local macro_rules | `(tactic| walk_at "mine:look") => `(tactic| first | assumption | (refine Fr_eq (by assumption) ?_; intro z; first | exact rfl | (simp only [look_cons]; exact rfl) | (simp only [look_cons]; done) | (simp only [look_cons]; split <;> rfl) | (dsimp only; exact rfl)))
local macro_rules | `(tactic| walk_at "mine:led") => `(tactic| (refine news_sub (by assumption) ?_; (try unfold cellsN); lcg_sub))
local macro_rules | `(tactic| walk_at "mine:part") => `(tactic| (refine Apart.sub (by assumption) ?_; (try unfold cellsN); repeat (first | exact List.Sublist.slnil | refine List.Sublist.cons_cons _ ?_ | refine List.Sublist.cons _ ?_)))
local macro_rules | `(tactic| walk_at "mine:at") => `(tactic| first | exact AtIn.head | (refine' AtIn.tail ?b; (case b => walk_at "mine:at")))
local macro_rules | `(tactic| walk_at "storeName") => `(tactic| (k_here; k_dflt (refine' storeA ?F ?N ?P ?c ?U ?d ?_ ?a ?b; (case a => rfl); (case b => rfl); (case F => k_asm); (case N => k_asm); (case P => with_reducible assumption); (case c => rfl); (case U => walk_at "mine:at"); (case d => k_asm); k_whole); intro h' o' F' N' P' d'; (try dsimp only at N' P'); (try k_sweep)))
local macro_rules | `(tactic| walk_at "newList") => `(tactic| (k_here; k_dflt (refine' newList_K ?k1 ?k2 ?_; (case k1 => k_asm); (case k2 => k_asm); k_whole); intro l' h' F' N' l1; have P' := Apart.below N' l1 (by with_reducible assumption); clear l1; (try k_sweep)))
local macro_rules | `(tactic| walk_at "call builtin:list.append") => `(tactic| (k_here; k_dflt (refine' appendA ?F ?N ?P ?U ?_ ?z; (case F => k_asm); (case N => k_asm); (case P => with_reducible assumption); (case U => walk_at "mine:at"); (case z => exact Nat.le_of_ble_eq_true rfl); k_whole); intro h' F' N' P'; (try simp only [List.push_toArray, List.cons_append, List.nil_append] at N' P'); (try k_sweep)))
local macro_rules | `(tactic| walk_at "FinE") => `(tactic| ((unfold LCg.FinE); intro D' h' tk' F' N' o1'; have P' := Apart.cons' N' o1' (by with_reducible assumption); clear o1'; (try simp only [List.nil_append, List.cons_append] at N' P'); (try dsimp only); (try k_sweep)))
local macro_rules | `(tactic| walk_at "FinA") => `(tactic| ((unfold LCg.FinA); intro D' h' tk' F' N' o1'; have P' := Apart.cons' N' o1' (by with_reducible assumption); clear o1'; (try simp only [List.nil_append, List.cons_append] at N' P'); (try dsimp only); (try k_sweep)))


local macro_rules | `(tactic| walk_at "eval Name") => `(tactic| (k_here; (with_reducible show wpAny _ _ (eval (PySem.Expr.Name _ _) (envOfC _ _ _ _ _)) _ _ _); k_dflt (first
  | (refine' nameX_L ?nF ?nv ?_ ?na ?nb; (case na => rfl); (case nb => rfl); (case nF => k_asm); (case nv => assumption); k_whole)
  | (refine' nameX_C ?cN ?cc ?cm ?cd ?_ ?ca ?cb; (case ca => rfl); (case cb => rfl); (case cN => k_asm); (case cc => rfl); (case cm => k_mem); (case cd => k_asm); k_whole)
  | (refine' nameX_K ?kF ?kX ?kT ?ke ?_ ?ka ?kb; (case ka => rfl); (case kb => rfl); (case kF => k_asm); (case kX => k_asm); (case kT => k_asm); (case ke => k_is); k_whole)
  | (refine' nameX_B ?bF ?bX ?bT ?be ?bv ?bn ?_ ?ba ?bb; (case ba => rfl); (case bb => rfl); (case bF => k_asm); (case bX => k_asm); (case bT => k_asm); (case be => k_is); (case bv => boot_fast); (case bn => decide); k_whole))))
local macro_rules | `(tactic| walk_at "loadName") => `(tactic| (k_here; k_dflt (refine' loadX_Lm ?lF ?lv ?_ ?la ?lb; (case la => rfl); (case lb => rfl); (case lF => k_asm); (case lv => assumption); k_whole)))
local macro_rules | `(tactic| walk_at "subscriptTail Name Name ref int") => `(tactic| (k_here; k_dflt (refine' item_listL (l := List.map _ _) ?sl ?s0 ?s1 ?sx ?_ ?ss ?sg; (case sl => exact News.isList (by k_asm) (by k_mem)); (case s0 => assumption); (case s1 => assumption); (case sx => assumption); (case ss => with_unfolding_all rfl); (case sg => kmk_pure); k_whole)))
local macro_rules | `(tactic| walk_at "call ref") => `(tactic| (k_here; (with_reducible show wpAny _ _ (call (Value.ref 44) [_]) _ _ _); k_dflt (refine' depth_at ?i1 ?i2 ?i3 ?i4 ?i5 (depthK _ _ _ ?i6) ?_; (case i1 => assumption); (case i2 => k_asm); (case i3 => assumption); (case i4 => k_asm); (case i5 => assumption); (case i6 => first | assumption | exact (show ∀ t : Tok, Key (Value.bytes _ t) _ by assumption) _)); intro t' h' tk' F' N'; (try k_sweep)))
local macro_rules | `(tactic| walk_at "call ref") => `(tactic| (k_here; (with_reducible show wpAny _ _ (call (Value.ref 44) [_, _]) _ _ _); k_dflt (refine' depth_at ?i1 ?i2 ?i3 ?i4 ?i5 (depthK2 _ _ _ _ _ ?i6) ?_; (case i1 => assumption); (case i2 => k_asm); (case i3 => assumption); (case i4 => k_asm); (case i5 => assumption); (case i6 => first | assumption | exact (show ∀ t : Tok, Key (Value.bytes _ t) _ by assumption) _)); intro t' h' tk' F' N'; (try k_sweep)))

theorem segD {w : World} {mean : ExcName → Option Value} {mg mb : Str → Option Value} {h₀ : Heap} {L a : Addr} {cd : Value} {s : Shared} {Q : Flow → Shared → Prop} {A M J H B T0 T1 T2 T3 T4 lR lO : Addr} {o1 o2 o3 o4 o5 o6 p0 p1 p2 p3 p4 : Obj}
    (C : LawCtx w mean mg mb h₀) (K0 : Below callerA h₀ [] h₀) {c0 c1 c2 c3 e0 e1 e2 e3 e4 : Int} {t0 t1 t2 t3 u0 u1 u2 u3 u4 w0 w1 w2 w3 w4 x0 x1 x2 x3 x4 : Tok} {ep er : Nat} {q0 q1 q2 q3 q4 f0 f1 f2 f3 f4 : Str} {P0 : Pc} {P1 : Pc} {P2 : Pc} {P3 : Pc} {P4 : Pc} {rowl : List (Int × Value)} {tk9 : Tok}
    (d3 : o3.data = .cell (some (.ref B))) (d5 : o5.data = .cell (some (.ref H))) (d6 : o6.data = .cell (some (.ref J))) (hq0 : q0.cps.toList = P0.l) (hk0 : P0.ok) (he0 : P0.e = e0) (hq1 : q1.cps.toList = P1.l) (hk1 : P1.ok) (he1 : P1.e = e1) (hq2 : q2.cps.toList = P2.l) (hk2 : P2.ok) (he2 : P2.e = e2) (hq3 : q3.cps.toList = P3.l) (hk3 : P3.ok) (he3 : P3.e = e3) (hq4 : q4.cps.toList = P4.l) (hk4 : P4.ok) (he4 : P4.e = e4) (hf0 : f0.cps.toList = catL []) (hf1 : f1.cps.toList = catL [P0]) (hf2 : f2.cps.toList = catL [P0, P1]) (hf3 : f3.cps.toList = catL [P0, P1, P2]) (hf4 : f4.cps.toList = catL [P0, P1, P2, P3]) (hp0 : IsPartO P0.k "a" p0) (hch0 : P0.ch = 97) (hp1 : IsPartO P1.k "b" p1) (hch1 : P1.ch = 98) (hp2 : IsPartO P2.k "c" p2) (hch2 : P2.ch = 99) (hp3 : IsPartO P3.k "d" p3) (hch3 : P3.ch = 100) (hp4 : IsPartO P4.k "e" p4) (hch4 : P4.ch = 101)
    (h4 : e4 = 1 - (e0 + (e1 + (e2 + (e3 + 0))))) (hrl : rowl = insL ((e0 + (e1 + (e2 + (e3 + (0))))), .bytes (octs f4) x4) (insL ((e0 + (e1 + (e2 + (0)))), .bytes (octs f3) x3) (insL ((e0 + (e1 + (0))), .bytes (octs f2) x2) (insL ((e0 + (0)), .bytes (octs f1) x1) (insL ((0), .bytes (octs f0) x0) ([]))))))
    (ret : ∀ h' tk' m', Fr h₀ L h' m' → Q (.ret (.bool true)) { s with heap := h', toks := tk' }) :
    Goes w h₀ L a cd Q (fun _ _ => False) s 13 [(Str.ofString "k", .int (0 + ((4 : Nat) : Int)) tk9), (Str.ofString "other", .ref lO), (Str.ofString "row", .ref lR), (Str.ofString "fronts", .ref M), (Str.ofString "cells", .ref A)] ((lR, listOf (rowl.map (·.2)).toArray er) :: (M, LCg.lst [.bytes (octs f0) x0, .bytes (octs f1) x1, .bytes (octs f2) x2, .bytes (octs f3) x3, .bytes (octs f4) x4]) :: (J, LCg.lst [.str q0 w0, .str q1 w1, .str q2 w2, .str q3 w3, .str q4 w4]) :: (H, LCg.lst [.ref T0, .ref T1, .ref T2, .ref T3, .ref T4]) :: (T4, p4) :: (T3, p3) :: (T2, p2) :: (T1, p1) :: (T0, p0) :: (B, listOf #[.int e0 u0, .int e1 u1, .int e2 u2, .int e3 u3, .int e4 u4] ep) :: (A, LCg.lst [.int c0 t0, .int c1 t1, .int c2 t2, .int c3 t3]) :: cellsN L o1 o2 o3 o4 o5 o6) := by
  have C' := C
  obtain ⟨KX, X, V, GL, T, BT, TE, TW⟩ := C
  intro h tk F N P
  revert KX
  k_fill
  intro KX
  have PA := P
  unfold cellsN at N P
  conv in (execs _ _) => arg 1; whnf
  have m1 : (look [(Str.ofString "k", .int (0 + ((4 : Nat) : Int)) tk9), (Str.ofString "other", .ref lO), (Str.ofString "row", .ref lR), (Str.ofString "fronts", .ref M), (Str.ofString "cells", .ref A)]) (Str.ofString "row") = some (.ref lR) := rfl
  have m2 : (look [(Str.ofString "k", .int (0 + ((4 : Nat) : Int)) tk9), (Str.ofString "other", .ref lO), (Str.ofString "row", .ref lR), (Str.ofString "fronts", .ref M), (Str.ofString "cells", .ref A)]) (Str.ofString "fronts") = some (.ref M) := rfl
  have m3 : (look [(Str.ofString "k", .int (0 + ((4 : Nat) : Int)) tk9), (Str.ofString "other", .ref lO), (Str.ofString "row", .ref lR), (Str.ofString "fronts", .ref M), (Str.ofString "cells", .ref A)]) (Str.ofString "cells") = some (.ref A) := rfl
  walk1
  walk_at "mine:go"
  rename_i I l1
  have off : ∀ p ∈ ((lR, listOf (rowl.map (·.2)).toArray er) :: (M, LCg.lst [.bytes (octs f0) x0, .bytes (octs f1) x1, .bytes (octs f2) x2, .bytes (octs f3) x3, .bytes (octs f4) x4]) :: (J, LCg.lst [.str q0 w0, .str q1 w1, .str q2 w2, .str q3 w3, .str q4 w4]) :: (H, LCg.lst [.ref T0, .ref T1, .ref T2, .ref T3, .ref T4]) :: (T4, p4) :: (T3, p3) :: (T2, p2) :: (T1, p1) :: (T0, p0) :: (B, listOf #[.int e0 u0, .int e1 u1, .int e2 u2, .int e3 u3, .int e4 u4] ep) :: (A, LCg.lst [.int c0 t0, .int c1 t1, .int c2 t2, .int c3 t3]) :: cellsN L o1 o2 o3 o4 o5 o6), p.1 ≠ I := fun p hp => Nat.ne_of_lt (allLt_out (by simp only [cellsN, AllLt, and_true]; exact l1) p hp)
  refine range_stepE (fun m => m (Str.ofString "row") = some (.ref lR) ∧ m (Str.ofString "fronts") = some (.ref M) ∧ m (Str.ofString "cells") = some (.ref A)) off ?_ ?_
  · intro t h tk it Post F N ret'
    exact turnAny (P0 := P0) (P1 := P1) (P2 := P2) (P3 := P3) (P4 := P4) (tp := t) (I9 := I) (o9 := it) C' K0 0 (by decide) d3 d5 d6 hq0 hk0 he0 hq1 hk1 he1 hq2 hk2 he2 hq3 hk3 he3 hq4 hk4 he4 hf0 hf1 hf2 hf3 hf4 hp0 hch0 hp1 hch1 hp2 hch2 hp3 hch3 hp4 hch4 h4 hrl (fun h' tk' m' F' N' ok => ret' h' tk' m' F' N' ⟨ok.1, ok.2.1, ok.2.2.1⟩) h tk _ F ⟨m1, m2, m3, rfl⟩ N (List.pairwise_cons.mpr ⟨fun q hq => off q hq, PA⟩)
  clear m1 m2 m3
  rintro m ⟨m1, m2, m3⟩
  refine range_stepE (fun m => m (Str.ofString "row") = some (.ref lR) ∧ m (Str.ofString "fronts") = some (.ref M) ∧ m (Str.ofString "cells") = some (.ref A)) off ?_ ?_
  · intro t h tk it Post F N ret'
    exact turnAny (P0 := P0) (P1 := P1) (P2 := P2) (P3 := P3) (P4 := P4) (tp := t) (I9 := I) (o9 := it) C' K0 1 (by decide) d3 d5 d6 hq0 hk0 he0 hq1 hk1 he1 hq2 hk2 he2 hq3 hk3 he3 hq4 hk4 he4 hf0 hf1 hf2 hf3 hf4 hp0 hch0 hp1 hch1 hp2 hch2 hp3 hch3 hp4 hch4 h4 hrl (fun h' tk' m' F' N' ok => ret' h' tk' m' F' N' ⟨ok.1, ok.2.1, ok.2.2.1⟩) h tk _ F ⟨m1, m2, m3, rfl⟩ N (List.pairwise_cons.mpr ⟨fun q hq => off q hq, PA⟩)
  clear m1 m2 m3
  rintro m ⟨m1, m2, m3⟩
  refine range_stepE (fun m => m (Str.ofString "row") = some (.ref lR) ∧ m (Str.ofString "fronts") = some (.ref M) ∧ m (Str.ofString "cells") = some (.ref A)) off ?_ ?_
  · intro t h tk it Post F N ret'
    exact turnAny (P0 := P0) (P1 := P1) (P2 := P2) (P3 := P3) (P4 := P4) (tp := t) (I9 := I) (o9 := it) C' K0 2 (by decide) d3 d5 d6 hq0 hk0 he0 hq1 hk1 he1 hq2 hk2 he2 hq3 hk3 he3 hq4 hk4 he4 hf0 hf1 hf2 hf3 hf4 hp0 hch0 hp1 hch1 hp2 hch2 hp3 hch3 hp4 hch4 h4 hrl (fun h' tk' m' F' N' ok => ret' h' tk' m' F' N' ⟨ok.1, ok.2.1, ok.2.2.1⟩) h tk _ F ⟨m1, m2, m3, rfl⟩ N (List.pairwise_cons.mpr ⟨fun q hq => off q hq, PA⟩)
  clear m1 m2 m3
  rintro m ⟨m1, m2, m3⟩
  refine range_stepE (fun m => m (Str.ofString "row") = some (.ref lR) ∧ m (Str.ofString "fronts") = some (.ref M) ∧ m (Str.ofString "cells") = some (.ref A)) off ?_ ?_
  · intro t h tk it Post F N ret'
    exact turnAny (P0 := P0) (P1 := P1) (P2 := P2) (P3 := P3) (P4 := P4) (tp := t) (I9 := I) (o9 := it) C' K0 3 (by decide) d3 d5 d6 hq0 hk0 he0 hq1 hk1 he1 hq2 hk2 he2 hq3 hk3 he3 hq4 hk4 he4 hf0 hf1 hf2 hf3 hf4 hp0 hch0 hp1 hch1 hp2 hch2 hp3 hch3 hp4 hch4 h4 hrl (fun h' tk' m' F' N' ok => ret' h' tk' m' F' N' ⟨ok.1, ok.2.1, ok.2.2.1⟩) h tk _ F ⟨m1, m2, m3, rfl⟩ N (List.pairwise_cons.mpr ⟨fun q hq => off q hq, PA⟩)
  clear m1 m2 m3
  rintro m ⟨m1, m2, m3⟩
  refine range_stepE (fun m => m (Str.ofString "row") = some (.ref lR) ∧ m (Str.ofString "fronts") = some (.ref M) ∧ m (Str.ofString "cells") = some (.ref A)) off ?_ ?_
  · intro t h tk it Post F N ret'
    exact turnAny (P0 := P0) (P1 := P1) (P2 := P2) (P3 := P3) (P4 := P4) (tp := t) (I9 := I) (o9 := it) C' K0 4 (by decide) d3 d5 d6 hq0 hk0 he0 hq1 hk1 he1 hq2 hk2 he2 hq3 hk3 he3 hq4 hk4 he4 hf0 hf1 hf2 hf3 hf4 hp0 hch0 hp1 hch1 hp2 hch2 hp3 hch3 hp4 hch4 h4 hrl (fun h' tk' m' F' N' ok => ret' h' tk' m' F' N' ⟨ok.1, ok.2.1, ok.2.2.1⟩) h tk _ F ⟨m1, m2, m3, rfl⟩ N (List.pairwise_cons.mpr ⟨fun q hq => off q hq, PA⟩)
  clear m1 m2 m3
  rintro m ⟨m1, m2, m3⟩
  refine RangeRest.zero ?_
  intro h tk F N
  dsimp only
  walk_at "mine:line"
  exact ret _ _ _ (by assumption)
end Mine

-- part W19
namespace Mine
open PySem PySem.W PySem.Calls PyProof.Rows
set_option Elab.async false
set_option maxRecDepth 100000
set_option maxHeartbeats 8000000

theorem fmod_small (c : Int) {n : Int} (h : 0 < n) : 0 ≤ Int.fmod c n ∧ Int.fmod c n < n := ⟨Int.fmod_nonneg_of_pos c h, Int.fmod_lt_of_pos c h⟩
theorem pc_ok (k : Int) (ch : Nat) (e : Int) (h : ch ≠ 34 ∧ ch ≠ 92 ∧ ch ≠ 10 ∧ ch < 128) (he : -20 ≤ e ∧ e ≤ 20) : (⟨k, ch, e⟩ : Pc).ok := ⟨h.1, h.2.1, h.2.2.1, h.2.2.2, he.1, he.2⟩
theorem cells_apart' (L : Addr) (o1 o2 o3 o4 o5 o6 : Obj) : Apart (cellsN L o1 o2 o3 o4 o5 o6) := by
  unfold cellsN Apart
  simp only [List.pairwise_cons, List.mem_cons, List.not_mem_nil, or_false, forall_eq_or_imp, forall_eq]
  refine ⟨⟨?_, ?_, ?_, ?_, ?_⟩, ⟨?_, ?_, ?_, ?_⟩, ⟨?_, ?_, ?_⟩, ⟨?_, ?_⟩, ?_, ?_⟩ <;> first | (refine neN ?_; omega) | simp
theorem piece_list (k : Int) (c : String) (ch : Nat) (e : Int) (hc : (Str.ofString c).cps = #[ch]) : (pieceS k c e).cps.toList = (⟨k, ch, e⟩ : Pc).l := app_list (labS_list k _ ch hc) (runS_list e)

theorem lawAll {w : World} {mean : ExcName → Option Value} {mg mb : Str → Option Value} {h₀ : Heap} {L a : Addr} {cd : Value} {s : Shared} {Q : Flow → Shared → Prop} {l : Addr} {vs : List Value} {ns : List Int} {o1 o2 o3 o4 o5 o6 : Obj}
    (C : LawCtx w mean mg mb h₀) (K0 : Below callerA h₀ [] h₀) (hl : h₀.IsList l vs.toArray) (hi : IntsAre vs ns) (hz : (PyData.list (List.map PyData.int ns)).layable0 = true)
    (d1 : o1.data = .cell (some (.ref l))) (d2 : o2.data = .cell none) (d3 : o3.data = .cell none) (d4 : o4.data = .cell none) (d5 : o5.data = .cell none) (d6 : o6.data = .cell none)
    (ret : ∀ h' tk' m', Fr h₀ L h' m' → Q (.ret (.bool true)) { s with heap := h', toks := tk' }) :
    Goes w h₀ L a cd Q (fun _ _ => False) s 0 [] (cellsN L o1 o2 o3 o4 o5 o6) := by
  refine segA1 C K0 hl hi hz d1 d2 (fun c0 c1 c2 c3 t0 t1 t2 t3 A o2 => ?_)
  refine segA2 C K0 d3 (fun e0 e1 e2 e3 e4 u0 u1 u2 u3 u4 B ep o3 h0 h1 h2 h3 h4 d3 => ?_)
  refine segA3 C K0 d4 (fun k0 k1 k2 k3 k4 v0 v1 v2 v3 v4 G ep' o4 g0 g1 g2 g3 g4 d4 => ?_)
  refine segB1 C K0 d4 d5 (fun T0 T1 T2 T3 T4 p0 p1 p2 p3 p4 H o5 q0 q1 q2 q3 q4 d5 => ?_)
  have b0 := fmod_small c0 (n := 7) (by decide)
  have he0 : -20 ≤ e0 ∧ e0 ≤ 20 := by rw [h0]; omega
  have b1 := fmod_small c1 (n := 7) (by decide)
  have he1 : -20 ≤ e1 ∧ e1 ≤ 20 := by rw [h1]; omega
  have b2 := fmod_small c2 (n := 7) (by decide)
  have he2 : -20 ≤ e2 ∧ e2 ≤ 20 := by rw [h2]; omega
  have b3 := fmod_small c3 (n := 7) (by decide)
  have he3 : -20 ≤ e3 ∧ e3 ≤ 20 := by rw [h3]; omega
  have he4 : -20 ≤ e4 ∧ e4 ≤ 20 := by omega
  refine segB2 (ep' := ep') (G := G) (v0 := v0) (v1 := v1) (v2 := v2) (v3 := v3) (v4 := v4) C K0 d3 d5 d6 q0 q1 q2 q3 q4 he0 he1 he2 he3 he4 (fun w0 w1 w2 w3 w4 J o6 d6 => ?_)
  have hq0 := piece_list k0 "a" 97 e0 rfl
  have hk0 : (⟨k0, 97, e0⟩ : Pc).ok := pc_ok k0 97 e0 (by decide) he0
  have hq1 := piece_list k1 "b" 98 e1 rfl
  have hk1 : (⟨k1, 98, e1⟩ : Pc).ok := pc_ok k1 98 e1 (by decide) he1
  have hq2 := piece_list k2 "c" 99 e2 rfl
  have hk2 : (⟨k2, 99, e2⟩ : Pc).ok := pc_ok k2 99 e2 (by decide) he2
  have hq3 := piece_list k3 "d" 100 e3 rfl
  have hk3 : (⟨k3, 100, e3⟩ : Pc).ok := pc_ok k3 100 e3 (by decide) he3
  have hq4 := piece_list k4 "e" 101 e4 rfl
  have hk4 : (⟨k4, 101, e4⟩ : Pc).ok := pc_ok k4 101 e4 (by decide) he4
  refine segB3 C K0 d6 hq0 hq1 hq2 hq3 hq4 hk0 hk1 hk2 hk3 hk4 (fun f0 f1 f2 f3 f4 x0 x1 x2 x3 x4 M hf0 hf1 hf2 hf3 hf4 => ?_)
  have hz0 : Key (.bytes (octs f0) x0) (0) := key_front hf0 (by intro p hp; cases hp) (by simp) (by simp only [sumE])
  have hz1 : Key (.bytes (octs f1) x1) (e0 + (0)) := key_front hf1 (by intro p hp; simp only [List.mem_cons, List.not_mem_nil, or_false] at hp; rcases hp with rfl <;> assumption) (by simp) (by simp only [sumE])
  have hz2 : Key (.bytes (octs f2) x2) (e0 + (e1 + (0))) := key_front hf2 (by intro p hp; simp only [List.mem_cons, List.not_mem_nil, or_false] at hp; rcases hp with rfl | rfl <;> assumption) (by simp) (by simp only [sumE])
  have hz3 : Key (.bytes (octs f3) x3) (e0 + (e1 + (e2 + (0)))) := key_front hf3 (by intro p hp; simp only [List.mem_cons, List.not_mem_nil, or_false] at hp; rcases hp with rfl | rfl | rfl <;> assumption) (by simp) (by simp only [sumE])
  have hz4 : Key (.bytes (octs f4) x4) (e0 + (e1 + (e2 + (e3 + (0))))) := key_front hf4 (by intro p hp; simp only [List.mem_cons, List.not_mem_nil, or_false] at hp; rcases hp with rfl | rfl | rfl | rfl <;> assumption) (by simp) (by simp only [sumE])
  refine segC C K0 hz0 hz1 hz2 hz3 hz4 (fun t lO lR er => ?_)
  exact segD C K0 d3 d5 d6 hq0 hk0 rfl hq1 hk1 rfl hq2 hk2 rfl hq3 hk3 rfl hq4 hk4 rfl hf0 hf1 hf2 hf3 hf4 q0 rfl q1 rfl q2 rfl q3 rfl q4 rfl h4 rfl ret

set_option maxRecDepth 100000 in
set_option maxHeartbeats 8000000 in
theorem tw : PySem.Challenge.rw_wy0015_01.Holds := Mine.hd (by
  k_go0; (all_goals try k_fold)
  refine wpAny_mono (lawAll (Q := qk) ⟨by assumption, by assumption, by assumption, by assumption, by assumption, by assumption, by assumption, by assumption⟩ (by assumption) (by assumption) (by assumption) (by assumption) ?_ ?_ ?_ ?_ ?_ ?_ ?_ _ _ (Fr_eq (by assumption) ?_) (by assumption) ?_) (fun _ _ q => q) (fun _ _ q => q.elim)
  · assumption
  · assumption
  · assumption
  · assumption
  · assumption
  · assumption
  · intro h' tk' m' F'
    k_end
    kc_close
  · intro z
    rfl
  · exact cells_apart' _ _ _ _ _ _ _)
end Mine

theorem PySem.Challenge.cw_wy0015_01_holds : PySem.Challenge.rw_wy0015_01.Holds := by
  exact Mine.tw

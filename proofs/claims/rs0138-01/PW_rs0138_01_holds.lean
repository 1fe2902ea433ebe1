import PyProof.Rows.All
import Wide.All
import OpenK.AllK
import Wide.FinOn
import PyProof.FactsTree
import PySem.Challenge.RW_rs0138_01
set_option Elab.async false
set_option maxRecDepth 100000
set_option maxHeartbeats 8000000
set_option linter.unusedVariables false
noncomputable section
namespace Mine
open PySem hiding Frame Kept
open PySem.Sre
abbrev SM := PySem.Sre.M
theorem op6 : ops[6]? = some .AT := rfl
theorem op16 : ops[16]? = some .LITERAL := rfl
theorem op17 : ops[17]? = some .MARK := rfl
theorem op1 : ops[1]? = some .SUCCESS := rfl
theorem op2 : ops[2]? = some .ANY := rfl
theorem op24 : ops[24]? = some .REPEAT_ONE := rfl
theorem op23 : ops[23]? = some .REPEAT := rfl
theorem op18 : ops[18]? = some .MAX_UNTIL := rfl

def cf (code text : Array Nat) (lim st ls : Nat) (must : Bool) (pc pos hd : Nat) (om : Bool) (mk : Array (Option Nat)) (lm li : Int) (lp : Array Loop) (inn : Option Nat) (fs : List Frame) (wt : Nat) (ans : Option Bool) (sn : Seen) : SM :=
  { code, text, lim, start := st, lastStart := ls, wholeText := false, mustAdvance := must, pc, pos, handed := hd, outermost := om, marks := mk, lastmark := lm, lastindex := li, loops := lp, inner := inn, frames := fs, weight := wt, answer := ans, seen := sn, outcome := none }

section
variable {code text : Array Nat} {lim st ls : Nat} {must : Bool} {pc pos hd : Nat} {om : Bool} {mk : Array (Option Nat)} {lm li : Int} {lp : Array Loop} {inn : Option Nat} {fs : List Frame} {wt : Nat} {sn : Seen}

theorem step_exec (hp : pc < code.size) : (cf code text lim st ls must pc pos hd om mk lm li lp inn fs wt none sn).step = (cf code text lim st ls must pc pos hd om mk lm li lp inn fs wt none sn).exec := by
  unfold Sre.M.step
  simp only [cf, Option.isSome_none, Bool.false_eq_true, if_false, hp, if_true]

theorem st_at0 (hp : pc < code.size) (h0 : code.getD pc 0 = 6) (h1 : code.getD (pc + 1) 0 = 0) :
    ∃ sn', (cf code text lim st ls must pc pos hd om mk lm li lp inn fs wt none sn).step =
      if pos = 0 then cf code text lim st ls must (pc + 2) pos hd om mk lm li lp inn fs wt none sn' else cf code text lim st ls must pc pos hd om mk lm li lp inn fs wt (some false) sn' := by
  rw [step_exec hp]
  unfold Sre.M.exec
  simp only [cf, Sre.M.word, Nat.add_zero, h0, h1, op6, Sre.M.isAt]
  refine ⟨(sn.add 6).add 43, ?_⟩
  by_cases hz : pos = 0
  · simp [hz]
  · simp [hz, Sre.M.say]

theorem st_lit {c : Nat} (hp : pc < code.size) (h0 : code.getD pc 0 = 16) (h1 : code.getD (pc + 1) 0 = c) :
    ∃ sn', (cf code text lim st ls must pc pos hd om mk lm li lp inn fs wt none sn).step =
      if pos < lim ∧ text.getD pos 0 = c then cf code text lim st ls must (pc + 2) (pos + 1) hd om mk lm li lp inn fs wt none sn' else cf code text lim st ls must pc pos hd om mk lm li lp inn fs wt (some false) sn' := by
  rw [step_exec hp]
  unfold Sre.M.exec
  simp only [cf, Sre.M.word, Nat.add_zero, h0, h1, op16, Sre.accepts, Sre.itemWidth]
  refine ⟨sn.add 16, ?_⟩
  by_cases hz : pos ≥ lim
  · have hz' : ¬ (pos < lim) := by omega
    simp only [hz, if_true, hz', false_and, if_false, Sre.M.say]
  · have hz' : pos < lim := by omega
    simp only [hz, if_false, hz', true_and]
    by_cases hc : text.getD pos 0 = c
    · simp only [hc, beq_self_eq_true, if_true]
    · have : (text.getD pos 0 == c) = false := by simpa using hc
      simp only [this, hc, if_false, Sre.M.say]

theorem st_any (hp : pc < code.size) (h0 : code.getD pc 0 = 2) :
    ∃ sn', (cf code text lim st ls must pc pos hd om mk lm li lp inn fs wt none sn).step =
      if pos < lim ∧ text.getD pos 0 ≠ 10 then cf code text lim st ls must (pc + 1) (pos + 1) hd om mk lm li lp inn fs wt none sn' else cf code text lim st ls must pc pos hd om mk lm li lp inn fs wt (some false) sn' := by
  rw [step_exec hp]
  unfold Sre.M.exec
  simp only [cf, Sre.M.word, Nat.add_zero, h0, op2, Sre.accepts, Sre.itemWidth]
  refine ⟨sn.add 2, ?_⟩
  by_cases hz : pos ≥ lim
  · have hz' : ¬ (pos < lim) := by omega
    simp only [hz, if_true, hz', false_and, if_false, Sre.M.say]
  · have hz' : pos < lim := by omega
    simp only [hz, if_false, hz', true_and]
    by_cases hc : text.getD pos 0 = 10
    · simp only [hc, bne_self_eq_false, ne_eq, not_true_eq_false, if_false, Sre.M.say]
    · have : (text.getD pos 0 != 10) = true := by simpa using hc
      simp only [this, ne_eq, hc, not_false_eq_true, if_true]

theorem st_mark {i : Nat} (hp : pc < code.size) (h0 : code.getD pc 0 = 17) (h1 : code.getD (pc + 1) 0 = i) (hi : (i : Int) ≤ lm + 1) (hm : lm ≤ (i : Int)) :
    ∃ sn' li', (cf code text lim st ls must pc pos hd om mk lm li lp inn fs wt none sn).step =
      cf code text lim st ls must (pc + 2) pos hd om (mk.setIfInBounds i (some pos)) i li' lp inn fs wt none sn' := by
  rw [step_exec hp]
  unfold Sre.M.exec
  simp only [cf, Sre.M.word, Nat.add_zero, h0, h1, op17, Sre.M.mark]
  rw [if_pos hi]
  have e : max lm (i : Int) = i := by omega
  rw [e]
  exact ⟨_, _, rfl⟩

theorem st_success (hp : pc < code.size) (h0 : code.getD pc 0 = 1) (hm : must = false ∨ pos ≠ st) :
    ∃ sn', (cf code text lim st ls must pc pos hd om mk lm li lp inn fs wt none sn).step = cf code text lim st ls must pc pos pos om mk lm li lp inn fs wt (some true) sn' := by
  rw [step_exec hp]
  unfold Sre.M.exec
  simp only [cf, Sre.M.word, Nat.add_zero, h0, op1]
  refine ⟨sn.add 1, ?_⟩
  have : (om && ((false && pos != lim) || (must && pos == st))) = false := by
    rcases hm with rfl | h
    · simp
    · have : (pos == st) = false := by simpa using h
      rw [this]; simp
  simp only [this, Bool.false_eq_true, if_false, Sre.M.say]

/-- one-character item at i of code tells f -/
def Acc (code : Array Nat) (i : Nat) (f : Nat → Bool) : Prop := ∀ c sn, ∃ sn', accepts code i c sn = .ok (f c, sn')

theorem run_eq {f : Nat → Bool} {i : Nat} (ha : Acc code i f) : ∀ (n p found k : Nat) (sn : Seen), k ≤ n → (∀ j, j < k → f (text.getD (p + j) 0) = true) → (k = n ∨ f (text.getD (p + k) 0) = false) →
    ∃ sn', Sre.run code text i n p found sn = .ok (found + k, sn') := by
  intro n
  induction n with
  | zero => intro p found k sn hk _ _; have : k = 0 := by omega
            subst this; exact ⟨sn, rfl⟩
  | succ n ih =>
    intro p found k sn hk hj he
    unfold Sre.run
    obtain ⟨sn1, h1⟩ := ha (text.getD p 0) sn
    rw [h1]
    cases k with
    | zero =>
      rcases he with he | he
      · omega
      · rw [Nat.add_zero] at he; rw [he]; exact ⟨sn1, rfl⟩
    | succ k =>
      have h0 := hj 0 (by omega)
      rw [Nat.add_zero] at h0
      rw [h0]
      obtain ⟨sn2, h2⟩ := ih (p + 1) (found + 1) k sn1 (by omega) (fun j hjk => by have := hj (j + 1) (by omega); rwa [show p + (j + 1) = p + 1 + j by omega] at this) (by
        rcases he with he | he
        · left; omega
        · right; rwa [show p + (k + 1) = p + 1 + k by omega] at he)
      refine ⟨sn2, ?_⟩
      show Sre.run code text i n (p + 1) (found + 1) sn1 = _
      rw [h2]; congr 2; omega

abbrev gbFrame (pc pos : Nat) (om : Bool) (cnt : Int) (kp : Kept) : Frame := { wait := .giveBack, pc := pc, pos := pos, outermost := om, count := cnt, kept := kp }

/-- a greedy run of one-character items, no loop around it -/
theorem st_rep {f : Nat → Bool} {skip least k : Nat} (hp : pc < code.size) (h0 : code.getD pc 0 = 24) (h1 : code.getD (pc + 1) 0 = skip) (h2 : code.getD (pc + 2) 0 = least) (h3 : code.getD (pc + 3) 0 = 4294967295)
    (ha : Acc code (pc + 4) f) (hpl : pos ≤ lim) (hk : pos + k ≤ lim) (hlim : lim < 4294967295) (hj : ∀ j, j < k → f (text.getD (pos + j) 0) = true) (he : pos + k = lim ∨ f (text.getD (pos + k) 0) = false) (hwt : wt + 1 ≤ 16777216) (hinn : inn = none) :
    ∃ sn', (cf code text lim st ls must pc pos hd om mk lm li lp inn fs wt none sn).step =
      if k < least then cf code text lim st ls must pc pos hd om mk lm li lp inn fs wt (some false) sn'
      else cf code text lim st ls must (pc + 1 + skip) (pos + k) (pos + k) om mk lm li lp inn (gbFrame pc (pos + k) om k { lastmark := lm, lastindex := li } :: fs) (wt + 1) none sn' := by
  subst hinn
  rw [step_exec hp]
  unfold Sre.M.exec
  simp only [cf, Sre.M.word, Nat.add_zero, h0, h1, h2, h3, op24]
  by_cases hr : (least : Int) > (lim : Int) - pos
  · have : k < least := by omega
    simp only [hr, if_true, this, Sre.M.say]
    exact ⟨_, rfl⟩
  · simp only [hr, if_false]
    have em : min 4294967295 ((lim : Int) - pos).toNat = lim - pos := by omega
    obtain ⟨sn', hrun⟩ := run_eq (text := text) ha (lim - pos) pos 0 k ((sn.add 24).add (code.getD (pc + 4) 0)) (by omega) hj (by rcases he with he | he; (left; omega); (right; exact he))
    simp only [em, hrun, Nat.zero_add, Bool.false_eq_true, if_false]
    refine ⟨sn', ?_⟩
    by_cases hl : k < least
    · simp only [hl, if_true, Sre.M.say]
    · simp only [hl, if_false, Sre.M.afterRun, Sre.M.attempt, Sre.M.frame, Sre.M.keep, Option.isSome_none, Bool.false_eq_true, Sre.M.word, h1]
      have : ¬ (wt + 1 + (#[] : Array (Option Nat)).size > 16777216) := by simp; omega
      rw [if_neg this]
      rfl
end
end Mine

namespace Mine
open PySem hiding Frame Kept
open PySem.Sre

theorem rF_done {m : SM} (h : m.outcome.isSome = true) : ∀ k, m.runFor k = m
  | 0 => rfl
  | k + 1 => by unfold Sre.M.runFor; rw [if_pos h]
theorem rF_add (a b : Nat) : ∀ m : SM, m.runFor (a + b) = (m.runFor a).runFor b := by
  induction a with
  | zero => intro m; rw [Nat.zero_add]; rfl
  | succ a ih =>
    intro m
    cases ho : m.outcome.isSome with
    | true => rw [rF_done ho, rF_done ho, rF_done ho]
    | false =>
      have e1 : m.runFor (a + 1 + b) = m.step.runFor (a + b) := by
        rw [Nat.add_right_comm, Sre.M.runFor, ho]; rfl
      have e2 : m.runFor (a + 1) = m.step.runFor a := by rw [Sre.M.runFor, ho]; rfl
      rw [e1, e2, ih]

/-- m comes to m' in at most n steps -/
def Go (n : Nat) (m m' : SM) : Prop := ∃ k, k ≤ n ∧ m.runFor k = m'
theorem Go.refl (m : SM) : Go 0 m m := ⟨0, Nat.le_refl _, rfl⟩
theorem Go.trans {a b : Nat} {m m' m'' : SM} (x : Go a m m') (y : Go b m' m'') : Go (a + b) m m'' := by
  obtain ⟨k, hk, rfl⟩ := x; obtain ⟨j, hj, rfl⟩ := y
  exact ⟨k + j, by omega, rF_add k j m⟩
theorem Go.le {a b : Nat} {m m' : SM} (x : Go a m m') (h : a ≤ b) : Go b m m' := let ⟨k, hk, e⟩ := x; ⟨k, Nat.le_trans hk h, e⟩
theorem Go.one {m m' : SM} (ho : m.outcome = none) (h : m.step = m') : Go 1 m m' := ⟨1, Nat.le_refl _, by
  show (if m.outcome.isSome then m else m.step.runFor 0) = m'
  rw [ho]; exact h⟩

abbrev nsFrame (pc pos : Nat) (om : Bool) : Frame := { wait := .nextStart, pc := pc, pos := pos, outermost := om }

section
variable {code text : Array Nat} {lim st ls : Nat} {must : Bool} {pc pos hd : Nat} {om : Bool} {mk : Array (Option Nat)} {lm li : Int} {lp : Array Loop} {inn : Option Nat} {fs : List Frame} {wt : Nat} {sn : Seen}

theorem st_gb {pc' p : Nat} {om' : Bool} {cnt : Int} {lm' li' : Int} {skip least : Nat} (h1 : code.getD (pc' + 1) 0 = skip) (h2 : code.getD (pc' + 2) 0 = least) (hwt : wt + 1 ≤ 16777216) :
    (cf code text lim st ls must pc pos hd om mk lm li lp inn (gbFrame pc' p om' cnt { lastmark := lm', lastindex := li' } :: fs) (wt + 1) (some false) sn).step =
      if cnt - 1 < least then cf code text lim st ls must pc' p hd om' mk lm' li' lp inn fs wt (some false) sn
      else cf code text lim st ls must (pc' + 1 + skip) (p - 1) (p - 1) om' mk lm' li' lp inn (gbFrame pc' (p - 1) om' (cnt - 1) { lastmark := lm', lastindex := li' } :: fs) (wt + 1) none sn := by
  unfold Sre.M.step
  simp only [cf, Option.isSome_none, Bool.false_eq_true, if_false]
  unfold Sre.M.resume
  simp only [Sre.M.word, h2, Sre.M.putBack, Bool.false_eq_true, if_false, Sre.M.afterRun, Sre.M.attempt, Sre.M.frame, Sre.M.say, h1]
  have e : wt + 1 - (1 + (#[] : Array (Option Nat)).size) = wt := by simp
  rw [e]
  by_cases hc : cnt - 1 < least
  · rw [if_pos hc, if_pos hc]
  · rw [if_neg hc, if_neg hc]
    have : ¬ (wt + 1 + (#[] : Array (Option Nat)).size > 16777216) := by simp; omega
    rw [if_neg this]; rfl

theorem st_ns {p : Nat} {om' : Bool} (h2 : (code.getD 2 0 == 4) = false) (hwt : 1 ≤ 16777216) :
    (cf code text lim st ls must pc pos hd om mk lm li lp inn [nsFrame pc' p om'] 1 (some false) sn).step =
      if p < ls then cf code text lim (p + 1) ls false pc' (p + 1) (p + 1) false mk (-1) (-1) lp inn [nsFrame pc' (p + 1) false] 1 none sn
      else cf code text lim st ls must pc' p hd om' mk lm li lp inn [] 0 (some false) sn := by
  unfold Sre.M.step
  simp only [cf, Option.isSome_none, Bool.false_eq_true, if_false]
  unfold Sre.M.resume
  simp only [Bool.false_eq_true, if_false, Sre.M.attemptFrom, Sre.M.hasFirstSet, h2, Bool.and_false, Bool.not_false, if_true, Sre.M.attemptAt, Sre.M.attempt, Sre.M.say]
  by_cases hc : p < ls
  · rw [if_pos hc, if_pos hc]
    rfl
  · rw [if_neg hc, if_neg hc]
    rfl

theorem st_end {b : Bool} : (cf code text lim st ls must pc pos hd om mk lm li lp inn [] wt (some b) sn).step.outcome = some (if b then .matched else .failed) := by
  unfold Sre.M.step
  simp only [cf, Option.isSome_none, Bool.false_eq_true, if_false]

/-- behind a failure at a start, every later start fails at ^ -/
theorem starts_fail (h2 : (code.getD 2 0 == 4) = false) (hp : 5 < code.size) (h5 : code.getD 5 0 = 6) (h6 : code.getD 6 0 = 0) : ∀ (d p : Nat) (st hd pc pos : Nat) (must om om' : Bool) (mk : Array (Option Nat)) (lm li : Int) (sn : Seen), ls - p ≤ d →
    ∃ mf, Go (2 * d + 2) (cf code text lim st ls must pc pos hd om mk lm li #[] none [nsFrame 5 p om'] 1 (some false) sn) mf ∧ mf.outcome = some .failed := by
  intro d
  induction d with
  | zero =>
    intro p st hd pc pos must om om' mk lm li sn hd'
    have h := st_ns (pc := pc) (pos := pos) (hd := hd) (om := om) (must := must) (text := text) (lim := lim) (st := st) (ls := ls) (mk := mk) (lm := lm) (li := li) (lp := #[]) (inn := none) (sn := sn) (pc' := 5) (p := p) (om' := om') h2 (by decide)
    rw [if_neg (by omega)] at h
    exact ⟨_, (Go.one rfl h).trans (Go.one rfl rfl), st_end⟩
  | succ d ih =>
    intro p st hd pc pos must om om' mk lm li sn hd'
    have h := st_ns (pc := pc) (pos := pos) (hd := hd) (om := om) (must := must) (text := text) (lim := lim) (st := st) (ls := ls) (mk := mk) (lm := lm) (li := li) (lp := #[]) (inn := none) (sn := sn) (pc' := 5) (p := p) (om' := om') h2 (by decide)
    by_cases hc : p < ls
    · rw [if_pos hc] at h
      obtain ⟨sn', h'⟩ := st_at0 (code := code) (text := text) (lim := lim) (st := p + 1) (ls := ls) (must := false) (pc := 5) (pos := p + 1) (hd := p + 1) (om := false) (mk := mk) (lm := -1) (li := -1) (lp := #[]) (inn := none) (fs := [nsFrame 5 (p + 1) false]) (wt := 1) (sn := sn) hp h5 h6
      rw [if_neg (by omega)] at h'
      obtain ⟨mf, g, ho⟩ := ih (p + 1) (p + 1) (p + 1) 5 (p + 1) false false false mk (-1) (-1) sn' (by omega)
      exact ⟨mf, (((Go.one rfl h).trans (Go.one rfl h')).trans g).le (by omega), ho⟩
    · rw [if_neg hc] at h
      exact ⟨_, ((Go.one rfl h).trans (Go.one rfl rfl)).le (by omega), st_end⟩
end

/-- yes goes through these frames -/
def passes : Wait → Bool
  | .giveBack | .nextStart | .closeLoop | .maxMore | .maxTail => true
  | _ => false
theorem yes_out : ∀ (fs : List Frame) (m : SM), m.outcome = none → m.answer = some true → m.frames = fs → (∀ f ∈ fs, passes f.wait = true) →
    ∃ mf, Go (fs.length + 1) m mf ∧ mf.outcome = some .matched ∧ mf.start = m.start ∧ mf.handed = m.handed ∧ mf.marks = m.marks ∧ mf.lastmark = m.lastmark := by
  intro fs
  induction fs with
  | nil =>
    intro m ho ha hf _
    refine ⟨_, Go.one ho rfl, ?_⟩
    unfold Sre.M.step
    simp only [ho, Option.isSome_none, Bool.false_eq_true, if_false, ha, hf, if_true, and_self]
  | cons f fs ih =>
    intro m ho ha hf hp
    have hst : m.step.outcome = none ∧ m.step.answer = some true ∧ m.step.frames = fs ∧ m.step.start = m.start ∧ m.step.handed = m.handed ∧ m.step.marks = m.marks ∧ m.step.lastmark = m.lastmark := by
      have hw := hp f (.head _)
      unfold Sre.M.step
      simp only [ho, Option.isSome_none, Bool.false_eq_true, if_false, ha, hf]
      unfold Sre.M.resume
      cases hfw : f.wait <;> rw [hfw] at hw <;> first | (exact absurd hw (by decide)) | simp [Sre.M.say, Sre.M.setLoop]
    obtain ⟨a1, a2, a3, a4, a5, a6, a7⟩ := hst
    obtain ⟨mf, g, b1, b2, b3, b4, b5⟩ := ih m.step a1 a2 a3 (fun f' h' => hp f' (.tail _ h'))
    exact ⟨mf, ((Go.one ho rfl).trans g).le (by simp; omega), b1, b2.trans a4, b3.trans a5, b4.trans a6, b5.trans a7⟩
end Mine

namespace Mine
open PySem hiding Frame Kept
open PySem.Sre

def twinC : List Nat := [14, 4, 0, 0, 4294967295, 6, 0, 24, 13, 0, 4294967295, 13, 8, 16, 61, 8, 12, 16, 59, 0, 1, 1]
def tokC : List Nat := [14, 4, 0, 1, 4294967295, 6, 0, 24, 9, 0, 4294967295, 13, 4, 8, 12, 0, 1, 17, 0, 24, 19, 1, 4294967295, 13, 14, 21, 9, 0, 671092736, 0, 0, 0, 0, 0, 0, 8, 12, 0, 1, 17, 1, 1]
def quoC : List Nat := [14, 4, 0, 3, 4294967295, 6, 0, 24, 9, 0, 4294967295, 13, 4, 8, 12, 0, 1, 16, 61, 24, 9, 0, 4294967295, 13, 4, 8, 12, 0, 1, 16, 34, 17, 0, 24, 12, 0, 4294967295, 13, 7, 21, 16, 34, 16, 92, 0, 1, 23, 19, 0, 4294967295, 16, 92, 2, 24, 12, 0, 4294967295, 13, 7, 21, 16, 34, 16, 92, 0, 1, 18, 17, 1, 16, 34, 1]
def valC : List Nat := [14, 4, 0, 1, 4294967295, 6, 0, 24, 9, 0, 4294967295, 13, 4, 8, 12, 0, 1, 16, 61, 24, 9, 0, 4294967295, 13, 4, 8, 12, 0, 1, 17, 0, 24, 14, 0, 4294967295, 13, 9, 21, 8, 12, 16, 59, 16, 44, 0, 1, 17, 1, 1]
def escC : List Nat := [14, 8, 1, 2, 2, 1, 1, 92, 0, 16, 92, 17, 0, 2, 17, 1, 1]

abbrev isSp (c : Nat) : Bool := Unicode.isSpace c
theorem acc_sp_tok : Acc tokC.toArray 11 isSp := fun c sn => by
  have e : accepts tokC.toArray 11 c sn = if (Unicode.isSpace c != (12 % 2 == 1)) = true then .ok (true, (sn.add 8).add (55 + 12)) else .ok (!true, ((sn.add 8).add (55 + 12)).add 0) := by rfl
  rw [e]; show ∃ sn', _ = Except.ok (Unicode.isSpace c, sn')
  cases Unicode.isSpace c <;> exact ⟨_, rfl⟩
theorem acc_sp_quo1 : Acc quoC.toArray 11 isSp := fun c sn => by
  have e : accepts quoC.toArray 11 c sn = if (Unicode.isSpace c != (12 % 2 == 1)) = true then .ok (true, (sn.add 8).add (55 + 12)) else .ok (!true, ((sn.add 8).add (55 + 12)).add 0) := by rfl
  rw [e]; show ∃ sn', _ = Except.ok (Unicode.isSpace c, sn')
  cases Unicode.isSpace c <;> exact ⟨_, rfl⟩
theorem acc_sp_quo2 : Acc quoC.toArray 23 isSp := fun c sn => by
  have e : accepts quoC.toArray 23 c sn = if (Unicode.isSpace c != (12 % 2 == 1)) = true then .ok (true, (sn.add 8).add (55 + 12)) else .ok (!true, ((sn.add 8).add (55 + 12)).add 0) := by rfl
  rw [e]; show ∃ sn', _ = Except.ok (Unicode.isSpace c, sn')
  cases Unicode.isSpace c <;> exact ⟨_, rfl⟩
theorem acc_sp_val1 : Acc valC.toArray 11 isSp := fun c sn => by
  have e : accepts valC.toArray 11 c sn = if (Unicode.isSpace c != (12 % 2 == 1)) = true then .ok (true, (sn.add 8).add (55 + 12)) else .ok (!true, ((sn.add 8).add (55 + 12)).add 0) := by rfl
  rw [e]; show ∃ sn', _ = Except.ok (Unicode.isSpace c, sn')
  cases Unicode.isSpace c <;> exact ⟨_, rfl⟩
theorem acc_sp_val2 : Acc valC.toArray 23 isSp := fun c sn => by
  have e : accepts valC.toArray 23 c sn = if (Unicode.isSpace c != (12 % 2 == 1)) = true then .ok (true, (sn.add 8).add (55 + 12)) else .ok (!true, ((sn.add 8).add (55 + 12)).add 0) := by rfl
  rw [e]; show ∃ sn', _ = Except.ok (Unicode.isSpace c, sn')
  cases Unicode.isSpace c <;> exact ⟨_, rfl⟩
def csNm (c : Nat) : Bool := c < 256 && ((tokC.toArray.getD (26 + (1 + c / 32)) 0).testBit (c % 32))
def isNm (c : Nat) : Bool := !(csNm c || Unicode.isSpace c)
theorem acc_nm_tok : Acc tokC.toArray 23 isNm := fun c sn => by
  have e : accepts tokC.toArray 23 c sn = if csNm c = true then .ok (!true, (sn.add 21).add 9) else if (Unicode.isSpace c != (12 % 2 == 1)) = true then .ok (!true, (((sn.add 21).add 9).add 8).add (55 + 12)) else .ok (!!true, ((((sn.add 21).add 9).add 8).add (55 + 12)).add 0) := by rfl
  rw [e]; unfold isNm
  cases csNm c <;> cases Unicode.isSpace c <;> exact ⟨_, rfl⟩
theorem nm_ascii : ∀ c, c < 128 → csNm c = (c == 44 || c == 59 || c == 61) := by decide
def isQb (c : Nat) : Bool := !(c == 34 || c == 92)
theorem acc_qb1 : Acc quoC.toArray 37 isQb := fun c sn => by
  have e : accepts quoC.toArray 37 c sn = if (c == 34) = true then .ok (!true, (sn.add 21).add 16) else if (c == 92) = true then .ok (!true, ((sn.add 21).add 16).add 16) else .ok (!!true, (((sn.add 21).add 16).add 16).add 0) := by rfl
  rw [e]; unfold isQb
  cases (c == 34) <;> cases (c == 92) <;> exact ⟨_, rfl⟩
theorem acc_qb2 : Acc quoC.toArray 57 isQb := fun c sn => by
  have e : accepts quoC.toArray 57 c sn = if (c == 34) = true then .ok (!true, (sn.add 21).add 16) else if (c == 92) = true then .ok (!true, ((sn.add 21).add 16).add 16) else .ok (!!true, (((sn.add 21).add 16).add 16).add 0) := by rfl
  rw [e]; unfold isQb
  cases (c == 34) <;> cases (c == 92) <;> exact ⟨_, rfl⟩
def isVl (c : Nat) : Bool := !(Unicode.isSpace c || c == 59 || c == 44)
theorem acc_vl : Acc valC.toArray 35 isVl := fun c sn => by
  have e : accepts valC.toArray 35 c sn = if (Unicode.isSpace c != (12 % 2 == 1)) = true then .ok (!true, ((sn.add 21).add 8).add (55 + 12)) else if (c == 59) = true then .ok (!true, (((sn.add 21).add 8).add (55 + 12)).add 16) else if (c == 44) = true then .ok (!true, ((((sn.add 21).add 8).add (55 + 12)).add 16).add 16) else .ok (!!true, (((((sn.add 21).add 8).add (55 + 12)).add 16).add 16).add 0) := by rfl
  rw [e]; unfold isVl
  cases (c == 59) <;> cases (c == 44) <;> cases Unicode.isSpace c <;> exact ⟨_, rfl⟩
def isJk (c : Nat) : Bool := c == 61 || Unicode.isSpace c || c == 59
theorem acc_jk : Acc twinC.toArray 11 isJk := fun c sn => by
  have e : accepts twinC.toArray 11 c sn = if (c == 61) = true then .ok (true, sn.add 16) else if (Unicode.isSpace c != (12 % 2 == 1)) = true then .ok (true, ((sn.add 16).add 8).add (55 + 12)) else if (c == 59) = true then .ok (true, (((sn.add 16).add 8).add (55 + 12)).add 16) else .ok (!true, ((((sn.add 16).add 8).add (55 + 12)).add 16).add 0) := by rfl
  rw [e]; unfold isJk
  cases (c == 61) <;> cases (c == 59) <;> cases Unicode.isSpace c <;> exact ⟨_, rfl⟩

def Ends (P : SM → Prop) (n : Nat) (m : SM) : Prop := ∃ mf, Go n m mf ∧ mf.outcome.isSome = true ∧ P mf
theorem Ends.le {P : SM → Prop} {a b : Nat} {m : SM} (x : Ends P a m) (h : a ≤ b) : Ends P b m := let ⟨mf, g, r⟩ := x; ⟨mf, g.le h, r⟩
theorem Ends.pre {P : SM → Prop} {a b : Nat} {m m' : SM} (g : Go a m m') (x : Ends P b m') : Ends P (a + b) m := let ⟨mf, g', r⟩ := x; ⟨mf, g.trans g', r⟩

def Missed (mf : SM) : Prop := mf.outcome = some .failed
def Found1 (st hd b e : Nat) (mf : SM) : Prop := mf.outcome = some .matched ∧ mf.start = st ∧ mf.handed = hd ∧ mf.marks = #[some b, some e] ∧ mf.lastmark = 1
def Found0 (st hd : Nat) (mf : SM) : Prop := mf.outcome = some .matched ∧ mf.start = st ∧ mf.handed = hd

section
variable {P : SM → Prop} {n : Nat} {code text : Array Nat} {lim st ls : Nat} {must : Bool} {pc pos hd : Nat} {om : Bool} {mk : Array (Option Nat)} {lm li : Int} {lp : Array Loop} {inn : Option Nat} {fs : List Frame} {wt : Nat} {sn : Seen}

theorem e_at0 (hp : pc < code.size) (h0 : code.getD pc 0 = 6) (h1 : code.getD (pc + 1) 0 = 0) (hz : pos = 0)
    (k : ∀ sn', Ends P n (cf code text lim st ls must (pc + 2) pos hd om mk lm li lp inn fs wt none sn')) : Ends P (1 + n) (cf code text lim st ls must pc pos hd om mk lm li lp inn fs wt none sn) := by
  obtain ⟨sn', h⟩ := st_at0 (text := text) (lim := lim) (st := st) (ls := ls) (must := must) (pos := pos) (hd := hd) (om := om) (mk := mk) (lm := lm) (li := li) (lp := lp) (inn := inn) (fs := fs) (wt := wt) (sn := sn) hp h0 h1
  rw [if_pos hz] at h
  exact Ends.pre (Go.one rfl h) (k sn')
theorem e_lit {c : Nat} (hp : pc < code.size) (h0 : code.getD pc 0 = 16) (h1 : code.getD (pc + 1) 0 = c) (hl : pos < lim) (hc : text.getD pos 0 = c)
    (k : ∀ sn', Ends P n (cf code text lim st ls must (pc + 2) (pos + 1) hd om mk lm li lp inn fs wt none sn')) : Ends P (1 + n) (cf code text lim st ls must pc pos hd om mk lm li lp inn fs wt none sn) := by
  obtain ⟨sn', h⟩ := st_lit (text := text) (lim := lim) (st := st) (ls := ls) (must := must) (pos := pos) (hd := hd) (om := om) (mk := mk) (lm := lm) (li := li) (lp := lp) (inn := inn) (fs := fs) (wt := wt) (sn := sn) hp h0 h1
  rw [if_pos ⟨hl, hc⟩] at h
  exact Ends.pre (Go.one rfl h) (k sn')
theorem e_lit_no {c : Nat} (hp : pc < code.size) (h0 : code.getD pc 0 = 16) (h1 : code.getD (pc + 1) 0 = c) (hc : ¬ (pos < lim ∧ text.getD pos 0 = c))
    (k : ∀ sn', Ends P n (cf code text lim st ls must pc pos hd om mk lm li lp inn fs wt (some false) sn')) : Ends P (1 + n) (cf code text lim st ls must pc pos hd om mk lm li lp inn fs wt none sn) := by
  obtain ⟨sn', h⟩ := st_lit (text := text) (lim := lim) (st := st) (ls := ls) (must := must) (pos := pos) (hd := hd) (om := om) (mk := mk) (lm := lm) (li := li) (lp := lp) (inn := inn) (fs := fs) (wt := wt) (sn := sn) hp h0 h1
  rw [if_neg hc] at h
  exact Ends.pre (Go.one rfl h) (k sn')
theorem e_any (hp : pc < code.size) (h0 : code.getD pc 0 = 2) (hl : pos < lim) (hc : text.getD pos 0 ≠ 10)
    (k : ∀ sn', Ends P n (cf code text lim st ls must (pc + 1) (pos + 1) hd om mk lm li lp inn fs wt none sn')) : Ends P (1 + n) (cf code text lim st ls must pc pos hd om mk lm li lp inn fs wt none sn) := by
  obtain ⟨sn', h⟩ := st_any (text := text) (lim := lim) (st := st) (ls := ls) (must := must) (pos := pos) (hd := hd) (om := om) (mk := mk) (lm := lm) (li := li) (lp := lp) (inn := inn) (fs := fs) (wt := wt) (sn := sn) hp h0
  rw [if_pos ⟨hl, hc⟩] at h
  exact Ends.pre (Go.one rfl h) (k sn')
theorem e_mark {i : Nat} (hp : pc < code.size) (h0 : code.getD pc 0 = 17) (h1 : code.getD (pc + 1) 0 = i) (hi : (i : Int) ≤ lm + 1) (hm : lm ≤ (i : Int))
    (k : ∀ sn' li', Ends P n (cf code text lim st ls must (pc + 2) pos hd om (mk.setIfInBounds i (some pos)) i li' lp inn fs wt none sn')) : Ends P (1 + n) (cf code text lim st ls must pc pos hd om mk lm li lp inn fs wt none sn) := by
  obtain ⟨sn', li', h⟩ := st_mark (text := text) (lim := lim) (st := st) (ls := ls) (must := must) (pos := pos) (hd := hd) (om := om) (mk := mk) (lm := lm) (li := li) (lp := lp) (inn := inn) (fs := fs) (wt := wt) (sn := sn) hp h0 h1 hi hm
  exact Ends.pre (Go.one rfl h) (k sn' li')
theorem e_rep {f : Nat → Bool} {skip least k : Nat} (hp : pc < code.size) (h0 : code.getD pc 0 = 24) (h1 : code.getD (pc + 1) 0 = skip) (h2 : code.getD (pc + 2) 0 = least) (h3 : code.getD (pc + 3) 0 = 4294967295)
    (ha : Acc code (pc + 4) f) (hpl : pos ≤ lim) (hk : pos + k ≤ lim) (hlim : lim < 4294967295) (hj : ∀ j, j < k → f (text.getD (pos + j) 0) = true) (he : pos + k = lim ∨ f (text.getD (pos + k) 0) = false) (hwt : wt + 1 ≤ 16777216) (hinn : inn = none) (hle : least ≤ k)
    (kk : ∀ sn', Ends P n (cf code text lim st ls must (pc + 1 + skip) (pos + k) (pos + k) om mk lm li lp inn (gbFrame pc (pos + k) om k { lastmark := lm, lastindex := li } :: fs) (wt + 1) none sn')) :
    Ends P (1 + n) (cf code text lim st ls must pc pos hd om mk lm li lp inn fs wt none sn) := by
  obtain ⟨sn', h⟩ := st_rep (text := text) (lim := lim) (st := st) (ls := ls) (must := must) (pos := pos) (hd := hd) (om := om) (mk := mk) (lm := lm) (li := li) (lp := lp) (inn := inn) (fs := fs) (wt := wt) (sn := sn) hp h0 h1 h2 h3 ha hpl hk hlim hj he hwt hinn
  rw [if_neg (by omega)] at h
  exact Ends.pre (Go.one rfl h) (kk sn')
theorem e_yes1 {b e : Nat} (hp : pc < code.size) (h0 : code.getD pc 0 = 1) (hm : must = false ∨ pos ≠ st) (hfs : ∀ f ∈ fs, passes f.wait = true) (hmk : mk = #[some b, some e]) (hlm : lm = 1) :
    Ends (Found1 st pos b e) (1 + (fs.length + 1)) (cf code text lim st ls must pc pos hd om mk lm li lp inn fs wt none sn) := by
  obtain ⟨sn', h⟩ := st_success (text := text) (lim := lim) (st := st) (ls := ls) (must := must) (pos := pos) (hd := hd) (om := om) (mk := mk) (lm := lm) (li := li) (lp := lp) (inn := inn) (fs := fs) (wt := wt) (sn := sn) hp h0 hm
  obtain ⟨mf, g, a1, a2, a3, a4, a5⟩ := yes_out fs (cf code text lim st ls must pc pos pos om mk lm li lp inn fs wt (some true) sn') rfl rfl rfl hfs
  exact ⟨mf, (Go.one rfl h).trans g, by rw [a1]; rfl, a1, a2, a3, by rw [a4]; exact hmk, by rw [a5]; exact hlm⟩
theorem e_yes0 (hp : pc < code.size) (h0 : code.getD pc 0 = 1) (hm : must = false ∨ pos ≠ st) (hfs : ∀ f ∈ fs, passes f.wait = true) :
    Ends (Found0 st pos) (1 + (fs.length + 1)) (cf code text lim st ls must pc pos hd om mk lm li lp inn fs wt none sn) := by
  obtain ⟨sn', h⟩ := st_success (text := text) (lim := lim) (st := st) (ls := ls) (must := must) (pos := pos) (hd := hd) (om := om) (mk := mk) (lm := lm) (li := li) (lp := lp) (inn := inn) (fs := fs) (wt := wt) (sn := sn) hp h0 hm
  obtain ⟨mf, g, a1, a2, a3, a4, a5⟩ := yes_out fs (cf code text lim st ls must pc pos pos om mk lm li lp inn fs wt (some true) sn') rfl rfl rfl hfs
  exact ⟨mf, (Go.one rfl h).trans g, by rw [a1]; rfl, a1, a2, a3⟩

/-- a place from which every way fails -/
def Fails (code text : Array Nat) (lim st ls : Nat) (must : Bool) (W pc pos n : Nat) : Prop := ∀ hd om mk lm li fs wt sn, wt + W ≤ 1000 →
  ∃ pc' pos' hd' om' mk' lm' li' sn', Go n (cf code text lim st ls must pc pos hd om mk lm li #[] none fs wt none sn) (cf code text lim st ls must pc' pos' hd' om' mk' lm' li' #[] none fs wt (some false) sn')

theorem f_lit {W c : Nat} (hp : pc < code.size) (h0 : code.getD pc 0 = 16) (h1 : code.getD (pc + 1) 0 = c) (hc : ¬ (pos < lim ∧ text.getD pos 0 = c)) : Fails code text lim st ls must W pc pos 1 := fun hd om mk lm li fs wt sn _ => by
  obtain ⟨sn', h⟩ := st_lit (text := text) (lim := lim) (st := st) (ls := ls) (must := must) (pos := pos) (hd := hd) (om := om) (mk := mk) (lm := lm) (li := li) (lp := #[]) (inn := none) (fs := fs) (wt := wt) (sn := sn) hp h0 h1
  rw [if_neg hc] at h
  exact ⟨_, _, _, _, _, _, _, _, Go.one rfl h⟩
theorem f_lit_then {W c : Nat} (hp : pc < code.size) (h0 : code.getD pc 0 = 16) (h1 : code.getD (pc + 1) 0 = c) (hc : Fails code text lim st ls must W (pc + 2) (pos + 1) n) : Fails code text lim st ls must W pc pos (1 + n) := fun hd om mk lm li fs wt sn hw => by
  obtain ⟨sn', h⟩ := st_lit (text := text) (lim := lim) (st := st) (ls := ls) (must := must) (pos := pos) (hd := hd) (om := om) (mk := mk) (lm := lm) (li := li) (lp := #[]) (inn := none) (fs := fs) (wt := wt) (sn := sn) hp h0 h1
  by_cases hq : pos < lim ∧ text.getD pos 0 = c
  · rw [if_pos hq] at h
    obtain ⟨_, _, _, _, _, _, _, _, g⟩ := hc hd om mk lm li fs wt sn' hw
    exact ⟨_, _, _, _, _, _, _, _, (Go.one rfl h).trans g⟩
  · rw [if_neg hq] at h
    exact ⟨_, _, _, _, _, _, _, _, (Go.one rfl h).le (by omega)⟩
theorem f_mark {W i : Nat} (hp : pc < code.size) (h0 : code.getD pc 0 = 17) (h1 : code.getD (pc + 1) 0 = i) (hc : Fails code text lim st ls must W (pc + 2) pos n) : Fails code text lim st ls must W pc pos (1 + n) := fun hd om mk lm li fs wt sn hw => by
  have h : ∃ mk' lm' li' sn', (cf code text lim st ls must pc pos hd om mk lm li #[] none fs wt none sn).step = cf code text lim st ls must (pc + 2) pos hd om mk' lm' li' #[] none fs wt none sn' := by
    rw [step_exec hp]
    unfold Sre.M.exec
    simp only [cf, Sre.M.word, Nat.add_zero, h0, h1, op17, Sre.M.mark]
    exact ⟨_, _, _, _, rfl⟩
  obtain ⟨mk', lm', li', sn', h⟩ := h
  obtain ⟨_, _, _, _, _, _, _, _, g⟩ := hc hd om mk' lm' li' fs wt sn' hw
  exact ⟨_, _, _, _, _, _, _, _, (Go.one rfl h).trans g⟩
theorem f_rep {W : Nat} {f : Nat → Bool} {skip least k : Nat} (hp : pc < code.size) (h0 : code.getD pc 0 = 24) (h1 : code.getD (pc + 1) 0 = skip) (h2 : code.getD (pc + 2) 0 = least) (h3 : code.getD (pc + 3) 0 = 4294967295)
    (ha : Acc code (pc + 4) f) (hpl : pos ≤ lim) (hk : pos + k ≤ lim) (hlim : lim < 4294967295) (hj : ∀ j, j < k → f (text.getD (pos + j) 0) = true) (he : pos + k = lim ∨ f (text.getD (pos + k) 0) = false)
    (hc : ∀ j, least ≤ j → j ≤ k → Fails code text lim st ls must W (pc + 1 + skip) (pos + j) n) : Fails code text lim st ls must (W + 1) pc pos (1 + (k + 1) * (n + 1)) := fun hd om mk lm li fs wt sn hw => by
  obtain ⟨sn', h⟩ := st_rep (text := text) (lim := lim) (st := st) (ls := ls) (must := must) (pos := pos) (hd := hd) (om := om) (mk := mk) (lm := lm) (li := li) (lp := #[]) (inn := none) (fs := fs) (wt := wt) (sn := sn) hp h0 h1 h2 h3 ha hpl hk hlim hj he (by omega) rfl
  by_cases hl : k < least
  · rw [if_pos hl] at h
    exact ⟨_, _, _, _, _, _, _, _, (Go.one rfl h).le (by omega)⟩
  · rw [if_neg hl] at h
    have down : ∀ j, least ≤ j → j ≤ k → ∀ hd' mk' lm' li' sn'', ∃ pc' pos' hd'' om' mk'' lm'' li'' sn''', Go ((j + 1) * (n + 1)) (cf code text lim st ls must (pc + 1 + skip) (pos + j) hd' om mk' lm' li' #[] none (gbFrame pc (pos + j) om j { lastmark := lm, lastindex := li } :: fs) (wt + 1) none sn'')
        (cf code text lim st ls must pc' pos' hd'' om' mk'' lm'' li'' #[] none fs wt (some false) sn''') := by
      intro j
      induction j with
      | zero =>
        intro hl0 _ hd' mk' lm' li' sn''
        obtain ⟨pc', pos', hd'', om', mk'', lm'', li'', sn3, g⟩ := hc 0 hl0 (by omega) hd' om mk' lm' li' (gbFrame pc (pos + 0) om 0 { lastmark := lm, lastindex := li } :: fs) (wt + 1) sn'' (by omega)
        have g2 := st_gb (text := text) (lim := lim) (st := st) (ls := ls) (must := must) (pc := pc') (pos := pos') (hd := hd'') (om := om') (mk := mk'') (lm := lm'') (li := li'') (lp := #[]) (inn := none) (fs := fs) (wt := wt) (sn := sn3) (pc' := pc) (p := pos + 0) (om' := om) (cnt := 0) (lm' := lm) (li' := li) h1 h2 (by omega)
        rw [if_pos (by omega)] at g2
        exact ⟨_, _, _, _, _, _, _, _, (g.trans (Go.one rfl g2)).le (by omega)⟩
      | succ j ih =>
        intro hl0 hjk hd' mk' lm' li' sn''
        obtain ⟨pc', pos', hd'', om', mk'', lm'', li'', sn3, g⟩ := hc (j + 1) hl0 hjk hd' om mk' lm' li' (gbFrame pc (pos + (j + 1)) om ((j + 1 : Nat) : Int) { lastmark := lm, lastindex := li } :: fs) (wt + 1) sn'' (by omega)
        have g2 := st_gb (text := text) (lim := lim) (st := st) (ls := ls) (must := must) (pc := pc') (pos := pos') (hd := hd'') (om := om') (mk := mk'') (lm := lm'') (li := li'') (lp := #[]) (inn := none) (fs := fs) (wt := wt) (sn := sn3) (pc' := pc) (p := pos + (j + 1)) (om' := om) (cnt := ((j + 1 : Nat) : Int)) (lm' := lm) (li' := li) h1 h2 (by omega)
        have e0 : (((j + 1 : Nat) : Int) - 1) = (j : Int) := by omega
        rw [e0] at g2
        by_cases hq : ((j : Int) < least)
        · rw [if_pos hq] at g2
          refine ⟨_, _, _, _, _, _, _, _, (g.trans (Go.one rfl g2)).le ?_⟩
          have : n + 1 ≤ (j + 1 + 1) * (n + 1) := Nat.le_mul_of_pos_left _ (by omega)
          omega
        · rw [if_neg hq] at g2
          have e1 : pos + (j + 1) - 1 = pos + j := by omega
          rw [e1] at g2
          obtain ⟨_, _, _, _, _, _, _, _, g3⟩ := ih (by omega) (by omega) (pos + j) mk'' lm li sn3
          refine ⟨_, _, _, _, _, _, _, _, ((g.trans (Go.one rfl g2)).trans g3).le ?_⟩
          have : (j + 1 + 1) * (n + 1) = (j + 1) * (n + 1) + (n + 1) := Nat.succ_mul _ _
          omega
    obtain ⟨_, _, _, _, _, _, _, _, g⟩ := down k (by omega) (Nat.le_refl _) (pos + k) mk lm li sn'
    exact ⟨_, _, _, _, _, _, _, _, (Go.one rfl h).trans g⟩
end
end Mine

namespace Mine
open PySem hiding Frame Kept
open PySem.Sre

theorem getD_arr (l : List Nat) (i : Nat) : l.toArray.getD i 0 = l.getD i 0 := by
  simp [Array.getD_eq_getD_getElem?, List.getD_eq_getElem?_getD]

/-- the length of the run of f from p on -/
def runLen (f : Nat → Bool) (l : List Nat) (p : Nat) : Nat := ((l.drop p).takeWhile f).length
theorem takeWhile_facts (f : Nat → Bool) : ∀ l : List Nat, (l.takeWhile f).length ≤ l.length ∧ (∀ j, j < (l.takeWhile f).length → f (l.getD j 0) = true) ∧ ((l.takeWhile f).length = l.length ∨ f (l.getD (l.takeWhile f).length 0) = false) := by
  intro l
  induction l with
  | nil => simp
  | cons a l ih =>
    cases ha : f a with
    | false => simp [List.takeWhile_cons, ha]
    | true =>
      simp only [List.takeWhile_cons, ha, if_true, List.length_cons]
      obtain ⟨h1, h2, h3⟩ := ih
      refine ⟨by omega, fun j hj => ?_, ?_⟩
      · cases j with
        | zero => simpa using ha
        | succ j => simpa using h2 j (by omega)
      · rcases h3 with h3 | h3
        · left; omega
        · right; simpa using h3
theorem runLen_facts (f : Nat → Bool) (l : List Nat) (p : Nat) (hp : p ≤ l.length) : p + runLen f l p ≤ l.length ∧ (∀ j, j < runLen f l p → f (l.toArray.getD (p + j) 0) = true) ∧ (p + runLen f l p = l.length ∨ f (l.toArray.getD (p + runLen f l p) 0) = false) := by
  obtain ⟨h1, h2, h3⟩ := takeWhile_facts f (l.drop p)
  have hd : ∀ j, (l.drop p).getD j 0 = l.getD (p + j) 0 := fun j => by simp [List.getD_eq_getElem?_getD]
  rw [List.length_drop] at h1 h3
  unfold runLen
  refine ⟨by omega, fun j hj => ?_, ?_⟩
  · rw [getD_arr, ← hd]; exact h2 j hj
  · rcases h3 with h3 | h3
    · left; omega
    · right; rw [getD_arr, ← hd]; exact h3

section
variable {l : List Nat}
theorem start_tok {n : Nat} (h : 1 ≤ n) {t : Array Nat} : forSearch tokC.toArray t 1 0 n false = cf tokC.toArray t n 0 n false 5 0 0 true #[none, none] (-1) (-1) #[] none [nsFrame 5 0 true] 1 none (({} : Seen).add 14) := by
  have e : forSearch tokC.toArray t 1 0 n false = if (decide (0 > n) || decide (n - 0 < 1)) = true then _ else cf tokC.toArray t n 0 n false 5 0 0 true #[none, none] (-1) (-1) #[] none [nsFrame 5 0 true] 1 none (({} : Seen).add 14) := rfl
  rw [e, if_neg]; simp; omega
theorem start_val {n : Nat} (h : 1 ≤ n) {t : Array Nat} : forSearch valC.toArray t 1 0 n false = cf valC.toArray t n 0 n false 5 0 0 true #[none, none] (-1) (-1) #[] none [nsFrame 5 0 true] 1 none (({} : Seen).add 14) := by
  have e : forSearch valC.toArray t 1 0 n false = if (decide (0 > n) || decide (n - 0 < 1)) = true then _ else cf valC.toArray t n 0 n false 5 0 0 true #[none, none] (-1) (-1) #[] none [nsFrame 5 0 true] 1 none (({} : Seen).add 14) := rfl
  rw [e, if_neg]; simp; omega
theorem start_quo {n : Nat} (h : 3 ≤ n) {t : Array Nat} : forSearch quoC.toArray t 1 0 n false = cf quoC.toArray t n 0 (max 0 (n - 2)) false 5 0 0 true #[none, none] (-1) (-1) #[] none [nsFrame 5 0 true] 1 none (({} : Seen).add 14) := by
  have e : forSearch quoC.toArray t 1 0 n false = if (decide (0 > n) || decide (n - 0 < 3)) = true then _ else cf quoC.toArray t n 0 (max 0 (n - 2)) false 5 0 0 true #[none, none] (-1) (-1) #[] none [nsFrame 5 0 true] 1 none (({} : Seen).add 14) := rfl
  rw [e, if_neg]; simp; omega
theorem start_twin {n s : Nat} (h : s ≤ n) {t : Array Nat} : forSearch twinC.toArray t 0 s n false = cf twinC.toArray t n s n false 5 s s true #[] (-1) (-1) #[] none [nsFrame 5 s true] 1 none (({} : Seen).add 14) := by
  have e : forSearch twinC.toArray t 0 s n false = if (decide (s > n) || decide (n - s < 0)) = true then _ else cf twinC.toArray t n s n false 5 s s true #[] (-1) (-1) #[] none [nsFrame 5 s true] 1 none (({} : Seen).add 14) := rfl
  rw [e, if_neg]; simp; omega
theorem start_esc {n s : Nat} (h : s + 2 ≤ n) {t : Array Nat} : forSearch escC.toArray t 1 s n false = cf escC.toArray t n s n false 9 s s true #[none, none] (-1) (-1) #[] none [nsFrame 9 s true] 1 none (({} : Seen).add 14) := by
  have e : forSearch escC.toArray t 1 s n false = if (decide (s > n) || decide (n - s < 2)) = true then _ else cf escC.toArray t n s n false 9 s s true #[none, none] (-1) (-1) #[] none [nsFrame 9 s true] 1 none (({} : Seen).add 14) := rfl
  rw [e, if_neg]; simp; omega
/-- too short: it fails at once -/
def shortOut (m : SM) : Prop := m.outcome = none ∧ m.answer = some false ∧ m.frames = []
theorem short_fails {m : SM} (h : shortOut m) : Ends Missed 1 m := by
  obtain ⟨h1, h2, h3⟩ := h
  refine ⟨m.step, Go.one h1 rfl, ?_⟩
  have : m.step.outcome = some .failed := by unfold Sre.M.step; simp [h1, h2, h3]
  exact ⟨by rw [this]; rfl, this⟩
theorem start_quo_short {n : Nat} (h : n < 3) {t : Array Nat} : shortOut (forSearch quoC.toArray t 1 0 n false) := by
  unfold forSearch
  have : (decide (0 > n) || decide (n - 0 < (header quoC.toArray).1)) = true := by
    show (decide (0 > n) || decide (n - 0 < 3)) = true
    simp; omega
  simp only [this, if_true]
  exact ⟨rfl, rfl, rfl⟩
theorem start_val_short {t : Array Nat} : shortOut (forSearch valC.toArray t 1 0 0 false) := ⟨rfl, rfl, rfl⟩
theorem start_tok_short {t : Array Nat} : shortOut (forSearch tokC.toArray t 1 0 0 false) := ⟨rfl, rfl, rfl⟩
theorem start_esc_short {n s : Nat} (h : n < s + 2) {t : Array Nat} : shortOut (forSearch escC.toArray t 1 s n false) := by
  unfold forSearch
  have : (decide (s > n) || decide (n - s < (header escC.toArray).1)) = true := by
    show (decide (s > n) || decide (n - s < 2)) = true
    simp; omega
  simp only [this, if_true]
  exact ⟨rfl, rfl, rfl⟩

theorem miss_of {code : Array Nat} {t : Array Nat} {lim ls N : Nat} {mk : Array (Option Nat)} {sn : Seen} (h2 : (code.getD 2 0 == 4) = false) (hp : 5 < code.size) (h5 : code.getD 5 0 = 6) (h6 : code.getD 6 0 = 0)
    (hf : Fails code t lim 0 ls false 10 7 0 N) : Ends Missed (1 + (N + (2 * ls + 2))) (cf code t lim 0 ls false 5 0 0 true mk (-1) (-1) #[] none [nsFrame 5 0 true] 1 none sn) := by
  refine e_at0 hp h5 h6 rfl fun sn' => ?_
  obtain ⟨pc', pos', hd', om', mk', lm', li', sn'', g⟩ := hf 0 true mk (-1) (-1) [nsFrame 5 0 true] 1 sn' (by omega)
  obtain ⟨mf, g2, ho⟩ := starts_fail (text := t) (lim := lim) (ls := ls) h2 hp h5 h6 ls 0 0 hd' pc' pos' false om' true mk' lm' li' sn'' (by omega)
  exact ⟨mf, g.trans g2, by rw [ho]; rfl, ho⟩

def spLen (l : List Nat) : Nat := runLen isSp l 0
theorem sp_facts (l : List Nat) : spLen l ≤ l.length ∧ (∀ j, j < spLen l → isSp (l.toArray.getD (0 + j) 0) = true) ∧ (spLen l = l.length ∨ isSp (l.toArray.getD (spLen l) 0) = false) := by
  obtain ⟨a1, a2, a3⟩ := runLen_facts isSp l 0 (by omega)
  rw [Nat.zero_add] at a1 a3
  exact ⟨a1, a2, a3⟩
theorem tok_hit (hl : l.length ≤ 200) (hk : 0 < runLen isNm l (spLen l)) :
    Ends (Found1 0 (spLen l + runLen isNm l (spLen l)) (spLen l) (spLen l + runLen isNm l (spLen l))) 20 (forSearch tokC.toArray l.toArray 1 0 l.length false) := by
  obtain ⟨a1, a2, a3⟩ := sp_facts l
  obtain ⟨b1, b2, b3⟩ := runLen_facts isNm l (spLen l) a1
  rw [start_tok (by omega)]
  refine Ends.le (e_at0 (by decide) rfl rfl rfl fun sn1 => ?_) (b := 20) (a := 1 + 12) (by omega)
  refine Ends.le (e_rep (skip := 9) (least := 0) (k := spLen l) (by decide) rfl rfl rfl rfl acc_sp_tok (by omega) (by omega) (by omega) a2 (by rw [Nat.zero_add]; exact a3) (by omega) rfl (by omega) fun sn2 => ?_) (a := 1 + 11) (by omega)
  rw [Nat.zero_add]
  refine Ends.le (e_mark (i := 0) (by decide) rfl rfl (by omega) (by omega) fun sn3 li3 => ?_) (a := 1 + 10) (by omega)
  refine Ends.le (e_rep (skip := 19) (least := 1) (k := runLen isNm l (spLen l)) (by decide) rfl rfl rfl rfl acc_nm_tok (by omega) (by omega) (by omega) b2 b3 (by omega) rfl (by omega) fun sn4 => ?_) (a := 1 + 9) (by omega)
  refine Ends.le (e_mark (i := 1) (by decide) rfl rfl (by omega) (by omega) fun sn5 li5 => ?_) (a := 1 + 8) (by omega)
  exact Ends.le (e_yes1 (by decide) rfl (.inl rfl) (by simp [passes]) rfl rfl) (by simp)

theorem nm_not_sp {c : Nat} (h : isSp c = true) : isNm c = false := by unfold isNm; simp only [isSp] at h; rw [h]; simp

theorem runLen_zero {f : Nat → Bool} {p : Nat} (hp : p < l.length) (h : f (l.toArray.getD p 0) = false) : runLen f l p = 0 := by
  obtain ⟨a1, a2, a3⟩ := runLen_facts f l p (by omega)
  rcases Nat.eq_zero_or_pos (runLen f l p) with h0 | h0
  · exact h0
  · have := a2 0 h0; rw [Nat.add_zero, h] at this; cases this

theorem bound_mul {k n c : Nat} (hk : k ≤ 1000) (hn : n ≤ c) : (k + 1) * (n + 1) ≤ 1001 * (c + 1) := Nat.mul_le_mul (by omega) (by omega)

/-- the run of item characters fails at each place in white -/
theorem f_nm_tok (hl : l.length ≤ 200) {ls W j : Nat} (hj : j ≤ spLen l) (hk : runLen isNm l (spLen l) = 0) : Fails tokC.toArray l.toArray l.length 0 ls false (W + 1) 19 j (1 + 1 * (1 + 1)) := by
  obtain ⟨a1, a2, a3⟩ := sp_facts l
  have hz : j + 0 = l.length ∨ isNm (l.toArray.getD (j + 0) 0) = false := by
    rcases Nat.lt_or_ge j (spLen l) with h | h
    · right; have := a2 j h; rw [Nat.zero_add] at this; exact nm_not_sp this
    · have : j = spLen l := by omega
      subst this
      obtain ⟨b1, b2, b3⟩ := runLen_facts isNm l (spLen l) a1
      rw [hk] at b3; exact b3
  exact f_rep (n := 1) (k := 0) (skip := 19) (least := 1) (by decide) rfl rfl rfl rfl acc_nm_tok (by omega) (by omega) (by omega) (fun j hj => by omega) hz (fun j h1 h2 => by omega)

theorem tok_miss (hl : l.length ≤ 200) (hk : runLen isNm l (spLen l) = 0) : Ends Missed 20000 (forSearch tokC.toArray l.toArray 1 0 l.length false) := by
  rcases Nat.eq_zero_or_pos l.length with h0 | h0
  · rw [h0]; exact (short_fails start_tok_short).le (by omega)
  obtain ⟨a1, a2, a3⟩ := sp_facts l
  rw [start_tok (by omega)]
  have hf : Fails tokC.toArray l.toArray l.length 0 l.length false 10 7 0 (1 + (spLen l + 1) * (4 + 1)) := by
    refine f_rep (skip := 9) (least := 0) (k := spLen l) (by decide) rfl rfl rfl rfl acc_sp_tok (by omega) (by omega) (by omega) a2 (by rw [Nat.zero_add]; exact a3) fun j _ hj => ?_
    rw [Nat.zero_add]
    have g := f_mark (n := 3) (i := 0) (code := tokC.toArray) (text := l.toArray) (lim := l.length) (st := 0) (ls := l.length) (must := false) (pc := 17) (pos := j) (W := 9) (by decide) rfl rfl (f_nm_tok (W := 8) hl hj hk)
    exact g
  have := miss_of (code := tokC.toArray) (t := l.toArray) (lim := l.length) (mk := #[none, none]) (sn := ({} : Seen).add 14) (by decide) (by decide) rfl rfl hf
  exact this.le (by have : spLen l ≤ 200 := by omega
                    omega)

/-- the value behind = -/
abbrev eqAt (l : List Nat) : Prop := spLen l < l.length ∧ l.toArray.getD (spLen l) 0 = 61
def sp2 (l : List Nat) : Nat := runLen isSp l (spLen l + 1)
theorem sp2_facts (l : List Nat) (h : spLen l < l.length) : spLen l + 1 + sp2 l ≤ l.length ∧ (∀ j, j < sp2 l → isSp (l.toArray.getD (spLen l + 1 + j) 0) = true) ∧ (spLen l + 1 + sp2 l = l.length ∨ isSp (l.toArray.getD (spLen l + 1 + sp2 l) 0) = false) :=
  runLen_facts isSp l (spLen l + 1) (by omega)
theorem val_hit (hl : l.length ≤ 200) (he : eqAt l) :
    Ends (Found1 0 (spLen l + 1 + sp2 l + runLen isVl l (spLen l + 1 + sp2 l)) (spLen l + 1 + sp2 l) (spLen l + 1 + sp2 l + runLen isVl l (spLen l + 1 + sp2 l))) 20 (forSearch valC.toArray l.toArray 1 0 l.length false) := by
  obtain ⟨a1, a2, a3⟩ := sp_facts l
  obtain ⟨c1, c2, c3⟩ := sp2_facts l he.1
  obtain ⟨b1, b2, b3⟩ := runLen_facts isVl l (spLen l + 1 + sp2 l) c1
  rw [start_val (by omega)]
  refine Ends.le (e_at0 (by decide) rfl rfl rfl fun sn1 => ?_) (b := 20) (a := 1 + 18) (by omega)
  refine Ends.le (e_rep (skip := 9) (least := 0) (k := spLen l) (by decide) rfl rfl rfl rfl acc_sp_val1 (by omega) (by omega) (by omega) a2 (by rw [Nat.zero_add]; exact a3) (by omega) rfl (by omega) fun sn2 => ?_) (a := 1 + 17) (by omega)
  rw [Nat.zero_add]
  refine Ends.le (e_lit (c := 61) (by decide) rfl rfl he.1 he.2 fun sn3 => ?_) (a := 1 + 16) (by omega)
  refine Ends.le (e_rep (skip := 9) (least := 0) (k := sp2 l) (by decide) rfl rfl rfl rfl acc_sp_val2 (by omega) (by omega) (by omega) c2 c3 (by omega) rfl (by omega) fun sn4 => ?_) (a := 1 + 15) (by omega)
  refine Ends.le (e_mark (i := 0) (by decide) rfl rfl (by omega) (by omega) fun sn5 li5 => ?_) (a := 1 + 14) (by omega)
  refine Ends.le (e_rep (skip := 14) (least := 0) (k := runLen isVl l (spLen l + 1 + sp2 l)) (by decide) rfl rfl rfl rfl acc_vl (by omega) (by omega) (by omega) b2 b3 (by omega) rfl (by omega) fun sn6 => ?_) (a := 1 + 13) (by omega)
  refine Ends.le (e_mark (i := 1) (by decide) rfl rfl (by omega) (by omega) fun sn7 li7 => ?_) (a := 1 + 12) (by omega)
  exact Ends.le (e_yes1 (by decide) rfl (.inl rfl) (by simp [passes]) rfl rfl) (by simp)

theorem sp_not_eq {c : Nat} (h : isSp c = true) (e : c = 61) : False := by subst e; exact absurd h (by decide)
theorem sp_not_q {c : Nat} (h : isSp c = true) (e : c = 34) : False := by subst e; exact absurd h (by decide)

theorem no_eq_in_white {j : Nat} (hj : j ≤ spLen l) (he : ¬ eqAt l) : ¬ (j < l.length ∧ l.toArray.getD j 0 = 61) := by
  obtain ⟨a1, a2, a3⟩ := sp_facts l
  rintro ⟨h1, h2⟩
  rcases Nat.lt_or_ge j (spLen l) with h | h
  · have := a2 j h; rw [Nat.zero_add] at this; exact sp_not_eq this h2
  · have : j = spLen l := by omega
    subst this; exact he ⟨h1, h2⟩

theorem val_miss (hl : l.length ≤ 200) (he : ¬ eqAt l) : Ends Missed 20000 (forSearch valC.toArray l.toArray 1 0 l.length false) := by
  rcases Nat.eq_zero_or_pos l.length with h0 | h0
  · rw [h0]; exact (short_fails start_val_short).le (by omega)
  obtain ⟨a1, a2, a3⟩ := sp_facts l
  rw [start_val (by omega)]
  have hf : Fails valC.toArray l.toArray l.length 0 l.length false 10 7 0 (1 + (spLen l + 1) * (1 + 1)) := by
    refine f_rep (skip := 9) (least := 0) (k := spLen l) (by decide) rfl rfl rfl rfl acc_sp_val1 (by omega) (by omega) (by omega) a2 (by rw [Nat.zero_add]; exact a3) fun j _ hj => ?_
    rw [Nat.zero_add]
    exact f_lit (c := 61) (by decide) rfl rfl (no_eq_in_white hj he)
  have := miss_of (code := valC.toArray) (t := l.toArray) (lim := l.length) (mk := #[none, none]) (sn := ({} : Seen).add 14) (by decide) (by decide) rfl rfl hf
  exact this.le (by have : spLen l ≤ 200 := by omega
                    omega)

theorem quo_miss1 (hl : l.length ≤ 200) (he : ¬ eqAt l) : Ends Missed 20000 (forSearch quoC.toArray l.toArray 1 0 l.length false) := by
  rcases Nat.lt_or_ge l.length 3 with h0 | h0
  · exact (short_fails (start_quo_short h0)).le (by omega)
  obtain ⟨a1, a2, a3⟩ := sp_facts l
  rw [start_quo h0]
  have hf : Fails quoC.toArray l.toArray l.length 0 (max 0 (l.length - 2)) false 10 7 0 (1 + (spLen l + 1) * (1 + 1)) := by
    refine f_rep (skip := 9) (least := 0) (k := spLen l) (by decide) rfl rfl rfl rfl acc_sp_quo1 (by omega) (by omega) (by omega) a2 (by rw [Nat.zero_add]; exact a3) fun j _ hj => ?_
    rw [Nat.zero_add]
    exact f_lit (c := 61) (by decide) rfl rfl (no_eq_in_white hj he)
  have := miss_of (code := quoC.toArray) (t := l.toArray) (lim := l.length) (mk := #[none, none]) (sn := ({} : Seen).add 14) (by decide) (by decide) rfl rfl hf
  exact this.le (by have : spLen l ≤ 200 := by omega
                    omega)

abbrev qAt (l : List Nat) : Prop := spLen l + 1 + sp2 l < l.length ∧ l.toArray.getD (spLen l + 1 + sp2 l) 0 = 34
theorem quo_miss2 (hl : l.length ≤ 200) (he : eqAt l) (hq : ¬ qAt l) : Ends Missed 100000 (forSearch quoC.toArray l.toArray 1 0 l.length false) := by
  rcases Nat.lt_or_ge l.length 3 with h0 | h0
  · exact (short_fails (start_quo_short h0)).le (by omega)
  obtain ⟨a1, a2, a3⟩ := sp_facts l
  obtain ⟨c1, c2, c3⟩ := sp2_facts l he.1
  rw [start_quo h0]
  have hin : ∀ W, Fails quoC.toArray l.toArray l.length 0 (max 0 (l.length - 2)) false (W + 1) 19 (spLen l + 1) (1 + (sp2 l + 1) * (1 + 1)) := fun W => by
    refine f_rep (skip := 9) (least := 0) (k := sp2 l) (by decide) rfl rfl rfl rfl acc_sp_quo2 (by omega) (by omega) (by omega) c2 c3 fun j _ hj => ?_
    refine f_lit (c := 34) (by decide) rfl rfl ?_
    rintro ⟨h1, h2⟩
    rcases Nat.lt_or_ge j (sp2 l) with h | h
    · exact sp_not_q (c2 j h) h2
    · have : j = sp2 l := by omega
      subst this; exact hq ⟨h1, h2⟩
  have hf : Fails quoC.toArray l.toArray l.length 0 (max 0 (l.length - 2)) false 10 7 0 (1 + (spLen l + 1) * ((1 + (1 + (sp2 l + 1) * (1 + 1))) + 1)) := by
    refine f_rep (skip := 9) (least := 0) (k := spLen l) (by decide) rfl rfl rfl rfl acc_sp_quo1 (by omega) (by omega) (by omega) a2 (by rw [Nat.zero_add]; exact a3) fun j _ hj => ?_
    rw [Nat.zero_add]
    rcases Nat.lt_or_ge j (spLen l) with h | h
    · have g : Fails quoC.toArray l.toArray l.length 0 (max 0 (l.length - 2)) false 9 17 j 1 := f_lit (c := 61) (by decide) rfl rfl (by
        rintro ⟨_, h2⟩
        have := a2 j h; rw [Nat.zero_add] at this; exact sp_not_eq this h2)
      intro hd om mk lm li fs wt sn hw
      obtain ⟨p1, p2, p3, p4, p5, p6, p7, p8, g'⟩ := g hd om mk lm li fs wt sn hw
      exact ⟨p1, p2, p3, p4, p5, p6, p7, p8, g'.le (by omega)⟩
    · have : j = spLen l := by omega
      subst this
      exact f_lit_then (c := 61) (by decide) rfl rfl (hin 8)
  have := miss_of (code := quoC.toArray) (t := l.toArray) (lim := l.length) (mk := #[none, none]) (sn := ({} : Seen).add 14) (by decide) (by decide) rfl rfl hf
  refine this.le ?_
  have hm : (spLen l + 1) * (1 + (1 + (sp2 l + 1) * (1 + 1)) + 1) ≤ 201 * 410 := Nat.mul_le_mul (by omega) (by omega)
  omega
end
end Mine

namespace Mine
open PySem hiding Frame Kept
open PySem.Sre

abbrev lp1 (c : Int) (bg : Option Nat) : Array Loop := #[{ pc := 46, count := c, began := bg, outer := none }]
abbrev kq (q : Nat) (li : Int) : Kept := { lastmark := 0, lastindex := li, whole := true, marks := #[some q] }
abbrev mmFrame (p : Nat) (om : Bool) (c : Int) (q : Nat) (li : Int) (bg : Option Nat) : Frame := { wait := .maxMore, pc := 67, pos := p, outermost := om, loop := 0, count := c, kept := kq q li, began := bg }
abbrev clFrame (p : Nat) (om : Bool) : Frame := { wait := .closeLoop, pc := 46, pos := p, outermost := om, loop := 0 }
abbrev mtFrame (p : Nat) (om : Bool) (c : Int) (li : Int) : Frame := { wait := .maxTail, pc := 67, pos := p, outermost := om, loop := 0, count := c, kept := { lastmark := 0, lastindex := li } }

section
variable {P : SM → Prop} {n : Nat} {text : Array Nat} {lim st ls : Nat} {must : Bool} {pc pos hd : Nat} {om : Bool} {li : Int} {fs : List Frame} {wt : Nat} {sn : Seen} {q : Nat} {c : Int} {bg : Option Nat}

theorem e_repeat (hwt : wt + 1 ≤ 16777216)
    (k : ∀ sn', Ends P n (cf quoC.toArray text lim st ls must 66 pos pos om #[some q, none] 0 li (lp1 (-1) none) (some 0) (clFrame pos om :: fs) (wt + 1) none sn')) :
    Ends P (1 + n) (cf quoC.toArray text lim st ls must 46 pos hd om #[some q, none] 0 li #[] none fs wt none sn) := by
  refine Ends.pre (Go.one rfl ?_) (k (sn.add 23))
  rw [step_exec (by decide)]
  unfold Sre.M.exec
  have h0 : quoC.toArray.getD 46 0 = 23 := rfl
  have h1 : quoC.toArray.getD (46 + 1) 0 = 19 := rfl
  simp only [cf, Sre.M.word, Nat.add_zero, h0, h1, op23, Sre.M.attempt, Sre.M.frame]
  have : ¬ (wt + 1 + (#[] : Array (Option Nat)).size > 16777216) := by simp; omega
  rw [if_neg this]; rfl

theorem e_until (hwt : wt + 2 ≤ 16777216) (hc : -1 ≤ c) (hb : bg ≠ some pos)
    (k : ∀ sn', Ends P n (cf quoC.toArray text lim st ls must 50 pos pos om #[some q, none] 0 li (lp1 (c + 1) (some pos)) (some 0) (mmFrame pos om (c + 1) q li bg :: fs) (wt + 2) none sn')) :
    Ends P (1 + n) (cf quoC.toArray text lim st ls must 66 pos hd om #[some q, none] 0 li (lp1 c bg) (some 0) fs wt none sn) := by
  refine Ends.pre (Go.one rfl ?_) (k (sn.add 18))
  rw [step_exec (by decide)]
  unfold Sre.M.exec
  have h0 : quoC.toArray.getD 66 0 = 18 := rfl
  simp only [cf, Sre.M.word, Nat.add_zero, h0, op18]
  unfold Sre.M.until_
  have h2 : quoC.toArray.getD (46 + 2) 0 = 0 := rfl
  have h3 : quoC.toArray.getD (46 + 3) 0 = 4294967295 := rfl
  have hl : Sre.M.loopAt { code := quoC.toArray, text := text, lim := lim, start := st, lastStart := ls, mustAdvance := must, pc := 66 + 1, pos := pos, handed := hd, outermost := om, marks := #[some q, none], lastmark := 0, lastindex := li, loops := lp1 c bg, inner := some 0, frames := fs, weight := wt, seen := sn.add 18 } 0 = { pc := 46, count := c, began := bg, outer := none } := rfl
  simp only [hl, h2, h3]
  rw [if_neg (by omega)]
  have e1 : (!true) = false := rfl
  have e2 : ((decide (c + 1 < ((4294967295 : Nat) : Int)) || (4294967295 : Nat) == maxRepeat) && bg != some pos) = true := by
    have : (bg != some pos) = true := by simpa using hb
    rw [this]; simp [maxRepeat]
  rw [if_neg (by decide), if_pos e2]
  unfold Sre.M.round
  simp only [hl]
  simp only [Sre.M.setLoop, Sre.M.keep, Sre.M.attempt, Sre.M.frame, if_true]
  have : ¬ (wt + 1 + (#[some q] : Array (Option Nat)).size > 16777216) := by simp; omega
  show (if wt + 1 + (#[some q] : Array (Option Nat)).size > 16777216 then _ else _) = _
  rw [if_neg this]; rfl

theorem e_rep_in {k : Nat} (hpl : pos ≤ lim) (hk : pos + k ≤ lim) (hlim : lim < 4294967295) (hj : ∀ j, j < k → isQb (text.getD (pos + j) 0) = true) (he : pos + k = lim ∨ isQb (text.getD (pos + k) 0) = false) (hwt : wt + 2 ≤ 16777216) {lp : Array Loop}
    (kk : ∀ sn', Ends P n (cf quoC.toArray text lim st ls must 66 (pos + k) (pos + k) om #[some q, none] 0 li lp (some 0) (gbFrame 53 (pos + k) om k (kq q li) :: fs) (wt + 2) none sn')) :
    Ends P (1 + n) (cf quoC.toArray text lim st ls must 53 pos hd om #[some q, none] 0 li lp (some 0) fs wt none sn) := by
  obtain ⟨sn', hrun⟩ := run_eq (text := text) acc_qb2 (lim - pos) pos 0 k ((sn.add 24).add 13) (by omega) hj (by rcases he with he | he; (left; omega); (right; exact he))
  refine Ends.pre (Go.one rfl ?_) (kk sn')
  rw [step_exec (by decide)]
  unfold Sre.M.exec
  have h0 : quoC.toArray.getD 53 0 = 24 := rfl
  have h1 : quoC.toArray.getD (53 + 1) 0 = 12 := rfl
  have h2 : quoC.toArray.getD (53 + 2) 0 = 0 := rfl
  have h3 : quoC.toArray.getD (53 + 3) 0 = 4294967295 := rfl
  have h4 : quoC.toArray.getD (53 + 4) 0 = 13 := rfl
  simp only [cf, Sre.M.word, Nat.add_zero, h0, h2, h3, h4, op24]
  rw [if_neg (by omega)]
  have em : min 4294967295 ((lim : Int) - pos).toNat = lim - pos := by omega
  simp only [em, hrun, Nat.zero_add, Bool.false_eq_true, if_false]
  rw [if_neg (by omega)]
  simp only [Sre.M.afterRun, Sre.M.attempt, Sre.M.frame, Sre.M.keep, Option.isSome_some, if_true, Sre.M.word, h1]
  have : ¬ (wt + 1 + (#[some q] : Array (Option Nat)).size > 16777216) := by simp; omega
  show (if wt + 1 + (#[some q] : Array (Option Nat)).size > 16777216 then _ else _) = _
  rw [if_neg this]; rfl

theorem e_mm_no (hwt : wt + 2 ≤ 16777216) {p : Nat} {om' : Bool} {li' : Int} {bg' : Option Nat} {c' : Int}
    (k : Ends P n (cf quoC.toArray text lim st ls must 67 p p om' #[some q, none] 0 li' (lp1 (c' - 1) bg') none (mtFrame p om' c' li' :: fs) (wt + 1) none sn)) :
    Ends P (1 + n) (cf quoC.toArray text lim st ls must pc pos hd om #[some q, none] 0 li (lp1 c bg) (some 0) (mmFrame p om' c' q li' bg' :: fs) (wt + 2) (some false) sn) := by
  refine Ends.pre (Go.one rfl ?_) k
  unfold Sre.M.step
  simp only [cf, Option.isSome_none, Bool.false_eq_true, if_false]
  unfold Sre.M.resume
  simp only [Sre.M.setLoop, Sre.M.putBack, if_true, Bool.false_eq_true, if_false, Sre.M.afterLoop, Sre.M.loopAt, Sre.M.attempt, Sre.M.frame, Sre.M.keep]
  have e : wt + 2 - (1 + (#[some q] : Array (Option Nat)).size) = wt := by simp
  simp only [e]
  have : ¬ (wt + 1 + (#[] : Array (Option Nat)).size > 16777216) := by simp; omega
  rw [if_neg this]; rfl
end

/-- the rest of a quotation behind a run: from p on, closed at e -/
inductive Body (l : List Nat) : Nat → Nat → Prop
  | stop {p : Nat} : p < l.length → l.toArray.getD p 0 = 34 → Body l p p
  | esc {p e : Nat} : p + 1 < l.length → l.toArray.getD p 0 = 92 → l.toArray.getD (p + 1) 0 ≠ 10 → Body l (p + 2 + runLen isQb l (p + 2)) e → Body l p e
theorem Body.le {l : List Nat} {p e : Nat} (h : Body l p e) : p ≤ e ∧ e < l.length := by
  induction h with
  | stop h _ => exact ⟨Nat.le_refl _, h⟩
  | esc _ _ _ _ ih => omega

theorem body_hit {l : List Nat} {p e : Nat} (hb : Body l p e) (hl : l.length ≤ 200) {q st ls : Nat} :
    ∀ (fs : List Frame) (wt hd : Nat) (om : Bool) (li : Int) (c : Int) (bg : Option Nat) (sn : Seen), (∀ f ∈ fs, passes f.wait = true) → wt + 4 * (e - p) ≤ 10000 → -1 ≤ c → bg ≠ some p →
    Ends (Found1 st (e + 1) q e) (10 * (e - p) + 20 + fs.length) (cf quoC.toArray l.toArray l.length st ls false 66 p hd om #[some q, none] 0 li (lp1 c bg) (some 0) fs wt none sn) := by
  induction hb with
  | stop hp h34 =>
    intro fs wt hd om li c bg sn hfs hw hc hbg
    rename_i p
    refine Ends.le (e_until (by omega) hc hbg fun sn1 => ?_) (a := 1 + (19 + fs.length)) (by omega)
    refine Ends.le (e_lit_no (c := 92) (by decide) rfl rfl (by rw [h34]; omega) fun sn2 => ?_) (a := 1 + (18 + fs.length)) (by omega)
    refine Ends.le (e_mm_no (by omega) ?_) (a := 1 + (17 + fs.length)) (by omega)
    refine Ends.le (e_mark (i := 1) (by decide) rfl rfl (by omega) (by omega) fun sn3 li3 => ?_) (a := 1 + (16 + fs.length)) (by omega)
    refine Ends.le (e_lit (c := 34) (by decide) rfl rfl hp h34 fun sn4 => ?_) (a := 1 + (15 + fs.length)) (by omega)
    refine Ends.le (e_yes1 (by decide) rfl (.inl rfl) (by simpa [passes] using hfs) rfl rfl) (by simp; omega)
  | esc hp h92 h10 hr ih =>
    rename_i p e
    intro fs wt hd om li c bg sn hfs hw hc hbg
    have hle := hr.le
    obtain ⟨a1, a2, a3⟩ := runLen_facts isQb l (p + 2) (by omega)
    refine Ends.le (e_until (by omega) hc hbg fun sn1 => ?_) (a := 1 + (10 * (e - p) + 19 + fs.length)) (by omega)
    refine Ends.le (e_lit (c := 92) (by decide) rfl rfl (by omega) h92 fun sn2 => ?_) (a := 1 + (10 * (e - p) + 18 + fs.length)) (by omega)
    refine Ends.le (e_any (by decide) rfl (by omega) h10 fun sn3 => ?_) (a := 1 + (10 * (e - p) + 17 + fs.length)) (by omega)
    refine Ends.le (e_rep_in (k := runLen isQb l (p + 2)) (by omega) (by omega) (by omega) a2 a3 (by omega) fun sn4 => ?_) (a := 1 + (10 * (e - p) + 16 + fs.length)) (by omega)
    refine Ends.le (ih _ _ _ _ _ _ _ _ (by simpa [passes] using hfs) (by omega) (by omega) (fun h => by have := Option.some.inj h; omega)) (by simp; omega)

theorem quo_hit {l : List Nat} (hl : l.length ≤ 200) (he : eqAt l) (hq : qAt l) {e : Nat} (hb : Body l (spLen l + 1 + sp2 l + 1 + runLen isQb l (spLen l + 1 + sp2 l + 1)) e) :
    Ends (Found1 0 (e + 1) (spLen l + 1 + sp2 l + 1) e) 10000 (forSearch quoC.toArray l.toArray 1 0 l.length false) := by
  obtain ⟨a1, a2, a3⟩ := sp_facts l
  obtain ⟨c1, c2, c3⟩ := sp2_facts l he.1
  obtain ⟨b1, b2, b3⟩ := runLen_facts isQb l (spLen l + 1 + sp2 l + 1) (by have := hq.1; omega)
  have hle := hb.le
  rw [start_quo (by omega)]
  refine Ends.le (e_at0 (by decide) rfl rfl rfl fun sn1 => ?_) (a := 1 + 9000) (by omega)
  refine Ends.le (e_rep (skip := 9) (least := 0) (k := spLen l) (by decide) rfl rfl rfl rfl acc_sp_quo1 (by omega) (by omega) (by omega) a2 (by rw [Nat.zero_add]; exact a3) (by omega) rfl (by omega) fun sn2 => ?_) (a := 1 + 8000) (by omega)
  rw [Nat.zero_add]
  refine Ends.le (e_lit (c := 61) (by decide) rfl rfl he.1 he.2 fun sn3 => ?_) (a := 1 + 7000) (by omega)
  refine Ends.le (e_rep (skip := 9) (least := 0) (k := sp2 l) (by decide) rfl rfl rfl rfl acc_sp_quo2 (by omega) (by omega) (by omega) c2 c3 (by omega) rfl (by omega) fun sn4 => ?_) (a := 1 + 6000) (by omega)
  refine Ends.le (e_lit (c := 34) (by decide) rfl rfl hq.1 hq.2 fun sn5 => ?_) (a := 1 + 5500) (by omega)
  refine Ends.le (e_mark (i := 0) (by decide) rfl rfl (by omega) (by omega) fun sn6 li6 => ?_) (a := 1 + 5400) (by omega)
  refine Ends.le (e_rep (skip := 12) (least := 0) (k := runLen isQb l (spLen l + 1 + sp2 l + 1)) (by decide) rfl rfl rfl rfl acc_qb1 (by omega) (by omega) (by omega) b2 b3 (by omega) rfl (by omega) fun sn7 => ?_) (a := 1 + 5300) (by omega)
  refine Ends.le (e_repeat (by omega) fun sn8 => ?_) (a := 1 + 5200) (by omega)
  refine Ends.le (body_hit hb hl _ _ _ _ _ _ _ _ (by simp [passes]) (by omega) (by omega) (fun h => by cases h)) (by simp; omega)

/-- the one open quotation that is met -/
theorem quo_open : Ends Missed 10 (forSearch quoC.toArray [61, 34].toArray 1 0 2 false) := (short_fails (start_quo_short (by decide))).le (by omega)

section
variable {l : List Nat}
def jkLen (l : List Nat) : Nat := runLen isJk l 0
theorem twin_hit (hl : l.length ≤ 200) : Ends (Found0 0 (jkLen l)) 20 (forSearch twinC.toArray l.toArray 0 0 l.length false) := by
  obtain ⟨a1, a2, a3⟩ := runLen_facts isJk l 0 (by omega)
  rw [Nat.zero_add] at a1 a3
  rw [start_twin (by omega)]
  refine Ends.le (e_at0 (by decide) rfl rfl rfl fun sn1 => ?_) (b := 20) (a := 1 + 12) (by omega)
  refine Ends.le (e_rep (skip := 13) (least := 0) (k := jkLen l) (by decide) rfl rfl rfl rfl acc_jk (by omega) (by unfold jkLen; omega) (by omega) a2 (by rw [Nat.zero_add]; exact a3) (by omega) rfl (by omega) fun sn2 => ?_) (a := 1 + 11) (by omega)
  rw [Nat.zero_add]
  exact Ends.le (e_yes0 (by decide) rfl (.inl rfl) (by simp [passes])) (by simp)
theorem twin_again {s : Nat} (hs : 0 < s) (hsl : s ≤ l.length) (hl : l.length ≤ 200) : Ends Missed 1000 (forSearch twinC.toArray l.toArray 0 s l.length false) := by
  rw [start_twin hsl]
  obtain ⟨sn', h'⟩ := st_at0 (code := twinC.toArray) (text := l.toArray) (lim := l.length) (st := s) (ls := l.length) (must := false) (pc := 5) (pos := s) (hd := s) (om := true) (mk := #[]) (lm := -1) (li := -1) (lp := #[]) (inn := none) (fs := [nsFrame 5 s true]) (wt := 1) (sn := ({} : Seen).add 14) (by decide) rfl rfl
  rw [if_neg (by omega)] at h'
  obtain ⟨mf, g2, ho⟩ := starts_fail (code := twinC.toArray) (text := l.toArray) (lim := l.length) (ls := l.length) (by decide) (by decide) rfl rfl l.length s s s 5 s false true true #[] (-1) (-1) sn' (by omega)
  exact ⟨mf, ((Go.one rfl h').trans g2).le (by omega), by rw [ho]; rfl, ho⟩

/-- escape: a start that does not hold a backslash goes to the next -/
theorem esc_skip {P : SM → Prop} {s n : Nat} (hs : s < l.length) (h92 : l.toArray.getD s 0 ≠ 92) {st hd : Nat} {om : Bool} {lm li : Int} {sn : Seen} {must : Bool}
    (k : ∀ sn', Ends P n (cf escC.toArray l.toArray l.length (s + 1) l.length false 9 (s + 1) (s + 1) false #[none, none] (-1) (-1) #[] none [nsFrame 9 (s + 1) false] 1 none sn')) :
    Ends P (1 + (1 + n)) (cf escC.toArray l.toArray l.length st l.length must 9 s hd om #[none, none] lm li #[] none [nsFrame 9 s om'] 1 none sn) := by
  refine e_lit_no (c := 92) (by decide) rfl rfl (fun h => h92 h.2) fun sn1 => ?_
  have h := st_ns (code := escC.toArray) (pc := 9) (pos := s) (hd := hd) (om := om) (must := must) (text := l.toArray) (lim := l.length) (st := st) (ls := l.length) (mk := #[none, none]) (lm := lm) (li := li) (lp := #[]) (inn := none) (sn := sn1) (pc' := 9) (p := s) (om' := om') (by decide) (by decide)
  rw [if_pos hs] at h
  exact Ends.pre (Go.one rfl h) (k sn1)
theorem esc_found {p : Nat} (hp : p + 1 < l.length) (h92 : l.toArray.getD p 0 = 92) (h10 : l.toArray.getD (p + 1) 0 ≠ 10) {hd : Nat} {om om' : Bool} {lm li : Int} {sn : Seen} (hlm : lm = -1) :
    Ends (Found1 p (p + 2) (p + 1) (p + 2)) 10 (cf escC.toArray l.toArray l.length p l.length false 9 p hd om #[none, none] lm li #[] none [nsFrame 9 p om'] 1 none sn) := by
  subst hlm
  refine Ends.le (e_lit (c := 92) (by decide) rfl rfl (by omega) h92 fun sn1 => ?_) (a := 1 + 9) (by omega)
  refine Ends.le (e_mark (i := 0) (by decide) rfl rfl (by omega) (by omega) fun sn3 li3 => ?_) (a := 1 + 8) (by omega)
  refine Ends.le (e_any (by decide) rfl (by omega) h10 fun sn4 => ?_) (a := 1 + 7) (by omega)
  refine Ends.le (e_mark (i := 1) (by decide) rfl rfl (by omega) (by omega) fun sn5 li5 => ?_) (a := 1 + 6) (by omega)
  exact Ends.le (e_yes1 (by decide) rfl (.inl rfl) (by simp [passes]) rfl rfl) (by simp)
theorem esc_hit_from : ∀ (d s p : Nat), p - s ≤ d → s ≤ p → p + 1 < l.length → (∀ i, s ≤ i → i < p → l.toArray.getD i 0 ≠ 92) → l.toArray.getD p 0 = 92 → l.toArray.getD (p + 1) 0 ≠ 10 → ∀ (om om' : Bool) (sn : Seen),
    Ends (Found1 p (p + 2) (p + 1) (p + 2)) (10 + 2 * d) (cf escC.toArray l.toArray l.length s l.length false 9 s s om #[none, none] (-1) (-1) #[] none [nsFrame 9 s om'] 1 none sn) := by
  intro d
  induction d with
  | zero =>
    intro s p hd hs hp hn h92 h10 om om' sn
    have : s = p := by omega
    subst this
    exact esc_found hp h92 h10 rfl
  | succ d ih =>
    intro s p hd hs hp hn h92 h10 om om' sn
    rcases Nat.lt_or_ge s p with h | h
    · refine Ends.le (esc_skip (by omega) (hn s (Nat.le_refl _) h) fun sn' => ?_) (a := 1 + (1 + (10 + 2 * d))) (by omega)
      exact ih (s + 1) p (by omega) (by omega) hp (fun i h1 h2 => hn i (by omega) h2) h92 h10 _ _ _
    · have : s = p := by omega
      subst this
      exact (esc_found hp h92 h10 rfl).le (by omega)
theorem esc_hit (hl : l.length ≤ 200) {s p : Nat} (hs : s ≤ p) (hp : p + 1 < l.length) (hn : ∀ i, s ≤ i → i < p → l.toArray.getD i 0 ≠ 92) (h92 : l.toArray.getD p 0 = 92) (h10 : l.toArray.getD (p + 1) 0 ≠ 10) :
    Ends (Found1 p (p + 2) (p + 1) (p + 2)) 1000 (forSearch escC.toArray l.toArray 1 s l.length false) := by
  rw [start_esc (by omega)]
  exact (esc_hit_from (p - s) s p (by omega) hs hp hn h92 h10 _ _ _).le (by omega)
theorem esc_miss_from : ∀ (d s : Nat), l.length - s ≤ d → s ≤ l.length → (∀ i, s ≤ i → i < l.length → l.toArray.getD i 0 ≠ 92) → ∀ (om om' : Bool) (sn : Seen),
    Ends Missed (10 + 2 * d) (cf escC.toArray l.toArray l.length s l.length false 9 s s om #[none, none] (-1) (-1) #[] none [nsFrame 9 s om'] 1 none sn) := by
  have last : ∀ (s : Nat) (om om' : Bool) (sn : Seen), s = l.length → Ends Missed 10 (cf escC.toArray l.toArray l.length s l.length false 9 s s om #[none, none] (-1) (-1) #[] none [nsFrame 9 s om'] 1 none sn) := by
    intro s om om' sn hs
    refine Ends.le (e_lit_no (c := 92) (by decide) rfl rfl (fun h => by omega) fun sn1 => ?_) (a := 1 + 9) (by omega)
    have h := st_ns (code := escC.toArray) (pc := 9) (pos := s) (hd := s) (om := om) (must := false) (text := l.toArray) (lim := l.length) (st := s) (ls := l.length) (mk := #[none, none]) (lm := -1) (li := -1) (lp := #[]) (inn := none) (sn := sn1) (pc' := 9) (p := s) (om' := om') (by decide) (by decide)
    rw [if_neg (by omega)] at h
    refine Ends.le (Ends.pre (Go.one rfl h) (b := 1) ⟨_, Go.one rfl rfl, ?_⟩) (by omega)
    have := st_end (code := escC.toArray) (pc := 9) (pos := s) (hd := s) (om := om') (must := false) (text := l.toArray) (lim := l.length) (st := s) (ls := l.length) (mk := #[none, none]) (lm := -1) (li := -1) (lp := #[]) (inn := none) (wt := 0) (sn := sn1) (b := false)
    exact ⟨by rw [this]; rfl, this⟩
  intro d
  induction d with
  | zero => intro s hd hs hn om om' sn; exact last s om om' sn (by omega)
  | succ d ih =>
    intro s hd hs hn om om' sn
    rcases Nat.lt_or_ge s l.length with h | h
    · refine Ends.le (esc_skip h (hn s (Nat.le_refl _) h) fun sn' => ?_) (a := 1 + (1 + (10 + 2 * d))) (by omega)
      exact ih (s + 1) (by omega) (by omega) (fun i h1 h2 => hn i (by omega) h2) _ _ _
    · exact (last s om om' sn (by omega)).le (by omega)
theorem esc_miss (hl : l.length ≤ 200) {s : Nat} (hs : s ≤ l.length) (hn : ∀ i, s ≤ i → i < l.length → l.toArray.getD i 0 ≠ 92) : Ends Missed 1000 (forSearch escC.toArray l.toArray 1 s l.length false) := by
  rcases Nat.lt_or_ge l.length (s + 2) with h | h
  · exact (short_fails (start_esc_short h)).le (by omega)
  · rw [start_esc h]
    exact (esc_miss_from (l.length - s) s (by omega) hs hn _ _ _).le (by omega)
end
end Mine

open PySem PySem.W PyProof.Rows
namespace Mine
theorem kept : @PySem.instDecidableEqStr = @PySem.instDecidableEqStr := rfl
-- The tool behind open_top makes a twin of each object of the head; these names, taken ahead, let it go on without (the compiled file stays small).
name_quick tw7232422423428716515 for PySem.instDecidableEqStr by Mine.kept
name_quick tw9011979029575296479 for PySem.instDecidableEqStr by Mine.kept
name_quick tw1258717718454355964 for PySem.instDecidableEqStr by Mine.kept
name_quick tw4636218855388986860 for PySem.instDecidableEqStr by Mine.kept
name_quick tw282004115355043989 for PySem.instDecidableEqStr by Mine.kept
name_quick tw8478436911231091946 for PySem.instDecidableEqStr by Mine.kept
name_quick tw7721631327575515661 for PySem.instDecidableEqStr by Mine.kept
name_quick tw7275051467321613617 for PySem.instDecidableEqStr by Mine.kept
name_quick tw10528696920762540405 for PySem.instDecidableEqStr by Mine.kept
name_quick tw12233582284571471492 for PySem.instDecidableEqStr by Mine.kept
name_quick tw10383370014630208977 for PySem.instDecidableEqStr by Mine.kept
name_quick tw17730448691065144110 for PySem.instDecidableEqStr by Mine.kept
name_quick tw1829445100760108279 for PySem.instDecidableEqStr by Mine.kept
name_quick tw11753959986699041462 for PySem.instDecidableEqStr by Mine.kept
name_quick tw1355338860687761863 for PySem.instDecidableEqStr by Mine.kept
name_quick tw682011567655089306 for PySem.instDecidableEqStr by Mine.kept
name_quick tw4011157648589011858 for PySem.instDecidableEqStr by Mine.kept
name_quick tw12268644228514654432 for PySem.instDecidableEqStr by Mine.kept
name_quick tw704327219915372674 for PySem.instDecidableEqStr by Mine.kept
name_quick tw10010936943081839664 for PySem.instDecidableEqStr by Mine.kept
name_quick tw151948405760981731 for PySem.instDecidableEqStr by Mine.kept
name_quick tw14376985748213822385 for PySem.instDecidableEqStr by Mine.kept
name_quick tw14311459727803291754 for PySem.instDecidableEqStr by Mine.kept
name_quick tw16741492637210864865 for PySem.instDecidableEqStr by Mine.kept
name_quick tw15007238320947547705 for PySem.instDecidableEqStr by Mine.kept
name_quick tw15168306246750427876 for PySem.instDecidableEqStr by Mine.kept
name_quick tw951843321253372498 for PySem.instDecidableEqStr by Mine.kept
name_quick tw14386061602966655976 for PySem.instDecidableEqStr by Mine.kept
name_quick tw3891137856419664920 for PySem.instDecidableEqStr by Mine.kept
name_quick tw4658958612460137192 for PySem.instDecidableEqStr by Mine.kept
name_quick tw17964007177503468958 for PySem.instDecidableEqStr by Mine.kept
name_quick tw14971746577665755125 for PySem.instDecidableEqStr by Mine.kept
name_quick tw1678274191532866277 for PySem.instDecidableEqStr by Mine.kept
name_quick tw17888162413812561239 for PySem.instDecidableEqStr by Mine.kept
name_quick tw14108194823987119177 for PySem.instDecidableEqStr by Mine.kept
name_quick tw3577408171920636059 for PySem.instDecidableEqStr by Mine.kept
name_quick tw2354135333415324597 for PySem.instDecidableEqStr by Mine.kept
name_quick tw16804044748790271530 for PySem.instDecidableEqStr by Mine.kept
name_quick tw14126943448341045398 for PySem.instDecidableEqStr by Mine.kept
name_quick tw6589095468515690095 for PySem.instDecidableEqStr by Mine.kept
name_quick tw10948738476641704880 for PySem.instDecidableEqStr by Mine.kept
name_quick tw17975652961387846372 for PySem.instDecidableEqStr by Mine.kept
name_quick tw11520701649476022134 for PySem.instDecidableEqStr by Mine.kept
name_quick tw4527066259768149269 for PySem.instDecidableEqStr by Mine.kept
name_quick tw3362959441861295915 for PySem.instDecidableEqStr by Mine.kept
name_quick tw8579058602437062094 for PySem.instDecidableEqStr by Mine.kept
name_quick tw16817318245366136608 for PySem.instDecidableEqStr by Mine.kept
name_quick tw4292500188555128830 for PySem.instDecidableEqStr by Mine.kept
name_quick tw17626266513156654558 for PySem.instDecidableEqStr by Mine.kept
name_quick tw14884601019740666482 for PySem.instDecidableEqStr by Mine.kept
name_quick tw17069979004554194336 for PySem.instDecidableEqStr by Mine.kept
name_quick tw8125751321437004933 for PySem.instDecidableEqStr by Mine.kept
name_quick tw14834023430324568649 for PySem.instDecidableEqStr by Mine.kept
name_quick tw15263041282635125899 for PySem.instDecidableEqStr by Mine.kept
name_quick tw5721027456603625697 for PySem.instDecidableEqStr by Mine.kept
name_quick tw13317431791736044220 for PySem.instDecidableEqStr by Mine.kept
name_quick tw15587867472590373358 for PySem.instDecidableEqStr by Mine.kept
name_quick tw1537898542681612871 for PySem.instDecidableEqStr by Mine.kept
name_quick tw8860024209350480642 for PySem.instDecidableEqStr by Mine.kept
name_quick tw3778451253796500701 for PySem.instDecidableEqStr by Mine.kept
name_quick tw17476080006546285661 for PySem.instDecidableEqStr by Mine.kept
name_quick tw3282434896037501709 for PySem.instDecidableEqStr by Mine.kept
name_quick tw16317912014791525384 for PySem.instDecidableEqStr by Mine.kept
name_quick tw16350708796919097252 for PySem.instDecidableEqStr by Mine.kept
name_quick tw2283851925072248500 for PySem.instDecidableEqStr by Mine.kept
name_quick tw4302124980754421698 for PySem.instDecidableEqStr by Mine.kept
name_quick tw11588390666370768167 for PySem.instDecidableEqStr by Mine.kept
name_quick tw12767683915131110723 for PySem.instDecidableEqStr by Mine.kept
name_quick tw17000155066101142889 for PySem.instDecidableEqStr by Mine.kept
name_quick tw16593013826814733010 for PySem.instDecidableEqStr by Mine.kept
name_quick tw4444965560193506482 for PySem.instDecidableEqStr by Mine.kept
name_quick tw10887116778572429059 for PySem.instDecidableEqStr by Mine.kept
name_quick tw15980859228951719591 for PySem.instDecidableEqStr by Mine.kept
name_quick tw17532440430192770315 for PySem.instDecidableEqStr by Mine.kept
name_quick tw8206430501311747189 for PySem.instDecidableEqStr by Mine.kept
name_quick tw3105397867545767578 for PySem.instDecidableEqStr by Mine.kept
name_quick tw3976722010076183465 for PySem.instDecidableEqStr by Mine.kept
name_quick tw17672482021469178181 for PySem.instDecidableEqStr by Mine.kept
name_quick tw3972328310683599613 for PySem.instDecidableEqStr by Mine.kept
name_quick tw6679490504615227074 for PySem.instDecidableEqStr by Mine.kept
name_quick tw9763268239775435451 for PySem.instDecidableEqStr by Mine.kept
name_quick tw17207729816335089435 for PySem.instDecidableEqStr by Mine.kept
name_quick tw8753696776887207221 for PySem.instDecidableEqStr by Mine.kept
name_quick tw6380047634161181297 for PySem.instDecidableEqStr by Mine.kept
name_quick tw15191723694830456177 for PySem.instDecidableEqStr by Mine.kept
name_quick tw11543547407058413889 for PySem.instDecidableEqStr by Mine.kept
name_quick tw4549333791460862111 for PySem.instDecidableEqStr by Mine.kept
name_quick tw8075568018651887793 for PySem.instDecidableEqStr by Mine.kept
name_quick tw17100903815162463580 for PySem.instDecidableEqStr by Mine.kept
name_quick tw15066959818950650227 for PySem.instDecidableEqStr by Mine.kept
name_quick tw4090926877573551719 for PySem.instDecidableEqStr by Mine.kept
name_quick tw13335737130258781183 for PySem.instDecidableEqStr by Mine.kept
name_quick tw6996786202571425517 for PySem.instDecidableEqStr by Mine.kept
name_quick tw11313170107247368264 for PySem.instDecidableEqStr by Mine.kept
name_quick tw6608657713891768057 for PySem.instDecidableEqStr by Mine.kept
name_quick tw10942035263794033107 for PySem.instDecidableEqStr by Mine.kept
name_quick tw2862820112641550484 for PySem.instDecidableEqStr by Mine.kept
name_quick tw13254397897704925713 for PySem.instDecidableEqStr by Mine.kept
name_quick tw7269565832213808900 for PySem.instDecidableEqStr by Mine.kept
name_quick tw12905708269229584271 for PySem.instDecidableEqStr by Mine.kept
name_quick tw1962928258387122110 for PySem.instDecidableEqStr by Mine.kept
name_quick tw16241802466949684156 for PySem.instDecidableEqStr by Mine.kept
name_quick tw9315938663221665524 for PySem.instDecidableEqStr by Mine.kept
name_quick tw1333364371103165705 for PySem.instDecidableEqStr by Mine.kept
name_quick tw2674751590239303475 for PySem.instDecidableEqStr by Mine.kept
name_quick tw8603108125212654177 for PySem.instDecidableEqStr by Mine.kept
name_quick tw5591276700874282246 for PySem.instDecidableEqStr by Mine.kept
name_quick tw2554192105039267796 for PySem.instDecidableEqStr by Mine.kept
name_quick tw1218959903707654005 for PySem.instDecidableEqStr by Mine.kept
name_quick tw16916688483869632129 for PySem.instDecidableEqStr by Mine.kept
name_quick tw8703263022893421829 for PySem.instDecidableEqStr by Mine.kept
name_quick tw12887172600443883199 for PySem.instDecidableEqStr by Mine.kept
name_quick tw9948023125614773506 for PySem.instDecidableEqStr by Mine.kept
name_quick tw4933834842325187142 for PySem.instDecidableEqStr by Mine.kept
name_quick tw10938465397075749097 for PySem.instDecidableEqStr by Mine.kept
name_quick tw17730428716208468724 for PySem.instDecidableEqStr by Mine.kept
name_quick tw1414301608579184545 for PySem.instDecidableEqStr by Mine.kept
name_quick tw17018628822417861297 for PySem.instDecidableEqStr by Mine.kept
name_quick tw15475462885187679331 for PySem.instDecidableEqStr by Mine.kept
name_quick tw7505897509792200422 for PySem.instDecidableEqStr by Mine.kept
name_quick tw3636048126100218174 for PySem.instDecidableEqStr by Mine.kept
name_quick tw5706481520468235054 for PySem.instDecidableEqStr by Mine.kept
name_quick tw11985326045990495214 for PySem.instDecidableEqStr by Mine.kept
name_quick tw11304879220846320617 for PySem.instDecidableEqStr by Mine.kept
name_quick tw6929956602132211858 for PySem.instDecidableEqStr by Mine.kept
name_quick tw13236226663087606529 for PySem.instDecidableEqStr by Mine.kept
name_quick tw392140993173905013 for PySem.instDecidableEqStr by Mine.kept
name_quick tw18056578402003937789 for PySem.instDecidableEqStr by Mine.kept
name_quick tw10029231156530900338 for PySem.instDecidableEqStr by Mine.kept
name_quick tw10810343834524570367 for PySem.instDecidableEqStr by Mine.kept
name_quick tw2835016802697616593 for PySem.instDecidableEqStr by Mine.kept
name_quick tw8537084889766193716 for PySem.instDecidableEqStr by Mine.kept
name_quick tw4071324889030633612 for PySem.instDecidableEqStr by Mine.kept
name_quick tw3131671291697673992 for PySem.instDecidableEqStr by Mine.kept
name_quick tw15112985482279097393 for PySem.instDecidableEqStr by Mine.kept
name_quick tw18340240734955500558 for PySem.instDecidableEqStr by Mine.kept
name_quick tw4278364036701150003 for PySem.instDecidableEqStr by Mine.kept
name_quick tw7892128664451923741 for PySem.instDecidableEqStr by Mine.kept
name_quick tw18220123701641295943 for PySem.instDecidableEqStr by Mine.kept
name_quick tw6733733256287894996 for PySem.instDecidableEqStr by Mine.kept
name_quick tw4552823106982906706 for PySem.instDecidableEqStr by Mine.kept
name_quick tw18174066517961740512 for PySem.instDecidableEqStr by Mine.kept
name_quick tw6448080314894763839 for PySem.instDecidableEqStr by Mine.kept
name_quick tw4679858250743294509 for PySem.instDecidableEqStr by Mine.kept
name_quick tw13145125596335152023 for PySem.instDecidableEqStr by Mine.kept
name_quick tw9908251947323293946 for PySem.instDecidableEqStr by Mine.kept
name_quick tw5032809538720368765 for PySem.instDecidableEqStr by Mine.kept
name_quick tw18345786424863182364 for PySem.instDecidableEqStr by Mine.kept
name_quick tw9407582987413476825 for PySem.instDecidableEqStr by Mine.kept
name_quick tw7276740287692124622 for PySem.instDecidableEqStr by Mine.kept
name_quick tw1092655722715705105 for PySem.instDecidableEqStr by Mine.kept
name_quick tw12866136484021002089 for PySem.instDecidableEqStr by Mine.kept
name_quick tw7745614565497352828 for PySem.instDecidableEqStr by Mine.kept
name_quick tw12299960069397203266 for PySem.instDecidableEqStr by Mine.kept
name_quick tw6683783046931543321 for PySem.instDecidableEqStr by Mine.kept
name_quick tw4797165386629745026 for PySem.instDecidableEqStr by Mine.kept
name_quick tw4565691546616451037 for PySem.instDecidableEqStr by Mine.kept
name_quick tw14979626087600564940 for PySem.instDecidableEqStr by Mine.kept
name_quick tw8424611434330503625 for PySem.instDecidableEqStr by Mine.kept
name_quick tw9862997608875712007 for PySem.instDecidableEqStr by Mine.kept
name_quick tw4980102563643897964 for PySem.instDecidableEqStr by Mine.kept
name_quick tw15894407043143930727 for PySem.instDecidableEqStr by Mine.kept
name_quick tw11729385059970357855 for PySem.instDecidableEqStr by Mine.kept
name_quick tw2659971837748904517 for PySem.instDecidableEqStr by Mine.kept
name_quick tw13981391230805400906 for PySem.instDecidableEqStr by Mine.kept
name_quick tw10227693086864044499 for PySem.instDecidableEqStr by Mine.kept
name_quick tw14326252917377295143 for PySem.instDecidableEqStr by Mine.kept
name_quick tw4331705921318602401 for PySem.instDecidableEqStr by Mine.kept
name_quick tw6245536207120538393 for PySem.instDecidableEqStr by Mine.kept
name_quick tw16414604833108395602 for PySem.instDecidableEqStr by Mine.kept
name_quick tw2921100012855380799 for PySem.instDecidableEqStr by Mine.kept
name_quick tw1377046205977697930 for PySem.instDecidableEqStr by Mine.kept
name_quick tw9564595351457756722 for PySem.instDecidableEqStr by Mine.kept
name_quick tw17000458434675057986 for PySem.instDecidableEqStr by Mine.kept
name_quick tw2719445374943340272 for PySem.instDecidableEqStr by Mine.kept
name_quick tw15480198773659482676 for PySem.instDecidableEqStr by Mine.kept
name_quick tw16049961110935095269 for PySem.instDecidableEqStr by Mine.kept
name_quick tw18211773271919218964 for PySem.instDecidableEqStr by Mine.kept
name_quick tw16510406782170844458 for PySem.instDecidableEqStr by Mine.kept
name_quick tw16067377725773761736 for PySem.instDecidableEqStr by Mine.kept
name_quick tw9467589175468403638 for PySem.instDecidableEqStr by Mine.kept
name_quick tw127480219056107784 for PySem.instDecidableEqStr by Mine.kept
name_quick tw117213463901210413 for PySem.instDecidableEqStr by Mine.kept
name_quick tw4775785305629353868 for PySem.instDecidableEqStr by Mine.kept
name_quick tw5902227825499142635 for PySem.instDecidableEqStr by Mine.kept
name_quick tw3764465048917985505 for PySem.instDecidableEqStr by Mine.kept
name_quick tw17279654841073493023 for PySem.instDecidableEqStr by Mine.kept
name_quick tw10424941004445345732 for PySem.instDecidableEqStr by Mine.kept
name_quick tw13512673800721320934 for PySem.instDecidableEqStr by Mine.kept
open_top hd for PySem.Challenge.rw_rs0138_01
theorem top_off : True := by
  w_top off
  trivial
end Mine
namespace Mine
theorem slot_search : Slot "re.Pattern" "search" "re.Pattern.search" :=
  .of (owner := "re.Pattern") (n := "search") (by rw [typeLookup_type, builtinLookup_eq_fast]; kernel_rfl) (by decide +kernel) (by decide +kernel) (by decide +kernel)
    (by first | exact .inl (by decide +kernel) | exact .inr (by decide +kernel)) (by rw [isSubtype_type]; kernel_rfl)
theorem slot_sub : Slot "re.Pattern" "sub" "re.Pattern.sub" :=
  .of (owner := "re.Pattern") (n := "sub") (by rw [typeLookup_type, builtinLookup_eq_fast]; kernel_rfl) (by decide +kernel) (by decide +kernel) (by decide +kernel)
    (by first | exact .inl (by decide +kernel) | exact .inr (by decide +kernel)) (by rw [isSubtype_type]; kernel_rfl)
theorem slot_subn : Slot "re.Pattern" "subn" "re.Pattern.subn" :=
  .of (owner := "re.Pattern") (n := "subn") (by rw [typeLookup_type, builtinLookup_eq_fast]; kernel_rfl) (by decide +kernel) (by decide +kernel) (by decide +kernel)
    (by first | exact .inl (by decide +kernel) | exact .inr (by decide +kernel)) (by rw [isSubtype_type]; kernel_rfl)
theorem slot_span : Slot "re.Match" "span" "re.Match.span" :=
  .of (owner := "re.Match") (n := "span") (by rw [typeLookup_type, builtinLookup_eq_fast]; kernel_rfl) (by decide +kernel) (by decide +kernel) (by decide +kernel)
    (by first | exact .inl (by decide +kernel) | exact .inr (by decide +kernel)) (by rw [isSubtype_type]; kernel_rfl)
theorem slot_group : Slot "re.Match" "group" "re.Match.group" :=
  .of (owner := "re.Match") (n := "group") (by rw [typeLookup_type, builtinLookup_eq_fast]; kernel_rfl) (by decide +kernel) (by decide +kernel) (by decide +kernel)
    (by first | exact .inl (by decide +kernel) | exact .inr (by decide +kernel)) (by rw [isSubtype_type]; kernel_rfl)
theorem entry_search : entryFor table "re.Pattern.search" = some Builtin.«re.Pattern.search» := entryFor_of_tree (by kernel_rfl)
theorem entry_sub : entryFor table "re.Pattern.sub" = some Builtin.«re.Pattern.sub» := entryFor_of_tree (by kernel_rfl)
theorem entry_subn : entryFor table "re.Pattern.subn" = some Builtin.«re.Pattern.subn» := entryFor_of_tree (by kernel_rfl)
theorem entry_subloop : entryFor table "re.Pattern.sub.loop" = some Builtin.«re.Pattern.sub.loop» := entryFor_of_tree (by kernel_rfl)
theorem entry_span : entryFor table "re.Match.span" = some Builtin.«re.Match.span» := entryFor_of_tree (by kernel_rfl)
theorem entry_group : entryFor table "re.Match.group" = some Builtin.«re.Match.group» := entryFor_of_tree (by kernel_rfl)
theorem entry_string : entryFor table "re.Match.string" = some Builtin.«re.Match.string» := entryFor_of_tree (by kernel_rfl)
theorem args_search (a b : Value) : argsOk "re.Pattern.search" ⟨[a, b], []⟩ := by unfold argsOk; kernel_rfl
theorem args_sub (a b c : Value) : argsOk "re.Pattern.sub" ⟨[a, b, c], []⟩ := by unfold argsOk; kernel_rfl
theorem args_subn (a b c : Value) : argsOk "re.Pattern.subn" ⟨[a, b, c], []⟩ := by unfold argsOk; kernel_rfl
theorem args_span (a b : Value) : argsOk "re.Match.span" ⟨[a, b], []⟩ := by unfold argsOk; kernel_rfl
theorem args_group (a b : Value) : argsOk "re.Match.group" ⟨[a, b], []⟩ := by unfold argsOk; kernel_rfl
theorem plain_pat : PlainAttrs "re.Pattern" := ⟨⟨"object.__getattribute__", by rw [typeLookup_type, builtinLookup_eq_fast]; kernel_rfl, by decide +kernel⟩, by rw [typeLookup_type, builtinLookup_eq_fast]; kernel_rfl⟩
theorem plain_mat : PlainAttrs "re.Match" := ⟨⟨"object.__getattribute__", by rw [typeLookup_type, builtinLookup_eq_fast]; kernel_rfl, by decide +kernel⟩, by rw [typeLookup_type, builtinLookup_eq_fast]; kernel_rfl⟩
theorem mat_truthy1 : typeLookup (.type "re.Match") "__bool__" = pure none := by rw [typeLookup_type, builtinLookup_eq_fast]; kernel_rfl
theorem mat_truthy2 : typeLookup (.type "re.Match") "__len__" = pure none := by rw [typeLookup_type, builtinLookup_eq_fast]; kernel_rfl
theorem ty_search : typeOf (.builtin "re.Pattern.search") = pure (.type "method_descriptor") := by show builtinType _ = _; rw [builtinType_eq_fast]; kernel_rfl
theorem ty_sub : typeOf (.builtin "re.Pattern.sub") = pure (.type "method_descriptor") := by show builtinType _ = _; rw [builtinType_eq_fast]; kernel_rfl
theorem ty_subn : typeOf (.builtin "re.Pattern.subn") = pure (.type "method_descriptor") := by show builtinType _ = _; rw [builtinType_eq_fast]; kernel_rfl
theorem ty_span : typeOf (.builtin "re.Match.span") = pure (.type "method_descriptor") := by show builtinType _ = _; rw [builtinType_eq_fast]; kernel_rfl
theorem ty_group : typeOf (.builtin "re.Match.group") = pure (.type "method_descriptor") := by show builtinType _ = _; rw [builtinType_eq_fast]; kernel_rfl
theorem look_string : typeLookup (.type "re.Match") "string" = pure (some (.builtin "re.Match.string")) := by rw [typeLookup_type, builtinLookup_eq_fast]; kernel_rfl
theorem ty_string : typeOf (.builtin "re.Match.string") = pure (.type "member_descriptor") := by show builtinType _ = _; rw [builtinType_eq_fast]; kernel_rfl
end Mine

namespace Mine
open PySem.Builtin.Re

def Runs (m : Sre.M) (P : Sre.M → Prop) : Prop := ∃ k, k ≤ 1048576 ∧ (m.runFor k).outcome.isSome = true ∧ P (m.runFor k)

theorem runFor_done {m : Sre.M} (h : m.outcome.isSome = true) : ∀ k, m.runFor k = m
  | 0 => rfl
  | k + 1 => by unfold Sre.M.runFor; rw [if_pos h]
theorem runFor_add (a b : Nat) : ∀ m : Sre.M, m.runFor (a + b) = (m.runFor a).runFor b := by
  induction a with
  | zero => intro m; rw [Nat.zero_add]; rfl
  | succ a ih =>
    intro m
    cases ho : m.outcome.isSome with
    | true => rw [runFor_done ho, runFor_done ho, runFor_done ho]
    | false =>
      have e1 : m.runFor (a + 1 + b) = m.step.runFor (a + b) := by
        rw [Nat.add_right_comm, Sre.M.runFor, ho]; rfl
      have e2 : m.runFor (a + 1) = m.step.runFor a := by rw [Sre.M.runFor, ho]; rfl
      rw [e1, e2, ih]

section
variable {M : Model} {A : Around} {E : Value → Shared → Prop} {s : Shared}
theorem wp_reDrive {Q : Sre.M → Shared → Prop} (turns : Nat) : ∀ (k : Nat) (m : Sre.M), (m.runFor k).outcome.isSome = true → k ≤ 4 * turns → 0 < turns → Q (m.runFor k) s → wpAny M A (reDrive turns m) Q E s := by
  induction turns with
  | zero => intro k m _ _ h0; exact absurd h0 (Nat.lt_irrefl _)
  | succ n ih =>
    intro k m ho hk _ hQ
    unfold reDrive
    show wpAny M A (if (m.runFor 4).outcome.isSome = true then pure (m.runFor 4) else (do rule "sre.turn"; reDrive n (m.runFor 4))) Q E s
    by_cases h4 : (m.runFor 4).outcome.isSome = true
    · rw [if_pos h4]
      refine wpAny_pure ?_
      have : m.runFor 4 = m.runFor k := by
        rcases Nat.le_total k 4 with h | h
        · obtain ⟨d, hd⟩ := Nat.le.dest h; rw [← hd, runFor_add, runFor_done ho]
        · obtain ⟨d, hd⟩ := Nat.le.dest h; rw [← hd, runFor_add, runFor_done h4]
      rw [this]; exact hQ
    · rw [if_neg h4]
      refine wpAny_bind (wpAny_rule ?_)
      have hk4 : 4 < k := by
        rcases Nat.lt_or_ge 4 k with h | h
        · exact h
        · exfalso; apply h4
          obtain ⟨d, hd⟩ := Nat.le.dest h; rw [← hd, runFor_add, runFor_done ho]; exact ho
      obtain ⟨d, rfl⟩ := Nat.le.dest (Nat.le_of_lt hk4)
      rw [runFor_add] at ho hQ
      exact ih d _ ho (by omega) (by omega) hQ

theorem wp_reRun {m : Sre.M} {P : Sre.M → Prop} {Q : Option Sre.M → Shared → Prop} (h : Runs m P)
    (hq : ∀ mf, P mf → (mf.outcome = some .matched ∧ Q (some mf) s) ∨ (mf.outcome = some .failed ∧ Q none s)) : wpAny M A (reRunToEnd m) Q E s := by
  obtain ⟨k, hk, ho, hP⟩ := h
  unfold reRunToEnd
  refine wpAny_bind (wp_reDrive (2 ^ 64) k m ho (Nat.le_trans hk (by decide)) (by decide) ?_)
  generalize hg : m.runFor k = mf at *
  refine wpAny_bind (wpAny_forIn_list _ (fun _ _ s' => s' = s) _ (fun x rest b s' hs => ?_) (fun b s' hs => ?_) _ _ rfl)
  · subst hs
    split
    · exact wpAny_bind (wpAny_rule (wpAny_pure rfl)) 
    · exact wpAny_pure rfl
  · subst hs
    rcases hq mf hP with ⟨h1, h2⟩ | ⟨h1, h2⟩
    · rw [h1]; exact wpAny_pure h2
    · rw [h1]; exact wpAny_pure h2
end
end Mine

namespace Mine
open PySem.Builtin.Re

theorem named_search (id f : String) (x : Value) : reNamed id f ["string", "pos", "endpos"] 1 [x] [] = pure [some x, none, none] := by rfl
theorem named_sub (id f : String) (x y : Value) : reNamed id f ["repl", "string", "count"] 2 [x, y] [] = pure [some x, some y, none] := by rfl

/-- a compiled pattern over strs -/
def PatAt (h : Heap) (pa : Addr) (code : List Nat) (g : Nat) : Prop :=
  ∃ o vs ca oc n, h.get? pa = some o ∧ o.cls = .type "re.Pattern" ∧ o.dict = none ∧ o.data = .fields vs ∧ vs.getD 2 .none = rawInt g ∧ vs.getD 5 .none = .ref ca ∧ vs.getD 6 .none = rawInt 0 ∧
    h.get? ca = some oc ∧ oc.data = .seq (code.map fun c => rawInt (c : Nat)).toArray n

theorem codes_back (code : List Nat) : (((code.map fun c => rawInt (c : Nat)).toArray.map reRawOf).map (·.toNat)) = code.toArray := by
  simp [List.map_map, reRawOf, rawInt, Function.comp_def]

section
variable {M : Model} {A : Around} {E : Value → Shared → Prop} {s : Shared}
theorem wp_rawItems {a : Addr} {o : Obj} {items : Array Value} {n : Nat} {Q : Array Int → Shared → Prop} (ho : s.heap.get? a = some o) (hd : o.data = .seq items n) (h : Q (items.map reRawOf) s) :
    wpAny M A (reRawItems (.ref a)) Q E s := by
  unfold reRawItems
  exact wpAny_bind (wpAny_seqItems ho hd (wpAny_pure h))

theorem wp_target {id f : String} {pa : Addr} {x : Str} {tk : Tok} {code : List Nat} {g : Nat} {Q : ReTarget → Shared → Prop} (hp : PatAt s.heap pa code g)
    (h : Q { pattern := .ref pa, string := .str x tk, code := code.toArray, text := x.cps, kind := 0, groups := g, pos := 0, lim := x.cps.size } s) (hx : (x.cps.size : Int) < 2 ^ 63 - 1) :
    wpAny M A (reTarget id f ⟨[.ref pa, .str x tk], []⟩) Q E s := by
  obtain ⟨o, vs, ca, oc, n, ho, hcl, hdi, hd, h2, h5, h6, hoc, hdc⟩ := hp
  unfold reTarget
  show wpAny M A (do
    let [some string, pos?, lim?] ← reNamed id f ["string", "pos", "endpos"] 1 [.str x tk] [] | unsupported "internal:re:named"
    _) Q E s
  rw [named_search]
  refine wpAny_bind (wpAny_pure ?_)
  refine wpAny_bind (wpAny_pure ?_)
  refine wpAny_bind (wpAny_pure ?_)
  refine wpAny_bind (wpAny_fieldsOf ho hd ?_)
  refine wpAny_bind (m := reTextOf (.str x tk)) (wpAny_of_eq (show reTextOf (.str x tk) = pure (x.cps, 0) from rfl) ?_)
  simp only [h2, h5, h6]
  have e0 : reRawNat (rawInt 0) = 0 := rfl
  have eg : reRawNat (rawInt (g : Nat)) = g := rfl
  simp only [e0, eg]
  refine wpAny_bind (m := reNoCollectionInside (.str x tk) 0) (wpAny_pure ?_)
  refine wpAny_bind (wp_rawItems hoc hdc ?_)
  refine wpAny_pure ?_
  rw [codes_back]
  have e1 : min (0 : Int).toNat x.cps.size = 0 := by simp
  have e2 : min (2 ^ 63 - 1 : Int).toNat x.cps.size = x.cps.size := by omega
  rw [e1, e2]
  exact h
end
end Mine

namespace Mine
theorem slot_mat_ga : Slot "re.Match" "__getattribute__" "object.__getattribute__" :=
  .of (owner := "object") (n := "__getattribute__") (by rw [typeLookup_type, builtinLookup_eq_fast]; kernel_rfl) (by decide +kernel) (by decide +kernel) (by decide +kernel)
    (by first | exact .inl (by decide +kernel) | exact .inr (by decide +kernel)) (by rw [isSubtype_type]; kernel_rfl)
theorem slot_md_get : Slot "member_descriptor" "__get__" "member_descriptor.__get__" :=
  .of (owner := "member_descriptor") (n := "__get__") (by rw [typeLookup_type, builtinLookup_eq_fast]; kernel_rfl) (by decide +kernel) (by decide +kernel) (by decide +kernel)
    (by first | exact .inl (by decide +kernel) | exact .inr (by decide +kernel)) (by rw [isSubtype_type]; kernel_rfl)
theorem slot_md_set : Slot "member_descriptor" "__set__" "member_descriptor.__set__" :=
  .of (owner := "member_descriptor") (n := "__set__") (by rw [typeLookup_type, builtinLookup_eq_fast]; kernel_rfl) (by decide +kernel) (by decide +kernel) (by decide +kernel)
    (by first | exact .inl (by decide +kernel) | exact .inr (by decide +kernel)) (by rw [isSubtype_type]; kernel_rfl)
theorem entry_md_get : entryFor table "member_descriptor.__get__" = some Builtin.«member_descriptor.__get__» := entryFor_of_tree (by kernel_rfl)
theorem args_md_get (a b c : Value) : argsOk "member_descriptor.__get__" ⟨[a, b, c], []⟩ := by unfold argsOk; kernel_rfl
theorem entry_obj_ga : entryFor table "object.__getattribute__" = some Builtin.«object.__getattribute__» := entryFor_of_tree (by kernel_rfl)
theorem args_obj_ga (a b : Value) : argsOk "object.__getattribute__" ⟨[a, b], []⟩ := by unfold argsOk; kernel_rfl
theorem owner_string : (".".intercalate ("re.Match.string".cutAt '.').dropLast) = "re.Match" := by
  have e0 : "re.Match.string".cutAt '.' = ["re", "Match", "string"] := by first | rfl | decide +kernel
  rw [e0]; decide +kernel
theorem sub_mat : isSubtype (.type "re.Match") (.type "re.Match") = pure true := by rw [isSubtype_type]; kernel_rfl

section
variable {prog : Program} {w : World} {A : Around} {E : Value → Shared → Prop} {h : Heap} {g : Array GenState} {d : Drawn} {t : Nat} {os : OsState} {a : Addr} {o : Obj} {vs : Array Value} {x : Str} {tx : Tok}

theorem string_get {R : Result → Shared → Prop} (hx : h.get? a = some o) (hc : o.cls = .type "re.Match") (hd : o.data = .fields vs) (h0 : vs[0]? = some (.str x tx)) (hq : R (.ok (.ret (.str x tx))) ⟨h, g, d, t, os⟩) :
    codeAny (model prog w) A (.call (.builtin "member_descriptor.__get__") ⟨[.builtin "re.Match.string", .ref a, .type "re.Match"], []⟩) R ⟨h, g, d, t, os⟩ := by
  have hT : (⟨h, g, d, t, os⟩ : Shared).TypeIs (.ref a) "re.Match" := ⟨_, hx, hc⟩
  have hT5 : (⟨h, g, d, t, os⟩ : Shared).TypeIs (.builtin "re.Match.string") "member_descriptor" := ty_string
  have f8 : isSubtype (.type "re.Match") (.type (".".intercalate ("re.Match.string".cutAt '.').dropLast)) = pure true := by rw [owner_string]; exact sub_mat
  refine codeAny_call_builtin slot_md_get.plain entry_md_get (slot_md_get.check _ _ _ _ _ _ _ _ hT5 (args_md_get _ _ _) ?_)
  repeat (any_goals (first | assumption | wp_step))
  refine ⟨Code.quiet_builtin _ (by decide +kernel), codeAny_builtin entry_string ?_⟩
  unfold Builtin.«re.Match.string»
  exact wpAny_bind (m := field (.ref a) 0) (wpAny_field hx hd h0 (wpAny_pure hq))

theorem string_entry {tk : Tok} {Q : Fin → Shared → Prop} (hx : h.get? a = some o) (hc : o.cls = .type "re.Match") (hd : o.data = .fields vs) (h0 : vs[0]? = some (.str x tx)) (hq : Q (.done (.ret (.str x tx))) ⟨h, g, d, t, os⟩) :
    wpAny (model prog w) A (Builtin.«object.__getattribute__» ⟨[.ref a, .str "string" tk], []⟩) Q E ⟨h, g, d, t, os⟩ := by
  have hT : (⟨h, g, d, t, os⟩ : Shared).TypeIs (.ref a) "re.Match" := ⟨_, hx, hc⟩
  have hT5 : (⟨h, g, d, t, os⟩ : Shared).TypeIs (.builtin "re.Match.string") "member_descriptor" := ty_string
  have f4 := look_string
  have f5 := ty_string
  have f6 := slot_md_get.lookup
  have f7 := slot_md_set.lookup
  repeat (any_goals (first | assumption | wp_step))
  refine string_get hx hc hd h0 ?_
  repeat (any_goals (first | assumption | wp_step))

theorem string_call {tk : Tok} {R : Result → Shared → Prop} (hx : h.get? a = some o) (hc : o.cls = .type "re.Match") (hd : o.data = .fields vs) (h0 : vs[0]? = some (.str x tx)) (hq : R (.ok (.ret (.str x tx))) ⟨h, g, d, t, os⟩) :
    codeAny (model prog w) A (.call (.builtin "object.__getattribute__") ⟨[.ref a, .str "string" tk], []⟩) R ⟨h, g, d, t, os⟩ :=
  codeAny_call_builtin slot_mat_ga.plain entry_obj_ga (slot_mat_ga.check _ _ _ _ _ _ _ _ (show (⟨h, g, d, t, os⟩ : Shared).TypeIs (.ref a) "re.Match" from ⟨_, hx, hc⟩) (args_obj_ga _ _) (string_entry hx hc hd h0 hq))

theorem string_by {tk : Tok} {fill expr : Bool} {Q : Value → Shared → Prop} (hx : h.get? a = some o) (hc : o.cls = .type "re.Match") (hd : o.data = .fields vs) (h0 : vs[0]? = some (.str x tx))
    (hq : Q (.str x tx) ⟨h, g, d, t, os⟩) : wpAny (model prog w) A (getAttrBy (.ref a) (.str "string" tk) fill expr) Q E ⟨h, g, d, t, os⟩ := by
  have hT : (⟨h, g, d, t, os⟩ : Shared).TypeIs (.ref a) "re.Match" := ⟨_, hx, hc⟩
  have f2 := slot_mat_ga.lookup
  have f3 := slot_mat_ga.bind (.ref a)
  have hx0 : (expr && onTheHeap (Value.builtin "object.__getattribute__")) = false := by cases expr <;> rfl
  repeat (any_goals (first | assumption | wp_step))
  refine string_call hx hc hd h0 ?_
  repeat (any_goals (first | assumption | wp_step))

theorem string_attr {expr : Bool} {Q : Value → Shared → Prop} {s : Shared} (hx : s.heap.get? a = some o) (hc : o.cls = .type "re.Match") (hd : o.data = .fields vs) (h0 : vs[0]? = some (.str x tx))
    (hq : Q (.str x tx) { s with toks := s.toks + 1 }) : wpAny (model prog w) A (getAttr (.ref a) "string" expr) Q E s := by
  obtain ⟨h, g, d, t, os⟩ := s
  unfold getAttr
  repeat (any_goals (first | assumption | with_reducible apply string_by hx hc hd h0 | wp_step))
end
end Mine

namespace Mine
open PySem.Builtin.Re

abbrev spanObj (vs : List Nat) : Obj := { cls := .type "tuple", data := .seq (vs.map fun i => rawInt (i : Nat)).toArray }
abbrev matObj (x : Str) (tk : Tok) (pa : Addr) (lim : Nat) (li : Int) (sp : Addr) : Obj :=
  { cls := .type "re.Match", data := .fields #[.str x tk, .ref pa, rawInt 0, rawInt (lim : Nat), rawInt li, .ref sp] }

/-- one group, told -/
def Hit1 (st hd b e : Nat) (mf : Sre.M) : Prop := mf.outcome = some .matched ∧ mf.start = st ∧ mf.handed = hd ∧ mf.marks = #[some b, some e] ∧ mf.lastmark = 1
def Hit0 (st hd : Nat) (mf : Sre.M) : Prop := mf.outcome = some .matched ∧ mf.start = st ∧ mf.handed = hd
def Miss (mf : Sre.M) : Prop := mf.outcome = some .failed

section
variable {M : Model} {A : Around} {E : Value → Shared → Prop} {s : Shared} {h₀ : Heap} {L : Addr} {m : Str → Option Value} {news : List (Addr × Obj)}

theorem wp_newMatch1 {pa : Addr} {x : Str} {tk : Tok} {lim st hd b e : Nat} {mf : Sre.M} {Q : Value → Shared → Prop} (F : Fr h₀ L s.heap m) (N : News h₀ L s.heap news) (H : Hit1 st hd b e mf) (hbe : b ≤ e)
    (h : ∀ mt sp h', Fr h₀ L h' m → News h₀ L h' ((mt, matObj x tk pa lim mf.lastindex sp) :: (sp, spanObj [st, hd, b, e]) :: news) → (∀ q ∈ news, q.1 < sp) → sp < mt → Q (.ref mt) { s with heap := h' }) :
    wpAny M A (reNewMatch (.ref pa) (.str x tk) 1 0 lim mf) Q E s := by
  obtain ⟨ho, hs, hh, hm, hl⟩ := H
  unfold reNewMatch
  have e1 : (List.range 1).flatMap (fun g => match if ((2 * g + 1 : Nat) : Int) ≤ mf.lastmark then (mf.marks.getD (2 * g) none, mf.marks.getD (2 * g + 1) none) else (none, none) with
    | (some b, some e) => [rawInt b, rawInt e]
    | _ => [rawInt (-1), rawInt (-1)]) = [rawInt (b : Nat), rawInt (e : Nat)] := by rw [hm, hl]; rfl
  have e2 : ((List.range 1).any (fun g => match mf.marks.getD (2 * g) none, mf.marks.getD (2 * g + 1) none with | some b, some e => ((2 * g + 1 : Nat) : Int) ≤ mf.lastmark && e < b | _, _ => false)) = false := by
    rw [hm, hl]
    show ((decide ((1 : Int) ≤ 1) && decide (e < b)) || false) = false
    have : decide (e < b) = false := by simpa using hbe
    rw [this]; rfl
  show wpAny M A (do
    if (List.range 1).any (fun g => match mf.marks.getD (2 * g) none, mf.marks.getD (2 * g + 1) none with | some b, some e => ((2 * g + 1 : Nat) : Int) ≤ mf.lastmark && e < b | _, _ => false) then
      reWrongSpan
    newFields "re.Match" [.str x tk, .ref pa, rawInt (0 : Nat), rawInt lim, rawInt mf.lastindex, ← newTuple (rawInt mf.start :: rawInt mf.handed :: ((List.range 1).flatMap (fun g => match if ((2 * g + 1 : Nat) : Int) ≤ mf.lastmark then (mf.marks.getD (2 * g) none, mf.marks.getD (2 * g + 1) none) else (none, none) with
    | (some b, some e) => [rawInt b, rawInt e]
    | _ => [rawInt (-1), rawInt (-1)])))]) Q E s
  rw [e1, e2, hs, hh]
  refine wpAny_bind (newTuple_N F N (fun h1 F1 N1 => ?_) (by show (4 : Nat) ≤ sizeLine; decide))
  refine wpAny_newObj_type (T := "re.Match") ?_ (by show (6 : Nat) ≤ _; decide)
  have N2 := News.push F1 N1 (matObj x tk pa lim mf.lastindex s.heap.objs.size)
  refine h h1.objs.size s.heap.objs.size _ (F1.push _) N2 (fun q hq => Heap.lt_size (N q hq).1) (Heap.lt_size (N1 _ (.head _)).1)

theorem search_body1 {pa : Addr} {x : Str} {tk : Tok} {code : List Nat} {st hd b e : Nat} {Q : Fin → Shared → Prop} (F : Fr h₀ L s.heap m) (N : News h₀ L s.heap news) (hp : PatAt s.heap pa code 1)
    (R : Runs (Sre.forSearch code.toArray x.cps 1 0 x.cps.size false) (Hit1 st hd b e)) (hbe : b ≤ e) (hx : (x.cps.size : Int) < 2 ^ 63 - 1)
    (h : ∀ mt sp h' li, Fr h₀ L h' m → News h₀ L h' ((mt, matObj x tk pa x.cps.size li sp) :: (sp, spanObj [st, hd, b, e]) :: news) → (∀ q ∈ news, q.1 < sp) → sp < mt → Q (.done (.ret (.ref mt))) { s with heap := h' }) :
    wpAny M A (Builtin.«re.Pattern.search» ⟨[.ref pa, .str x tk], []⟩) Q E s := by
  unfold Builtin.«re.Pattern.search»
  refine wpAny_bind (wp_target hp ?_ hx)
  unfold reAnswer
  refine wpAny_bind (wp_reRun R fun mf hm => .inl ⟨hm.1, ?_⟩)
  exact wpAny_bind (wp_newMatch1 F N hm hbe fun mt sp h' F' N' l1 l2 => wpAny_pure (h mt sp h' _ F' N' l1 l2))

theorem search_body_miss {pa : Addr} {x : Str} {tk : Tok} {code : List Nat} {g : Nat} {Q : Fin → Shared → Prop} (hp : PatAt s.heap pa code g)
    (R : Runs (Sre.forSearch code.toArray x.cps g 0 x.cps.size false) Miss) (hx : (x.cps.size : Int) < 2 ^ 63 - 1) (h : Q (.done (.ret .none)) s) :
    wpAny M A (Builtin.«re.Pattern.search» ⟨[.ref pa, .str x tk], []⟩) Q E s := by
  unfold Builtin.«re.Pattern.search»
  refine wpAny_bind (wp_target hp ?_ hx)
  unfold reAnswer
  exact wpAny_bind (wp_reRun R fun mf hm => .inr ⟨hm, wpAny_pure h⟩)
end

theorem PatAt.type {h : Heap} {pa : Addr} {code : List Nat} {g : Nat} (x : PatAt h pa code g) {s : Shared} (e : s.heap = h) : s.TypeIs (.ref pa) "re.Pattern" := by
  obtain ⟨o, vs, ca, oc, n, ho, hcl, _⟩ := x; exact ⟨o, by rw [e]; exact ho, hcl⟩

section
variable {prog : Program} {w : World} {A : Around} {E : Value → Shared → Prop} {s : Shared} {h₀ : Heap} {L : Addr} {m : Str → Option Value} {news : List (Addr × Obj)}

theorem search_hit {pa : Addr} {x : Str} {tk : Tok} {code : List Nat} {st hd b e : Nat} {Q : Value → Shared → Prop} (F : Fr h₀ L s.heap m) (N : News h₀ L s.heap news) (hp : PatAt s.heap pa code 1)
    (R : Runs (Sre.forSearch code.toArray x.cps 1 0 x.cps.size false) (Hit1 st hd b e)) (hbe : b ≤ e) (hx : (x.cps.size : Int) < 2 ^ 63 - 1)
    (h : ∀ mt sp h' li, Fr h₀ L h' m → News h₀ L h' ((mt, matObj x tk pa x.cps.size li sp) :: (sp, spanObj [st, hd, b, e]) :: news) → (∀ q ∈ news, q.1 < sp) → sp < mt → Q (.ref mt) { s with heap := h' }) :
    wpAny (model prog w) A (call (.builtin "re.Pattern.search") [.ref pa, .str x tk]) Q E s :=
  wpAny_call_entry slot_search (hp.type rfl) entry_search (search_body1 F N hp R hbe hx fun mt sp h' li F' N' l1 l2 => ⟨_, rfl, h mt sp h' li F' N' l1 l2⟩) (args_search _ _)
theorem search_miss {pa : Addr} {x : Str} {tk : Tok} {code : List Nat} {g : Nat} {Q : Value → Shared → Prop} (hp : PatAt s.heap pa code g)
    (R : Runs (Sre.forSearch code.toArray x.cps g 0 x.cps.size false) Miss) (hx : (x.cps.size : Int) < 2 ^ 63 - 1) (h : Q .none s) :
    wpAny (model prog w) A (call (.builtin "re.Pattern.search") [.ref pa, .str x tk]) Q E s :=
  wpAny_call_entry slot_search (hp.type rfl) entry_search (search_body_miss hp R hx ⟨_, rfl, h⟩) (args_search _ _)

theorem getm_pat {pa : Addr} {code : List Nat} {g : Nat} {name : Str} {id : String} {pl : Sem Bool} {Q : Value × List Value → Shared → Prop} (hp : PatAt s.heap pa code g)
    (slot : Slot "re.Pattern" name id) (hty : typeOf (.builtin id) = pure (.type "method_descriptor")) (h : Q (.builtin id, [.ref pa]) s) : wpAny (model prog w) A (getMethod (.ref pa) name pl) Q E s :=
  getMethod_builtin (hp.type rfl) plain_pat slot hty (fun a e => by
    obtain ⟨o, vs, ca, oc, n, ho, hcl, hdi, _⟩ := hp
    cases e; exact ⟨o, ho, hdi⟩) h

/-- a match with one group -/
def MatAt (h : Heap) (mt : Addr) (x : Str) (tk : Tok) (sps : List Nat) : Prop := ∃ o pa lim li sp osp n, h.get? mt = some o ∧ o.cls = .type "re.Match" ∧ o.dict = none ∧ o.data = .fields #[.str x tk, .ref pa, rawInt 0, rawInt (lim : Nat), rawInt li, .ref sp] ∧
  h.get? sp = some osp ∧ osp.data = .seq (sps.map fun i => rawInt (i : Nat)).toArray n
theorem MatAt.of {pa mt sp : Addr} {x : Str} {tk : Tok} {lim : Nat} {li : Int} {sps : List Nat} {h : Heap} (N : News h₀ L h news) (h1 : (mt, matObj x tk pa lim li sp) ∈ news) (h2 : (sp, spanObj sps) ∈ news) : MatAt h mt x tk sps :=
  ⟨_, pa, lim, li, sp, _, _, (N _ h1).1, rfl, rfl, rfl, (N _ h2).1, rfl⟩
theorem MatAt.keeps {mt : Addr} {x : Str} {tk : Tok} {sps : List Nat} {h h' : Heap} (y : MatAt h mt x tk sps) (k : ∀ b o, h.get? b = some o → h'.get? b = some o) : MatAt h' mt x tk sps :=
  let ⟨o, pa, lim, li, sp, osp, n, a, b, c, d, e, f⟩ := y; ⟨o, pa, lim, li, sp, osp, n, k _ _ a, b, c, d, k _ _ e, f⟩
theorem MatAt.type {mt : Addr} {x : Str} {tk : Tok} {sps : List Nat} (y : MatAt s.heap mt x tk sps) : s.TypeIs (.ref mt) "re.Match" := let ⟨o, _, _, _, _, _, _, a, b, _⟩ := y; ⟨o, a, b⟩

theorem getm_mat {mt : Addr} {x : Str} {tk : Tok} {sps : List Nat} {name : Str} {id : String} {pl : Sem Bool} {Q : Value × List Value → Shared → Prop} (hp : MatAt s.heap mt x tk sps)
    (slot : Slot "re.Match" name id) (hty : typeOf (.builtin id) = pure (.type "method_descriptor")) (h : Q (.builtin id, [.ref mt]) s) : wpAny (model prog w) A (getMethod (.ref mt) name pl) Q E s :=
  getMethod_builtin hp.type plain_mat slot hty (fun a e => by
    obtain ⟨o, _, _, _, _, _, _, ho, _, hdi, _⟩ := hp
    cases e; exact ⟨o, ho, hdi⟩) h

theorem mat_true {mt : Addr} {x : Str} {tk : Tok} {sps : List Nat} {Q : Bool → Shared → Prop} (hp : MatAt s.heap mt x tk sps) (h : Q true s) : wpAny (model prog w) A (truthy (.ref mt)) Q E s := by
  unfold truthy
  refine wpAny_bind (wpAny_callSpecial?_none hp.type mat_truthy1 ?_)
  refine wpAny_bind (wpAny_specialOf hp.type mat_truthy2 ?_)
  exact wpAny_pure h

theorem mat_string {mt : Addr} {x : Str} {tk : Tok} {sps : List Nat} {expr : Bool} {Q : Value → Shared → Prop} (hp : MatAt s.heap mt x tk sps)
    (hq : Q (.str x tk) { s with toks := s.toks + 1 }) : wpAny (model prog w) A (getAttr (.ref mt) "string" expr) Q E s := by
  obtain ⟨o, pa, lim, li, sp, osp, n, a, b, c, d, e, f⟩ := hp
  exact string_attr a b d rfl hq

theorem wp_found {mt : Addr} {x : Str} {tk : Tok} {sps : List Nat} {Q : ReFound → Shared → Prop} (hp : MatAt s.heap mt x tk sps)
    (h : ∀ fs, fs.getD 0 .none = .str x tk → Q { fields := fs, spans := (sps.map fun i => ((i : Nat) : Int)).toArray } s) : wpAny (model prog w) A (reFound (.ref mt)) Q E s := by
  obtain ⟨o, pa, lim, li, sp, osp, n, a, b, c, d, e, f⟩ := hp
  unfold reFound
  refine wpAny_bind (wpAny_fieldsOf a d ?_)
  refine wpAny_bind (m := reRawItems (.ref sp)) (wp_rawItems e f (wpAny_pure ?_))
  have := h #[.str x tk, .ref pa, rawInt 0, rawInt (lim : Nat), rawInt li, .ref sp] rfl
  simpa [List.map_map, Function.comp_def, reRawOf, rawInt] using this

theorem wp_groupNo {x : ReFound} {g : Nat} {t : Tok} {Q : Nat → Shared → Prop} (hg : 2 * g < x.spans.size) (h : Q g s) : wpAny (model prog w) A (reGroupNumber x (.int (g : Nat) t)) Q E s := by
  unfold reGroupNumber
  refine wpAny_bind (m := asInt? (.int (g : Nat) t)) (wpAny_pure ?_)
  refine wpAny_bind (m := asIndex (.int (g : Nat) t)) (wpAny_pure ?_)
  show wpAny _ _ (if (decide (((g : Nat) : Int) < 0) || decide (2 * ((g : Nat) : Int) ≥ (x.spans.size : Int))) = true then _ else _) Q E s
  have e : (decide (((g : Nat) : Int) < 0) || decide (2 * ((g : Nat) : Int) ≥ (x.spans.size : Int))) = false := by
    simp only [Bool.or_eq_false_iff, decide_eq_false_iff_not]; omega
  rw [e]
  exact wpAny_pure h

theorem mat_span {mt : Addr} {x : Str} {tk : Tok} {st hd : Nat} {sps : List Nat} {t : Tok} {Q : Value → Shared → Prop} (F : Fr h₀ L s.heap m) (N : News h₀ L s.heap news) (hp : MatAt s.heap mt x tk (st :: hd :: sps))
    (h : ∀ sp h' tk', Fr h₀ L h' m → News h₀ L h' ((sp, { cls := .type "tuple", data := .seq #[.int (st : Nat) s.toks, .int (hd : Nat) (s.toks + 1)] }) :: news) → (∀ q ∈ news, q.1 < sp) → Q (.ref sp) { s with heap := h', toks := tk' }) :
    wpAny (model prog w) A (call (.builtin "re.Match.span") [.ref mt, .int 0 t]) Q E s := by
  refine wpAny_call_entry slot_span hp.type entry_span ?_ (args_span _ _)
  unfold Builtin.«re.Match.span» reOneGroup
  refine wpAny_bind (wpAny_bind (m := selfAndSome "Match.span" "span" 0 1 ⟨[.ref mt, .int 0 t], []⟩) (wpAny_pure ?_))
  refine wpAny_bind (wp_found hp fun fs _ => ?_)
  refine wpAny_bind (wp_groupNo (g := 0) (by simp) (wpAny_pure ?_))
  refine wpAny_bind (wpAny_mkInt (wpAny_bind (wpAny_mkInt ?_)))
  refine wpAny_bind (newTuple_N F N (fun h1 F1 N1 => wpAny_pure ⟨_, rfl, ?_⟩) (by show (2 : Nat) ≤ sizeLine; decide))
  exact h _ h1 _ F1 (by simpa using N1) (fun q hq => Heap.lt_size (N q hq).1)

theorem mat_group1 {mt : Addr} {x : Str} {tk : Tok} {st hd b e : Nat} {t : Tok} {Q : Value → Shared → Prop} (hp : MatAt s.heap mt x tk [st, hd, b, e]) (hx : x.cps.size ≤ sizeLine)
    (h : Q (.str ⟨x.cps.extract b e⟩ s.toks) { s with toks := s.toks + 1 }) :
    wpAny (model prog w) A (call (.builtin "re.Match.group") [.ref mt, .int 1 t]) Q E s := by
  refine wpAny_call_entry slot_group hp.type entry_group ?_ (args_group _ _)
  unfold Builtin.«re.Match.group»
  refine wpAny_bind (m := noKeywords "Match.group" ⟨[.ref mt, .int 1 t], []⟩) (wpAny_pure ?_)
  refine wpAny_bind (wp_found hp fun fs hf => ?_)
  refine wpAny_bind (wp_groupNo (g := 1) (by simp) ?_)
  unfold reGroupText
  have e0 : ([st, hd, b, e].map fun i => ((i : Nat) : Int)).toArray.getD 2 (-1) = (b : Int) := rfl
  have e1 : ([st, hd, b, e].map fun i => ((i : Nat) : Int)).toArray.getD 3 (-1) = (e : Int) := rfl
  show wpAny _ _ ((if (decide (([st, hd, b, e].map fun i => ((i : Nat) : Int)).toArray.getD 2 (-1) < 0) || decide (([st, hd, b, e].map fun i => ((i : Nat) : Int)).toArray.getD 3 (-1) < 0)) = true then pure .none else _) >>= _) _ E s
  rw [e0, e1]
  have c : (decide ((b : Int) < 0) || decide ((e : Int) < 0)) = false := by simp only [Bool.or_eq_false_iff, decide_eq_false_iff_not]; omega
  rw [c, hf]
  refine wpAny_bind (wpAny_bind (m := reTextOf (.str x tk)) (wpAny_of_eq (show reTextOf (.str x tk) = pure (x.cps, 0) from rfl) ?_))
  refine wpAny_mkStr (x := ⟨x.cps.extract b e⟩) (wpAny_pure ⟨_, rfl, h⟩) ?_
  show (x.cps.extract b e).size ≤ sizeLine
  rw [Array.size_extract]; omega
end
end Mine

namespace Mine
/-- a match among the made objects -/
def MatIn (news : List (Addr × Obj)) (mt : Addr) (x : Str) (tk : Tok) (sps : List Nat) : Prop := ∃ pa lim li sp, (mt, matObj x tk pa lim li sp) ∈ news ∧ (sp, spanObj sps) ∈ news
theorem MatIn.mono {news news' : List (Addr × Obj)} {mt : Addr} {x : Str} {tk : Tok} {sps : List Nat} (h : MatIn news mt x tk sps) (k : ∀ p ∈ news, p ∈ news') : MatIn news' mt x tk sps :=
  let ⟨pa, lim, li, sp, a, b⟩ := h; ⟨pa, lim, li, sp, k _ a, k _ b⟩
theorem MatIn.tail {news : List (Addr × Obj)} {q : Addr × Obj} {mt : Addr} {x : Str} {tk : Tok} {sps : List Nat} (h : MatIn news mt x tk sps) : MatIn (q :: news) mt x tk sps := h.mono fun _ hp => .tail _ hp
theorem MatIn.head {news : List (Addr × Obj)} {mt sp pa : Addr} {x : Str} {tk : Tok} {sps : List Nat} {lim : Nat} {li : Int} : MatIn ((mt, matObj x tk pa lim li sp) :: (sp, spanObj sps) :: news) mt x tk sps := ⟨pa, lim, li, sp, .head _, .tail _ (.head _)⟩
theorem MatIn.at {h₀ h : Heap} {L : Addr} {news : List (Addr × Obj)} {mt : Addr} {x : Str} {tk : Tok} {sps : List Nat} (N : News h₀ L h news) (y : MatIn news mt x tk sps) : MatAt h mt x tk sps :=
  let ⟨_, _, _, _, a, b⟩ := y; MatAt.of N a b
section
variable {prog : Program} {w : World} {A : Around} {E : Value → Shared → Prop} {s : Shared} {h₀ : Heap} {L : Addr} {m : Str → Option Value} {news : List (Addr × Obj)} {mt : Addr} {x : Str} {tk : Tok} {sps : List Nat}
theorem getm_N {name : Str} {id : String} {pl : Sem Bool} {Q : Value × List Value → Shared → Prop} (N : News h₀ L s.heap news) (hp : MatIn news mt x tk sps)
    (slot : Slot "re.Match" name id) (hty : typeOf (.builtin id) = pure (.type "method_descriptor")) (h : Q (.builtin id, [.ref mt]) s) : wpAny (model prog w) A (getMethod (.ref mt) name pl) Q E s := getm_mat (MatIn.at N hp) slot hty h
theorem span_N {st hd : Nat} {t : Tok} {Q : Value → Shared → Prop} (F : Fr h₀ L s.heap m) (N : News h₀ L s.heap news) (hp : MatIn news mt x tk (st :: hd :: sps))
    (h : ∀ sp h' tk', Fr h₀ L h' m → News h₀ L h' ((sp, { cls := .type "tuple", data := .seq #[.int (st : Nat) s.toks, .int (hd : Nat) (s.toks + 1)] }) :: news) → (∀ q ∈ news, q.1 < sp) → Q (.ref sp) { s with heap := h', toks := tk' }) :
    wpAny (model prog w) A (call (.builtin "re.Match.span") [.ref mt, .int 0 t]) Q E s := mat_span F N (MatIn.at N hp) h
theorem string_N {expr : Bool} {Q : Value → Shared → Prop} (N : News h₀ L s.heap news) (hp : MatIn news mt x tk sps)
    (hq : Q (.str x tk) { s with toks := s.toks + 1 }) : wpAny (model prog w) A (getAttr (.ref mt) "string" expr) Q E s := mat_string (MatIn.at N hp) hq
theorem group_N {st hd b e : Nat} {t : Tok} {Q : Value → Shared → Prop} (N : News h₀ L s.heap news) (hp : MatIn news mt x tk [st, hd, b, e]) (hx : x.cps.size ≤ sizeLine)
    (h : Q (.str ⟨x.cps.extract b e⟩ s.toks) { s with toks := s.toks + 1 }) : wpAny (model prog w) A (call (.builtin "re.Match.group") [.ref mt, .int 1 t]) Q E s := mat_group1 (MatIn.at N hp) hx h
theorem true_N {Q : Bool → Shared → Prop} (N : News h₀ L s.heap news) (hp : MatIn news mt x tk sps) (h : Q true s) : wpAny (model prog w) A (truthy (.ref mt)) Q E s := mat_true (MatIn.at N hp) h
end
end Mine

namespace Mine
local macro_rules | `(tactic| walk_at "mi") => `(tactic| (first | assumption | exact MatIn.tail (by assumption) | exact MatIn.tail (MatIn.tail (by assumption)) | exact MatIn.head))
local macro_rules | `(tactic| walk_at "getMethod ref") => `(tactic| (k_here; (with_reducible show wpAny _ _ (getMethod (Value.ref _) (Str.ofString "span") _) _ _ _); (refine' getm_N ?mn ?mi slot_span ty_span ?_); (case mn => assumption); (case mi => walk_at "mi")))
local macro_rules | `(tactic| walk_at "getMethod ref") => `(tactic| (k_here; (with_reducible show wpAny _ _ (getMethod (Value.ref _) (Str.ofString "group") _) _ _ _); (refine' getm_N ?mn ?mi slot_group ty_group ?_); (case mn => assumption); (case mi => walk_at "mi")))
local macro_rules | `(tactic| walk_at "call builtin:re.Match.span") => `(tactic| (k_here; (refine' span_N ?mf ?mn ?mi ?_); (case mf | mn => assumption); (case mi => walk_at "mi"); intro sp' h' tk' F' N' l1; (try k_sweep)))
local macro_rules | `(tactic| walk_at "getAttr ref") => `(tactic| (k_here; (with_reducible show wpAny _ _ (getAttr (Value.ref _) (Str.ofString "string") _) _ _ _); (refine' string_N ?mn ?mi ?_); (case mn => assumption); (case mi => walk_at "mi")))
section
abbrev S (l : List Nat) : Str := ⟨l.toArray⟩
theorem S_len (l : List Nat) : (S l).length = l.length := by show l.toArray.size = _; simp
theorem two_slices {l : List Nat} {a b c d : Option Int} (h : l.length ≤ 200) : (Txt.slice (S l) a b).length + (Txt.slice (S l) c d).length ≤ sizeLine := by
  have h1 := Txt.slice_le (S l) a b
  have h2 := Txt.slice_le (S l) c d
  have h3 := S_len l
  rw [sizeLine_eq]; omega
theorem slice_from (l : List Nat) (e : Nat) (he : e ≤ l.length) : Txt.slice (S l) none (some ((0 : Nat) : Int)) ++ Txt.slice (S l) (some (e : Nat)) none = S (l.drop e) := by
  have h1 : Txt.slice (S l) none (some ((0 : Nat) : Int)) = ⟨#[]⟩ := by
    have := eq_of_beq (slice_closes_toL (x := S l) (j := ((0 : Nat) : Int)) (by omega) (by omega))
    rw [this]; simp
  have h2 : Txt.slice (S l) (some (e : Nat)) none = S (l.drop e) := by
    rw [slice_from_eq (x := S l) (i := (e : Nat)) (b := ((S l).length : Nat)) (by omega) (by have := S_len l; omega) rfl, S_len l]
    have : ((l.length : Int) - (e : Int)).toNat = l.length - e := by omega
    rw [this]
    congr 2
    show List.take _ (List.drop (e : Int).toNat l.toArray.toList) = _
    rw [Int.toNat_natCast]
    exact List.take_of_length_le (by simp)
  rw [h1, h2]
  show Str.append _ _ = _
  simp [Str.append]
local macro_rules | `(tactic| walk_at "binaryOp Add str str") => `(tactic| (k_here; (refine add_str ?_ (two_slices (by assumption))); intro t' tk'))
theorem unm {w : World} {p : Program} {loose : List Str} {mean : ExcName → Option Value} {mg mb : Str → Option Value}
  {dp un : Nat} {gd : Option (List Code)} {cn : Str} {cs : Scope} {a : Addr} {ccd : Value} {cl : List (Str × Addr)} {outer : List Env} {A₀ : Around} {base h₀ : Heap} {L : Addr} {m : Str → Option Value} {news : List (Addr × Obj)} {s : Shared} {mt : Addr} {l : List Nat} {tx : Tok} {e : Nat} {sps : List Nat}
    {Q E : Value → Shared → Prop} 
    (B : Below A₀ base outer h₀) (F : Fr h₀ L s.heap m) (X : (hd.heap_39 w.params).In h₀) (N : News h₀ L s.heap news) (T : Top p loose mean mg mb h₀) (hk : cs.kind = .function)
    (hdp : dp + 1 < recursionLimit) (hu : un + 8  < cLine)
    (hM : MatIn news mt (S l) tx (0 :: e :: sps)) (hx : l.length ≤ 200) (he : e ≤ l.length)
    (ret : ∀ tk h' tk', Fr h₀ L h' m → News h₀ L h' news → Q (.str (S (l.drop e)) tk) { s with heap := h', toks := tk' }) :
    wpAny (model Challenge.rw_rs0138_01.row.prog w) (ktrTop dp un gd cn cs L a ccd cl outer) (call (.ref 43) [.ref mt]) Q E s := by
  revert X; k_fill; intro X
  refine wpAny_call ?_
  k_dflt ktr_enter
  repeat' (first | (k_unfold; (try dsimp only)) | walk1 | (dsimp only; walk1))
  rw [slice_from l e he]
  refine ret _ _ _ (by assumption) ?_
  rename News _ _ _ _ => N9
  exact fun q hq => N9 q (.tail _ hq)
end

section
open PySem.Builtin.Re
theorem look_fn_call : typeLookup (.type "function") "__call__" = pure (some (.builtin "function.__call__")) := by rw [typeLookup_type, builtinLookup_eq_fast]; kernel_rfl
theorem look_str_call : typeLookup (.type "str") "__call__" = pure none := by rw [typeLookup_type, builtinLookup_eq_fast]; kernel_rfl
theorem str_no_ba : isSubtype (.type "str") (.type "bytearray") = pure false := by rw [isSubtype_type]; kernel_rfl
theorem quiet_loop (args : Args) : (Code.builtin "re.Pattern.sub.loop" args).quiet = true := Code.quiet_builtin _ (by decide +kernel)
theorem under_loop (A : Around) (args : Args) : A.under (.builtin "re.Pattern.sub.loop" args) = A.in1 := Around.under_plainId (by decide +kernel) args

section
variable {M : Model} {A : Around} {E : Value → Shared → Prop} {s : Shared} {h₀ : Heap} {L : Addr} {m : Str → Option Value} {rest : List (Addr × Obj)}
theorem wp_whole {pa : Addr} {x : Str} {tk : Tok} {code : List Nat} {g : Nat} {Q : ReTarget → Shared → Prop} (hp : PatAt s.heap pa code g)
    (h : Q { pattern := .ref pa, string := .str x tk, code := code.toArray, text := x.cps, kind := 0, groups := g, pos := 0, lim := x.cps.size } s) :
    wpAny M A (reWholeTarget (.ref pa) (.str x tk)) Q E s := by
  obtain ⟨o, vs, ca, oc, n, ho, hcl, hdi, hd, h2, h5, h6, hoc, hdc⟩ := hp
  unfold reWholeTarget
  refine wpAny_bind (wpAny_fieldsOf ho hd ?_)
  refine wpAny_bind (m := reTextOf (.str x tk)) (wpAny_of_eq (show reTextOf (.str x tk) = pure (x.cps, 0) from rfl) ?_)
  simp only [h2, h5, h6]
  have e0 : reRawNat (rawInt 0) = 0 := rfl
  have eg : reRawNat (rawInt (g : Nat)) = g := rfl
  simp only [e0, eg]
  refine wpAny_bind (m := reNoCollectionInside (.str x tk) 0) (wpAny_pure ?_)
  refine wpAny_bind (wp_rawItems hoc hdc ?_)
  refine wpAny_pure ?_
  rw [codes_back]
  exact h

theorem wp_push {D : Addr} {ys : List Value} {n : Nat} {x : Value} {Q : Unit → Shared → Prop} (F : Fr h₀ L s.heap m) (N : News h₀ L s.heap ((D, listOf ys.toArray n) :: rest)) (hap : ∀ p ∈ rest, p.1 ≠ D) (hsz : ys.length ≤ 10000)
    (h : ∀ h', Fr h₀ L h' m → News h₀ L h' ((D, listOf (ys ++ [x]).toArray (n + 1)) :: rest) → Q () { s with heap := h' }) : wpAny M A (updateSeq D (·.push x)) Q E s := by
  have hm := N _ (.head _)
  have hz : ys.toArray.size ≤ sizeLine := by rw [List.size_toArray, sizeLine_eq]; omega
  refine wpAny_updateSeq hm.1 rfl ?_ hz (by rw [Array.size_push]; omega)
  have ho' : (s.heap.update D (Obj.mapSeq (·.push x))).get? D = some (listOf (ys ++ [x]).toArray (n + 1)) := by
    have e : ys.toArray.push x = (ys ++ [x]).toArray := by simp
    rw [Heap.get?_update_self _ hm.1 (by rw [mapSeq_push]; rfl), mapSeq_push, e]
  exact h _ (F.change (Heap.SameBut.update ..) hm.2.1 hm.2.2) (N.setHead hap (Heap.SameBut.update ..) ho')

theorem wp_slice {l : List Nat} {b e : Nat} {Q : Value → Shared → Prop} (hl : l.length ≤ 200) (h : ∀ t tk, Q (.str ⟨((l.drop b).take (e - b)).toArray⟩ t) { s with toks := tk }) : wpAny M A (reSlice l.toArray 0 b e) Q E s := by
  have e1 : l.toArray.extract b e = ((l.drop b).take (e - b)).toArray := by simp [List.extract_eq_take_drop]
  show wpAny M A (mkStr ⟨l.toArray.extract b e⟩) Q E s
  rw [e1]
  refine wpAny_mkStr (h _ _) ?_
  show ((l.drop b).take (e - b)).toArray.size ≤ sizeLine
  rw [List.size_toArray, sizeLine_eq, List.length_take, List.length_drop]; omega
end

theorem glued_nil : ∀ (ys : List (List Nat)), Txt.join (⟨#[]⟩ : Str) (ys.map fun y => (⟨y.toArray⟩ : Str)) = ⟨ys.flatten.toArray⟩ := by
  intro ys
  have fold : ∀ (zs : List (List Nat)) (acc : Array Nat), ((zs.map fun y => (⟨y.toArray⟩ : Str)).foldl (fun acc p => acc ++ (⟨#[]⟩ : Str).cps ++ p.cps) acc) = acc ++ zs.flatten.toArray := by
    intro zs
    induction zs with
    | nil => intro acc; simp
    | cons z zs ih => intro acc; rw [List.map_cons, List.foldl_cons, ih]; simp
  show PySem.Builtin.Str.glued _ _ = _
  unfold PySem.Builtin.Str.glued
  cases ys with
  | nil => rfl
  | cons y ys =>
    simp only [List.map_cons, List.drop_one, List.tail_cons, List.headD_cons]
    rw [fold]; simp

/-- the values of these texts -/
inductive Texts : List Value → List (List Nat) → Prop
  | nil : Texts [] []
  | cons {l : List Nat} {t : Tok} {vs : List Value} {ls : List (List Nat)} : Texts vs ls → Texts (.str ⟨l.toArray⟩ t :: vs) (l :: ls)
theorem Texts.strs {vs : List Value} {ls : List (List Nat)} (h : Texts vs ls) : StrsAre vs (ls.map fun y => (⟨y.toArray⟩ : Str)) := by
  induction h with
  | nil => exact .nil
  | cons _ ih => exact .cons _ _ ih
theorem Texts.snoc {vs : List Value} {ls : List (List Nat)} (h : Texts vs ls) (l : List Nat) (t : Tok) : Texts (vs ++ [.str ⟨l.toArray⟩ t]) (ls ++ [l]) := by
  induction h with
  | nil => exact .cons .nil
  | cons _ ih => exact .cons ih
theorem Texts.length {vs : List Value} {ls : List (List Nat)} (h : Texts vs ls) : vs.length = ls.length := by
  induction h with
  | nil => rfl
  | cons _ ih => simp [ih]

section
variable {prog : Program} {w : World} {A : Around} {E : Value → Shared → Prop} {s : Shared} {h₀ : Heap} {L : Addr} {m : Str → Option Value} {rest : List (Addr × Obj)}

theorem sumlen (ls : List (List Nat)) : ((ls.map fun y => (⟨y.toArray⟩ : Str)).map (·.length)).sum = ls.flatten.length := by
  induction ls with
  | nil => rfl
  | cons l ls ih => simp only [List.map_cons, List.sum_cons, ih, List.flatten_cons, List.length_append]; rfl

theorem wp_join {pl : Addr} {vs : List Value} {n : Nat} {ls : List (List Nat)} {t : Tok} {Q : Value → Shared → Prop} (N : News h₀ L s.heap ((pl, listOf vs.toArray n) :: rest)) (ht : Texts vs ls) (hw : ls.flatten.length + ls.length ≤ 10000)
    (h : ∀ t' tk, Q (.str ⟨ls.flatten.toArray⟩ t') { s with toks := tk }) : wpAny (model prog w) A (call (.builtin "str.join") [.str ⟨#[]⟩ t, .ref pl]) Q E s := by
  refine join_listW (D := pl) (items := vs.toArray) (ys := ls.map fun y => (⟨y.toArray⟩ : Str)) (News.isList N (.head _)) ht.strs (by decide) ?_ fun t' k => ?_
  · rw [sumlen, List.length_map]; omega
  · rw [glued_nil]; exact h t' k

abbrev loopArgs (pa : Addr) (x : Str) (tk : Tok) (repl : Value) (way : Int) (n d st : Nat) (must : Bool) (pl : Addr) (wc : Bool) : Args :=
  ⟨[.ref pa, .str x tk, repl, rawInt way, rawInt 0, rawInt (n : Nat), rawInt (d : Nat), rawInt (st : Nat), .bool must, .ref pl, .bool wc], []⟩

theorem wp_none {t : ReTarget} {n d : Nat} {R : Result → Shared → Prop} (Rn : Runs (Sre.forSearch t.code t.text t.groups d t.lim false) Miss) :
    wpAny (model prog w) A (if ((0 : Int) != 0 && decide (((n : Nat) : Int) ≥ 0)) = true then pure none else reNextFound t ((d : Nat) : Int).toNat false) (fun r s' => r = none ∧ s' = s) (fun e s' => R (.error e) s') s := by
  rw [if_neg (by simp)]
  unfold reNextFound
  refine wp_reRun (by rw [Int.toNat_natCast]; exact Rn) fun mf hm => .inr ⟨hm, rfl, rfl⟩

/-- the loop's last turn, the replacement called -/
theorem loop_end1 {pa pl : Addr} {l : List Nat} {tk : Tok} {repl : Value} {n d : Nat} {code : List Nat} {g : Nat} {vs : List Value} {ls : List (List Nat)} {nn : Nat} {R : Result → Shared → Prop}
    (F : Fr h₀ L s.heap m) (N : News h₀ L s.heap ((pl, listOf vs.toArray nn) :: rest)) (hap : ∀ p ∈ rest, p.1 ≠ pl) (hp : PatAt s.heap pa code g) (hl : l.length ≤ 200) (hd : d ≤ l.length)
    (Rn : Runs (Sre.forSearch code.toArray l.toArray g d l.length false) Miss) (ht : Texts vs ls) (hls : ls.length ≤ 1000) (hfl : ls.flatten.length ≤ 1000)
    (h : ∀ h' tk' t', Fr h₀ L h' m → News h₀ L h' rest → R (.ok (.ret (.str ⟨(ls.flatten ++ l.drop d).toArray⟩ t'))) { s with heap := h', toks := tk' }) :
    codeAny (model prog w) A (.builtin "re.Pattern.sub.loop" (loopArgs pa ⟨l.toArray⟩ tk repl 1 n d d false pl false)) R s := by
  refine codeAny_builtin entry_subloop ?_
  rw [under_loop]
  unfold Builtin.«re.Pattern.sub.loop»
  refine wpAny_bind (wp_whole hp ?_)
  dsimp only
  rw [if_neg (by decide)]
  refine wpAny_bind (wpAny_mono (wp_none (n := n) (d := d) (by simpa using Rn)) (fun r s' hr => ?_) fun _ _ x => x)
  obtain ⟨rfl, hs⟩ := hr
  rw [hs]; clear hs
  dsimp only
  have last : ∀ (s' : Shared) (vs' : List Value) (ls' : List (List Nat)) (nn' : Nat), (∃ h' tk', s' = { s with heap := h', toks := tk' }) → Fr h₀ L s'.heap m → News h₀ L s'.heap ((pl, listOf vs'.toArray nn') :: rest) → Texts vs' ls' → ls'.flatten = ls.flatten ++ l.drop d → ls'.length ≤ 1001 →
      wpAny (model prog w) A.in1 (do
        let joiner ← reSlice l.toArray 0 0 0
        let items ← seqItems? (.ref pl)
        if (items.getD #[]).isEmpty = true then (pure joiner >>= fun text => ret text) else (call (.builtin "str.join") [joiner, .ref pl] >>= fun text => ret text))
        (fun fin s' => match fin with | .done f => R (.ok f) s' | .again c' => c'.quiet = true ∧ codeAny (model prog w) A c' R s') (fun e s' => R (.error e) s') s' := by
    rintro s' vs' ls' nn' ⟨h', tk', rfl⟩ F' N' ht' hfl' hls'
    refine wpAny_bind (wp_slice hl fun t1 tk1 => ?_)
    refine wpAny_bind (wpAny_seqItems (N' _ (.head _)).1 rfl ?_)
    have e0 : (⟨((l.drop 0).take (0 - 0)).toArray⟩ : Str) = ⟨#[]⟩ := by simp
    rw [e0]
    by_cases hv : vs' = []
    · subst hv
      cases ht'
      rw [if_pos (by rfl)]
      refine wpAny_bind (wpAny_pure (wpAny_pure ?_))
      have e1 : (⟨#[]⟩ : Str) = ⟨(ls.flatten ++ l.drop d).toArray⟩ := by rw [← hfl']; rfl
      rw [e1]
      exact h _ _ _ F' (fun q hq => N' q (.tail _ hq))
    · rw [if_neg (by simpa using hv)]
      refine wpAny_bind (wp_join (ls := ls') N' ht' (by rw [hfl', List.length_append, List.length_drop]; omega) fun t2 tk2 => wpAny_pure ?_)
      rw [hfl']
      exact h _ _ _ F' (fun q hq => N' q (.tail _ hq))
  by_cases hdl : ((d : Nat) : Int).toNat < l.toArray.size
  · rw [if_pos hdl]
    rw [Int.toNat_natCast, List.size_toArray] at hdl
    refine wpAny_bind (wp_slice hl fun t1 tk1 => ?_)
    refine wpAny_bind (wp_push F N hap (by rw [ht.length]; omega) fun h' F' N' => ?_)
    refine last _ _ (ls ++ [l.drop d]) _ ⟨_, _, rfl⟩ F' N' ?_ (by simp) (by simp; omega)
    have e2 : ((l.drop ((d : Nat) : Int).toNat).take (l.toArray.size - ((d : Nat) : Int).toNat)) = l.drop d := by
      rw [Int.toNat_natCast, List.size_toArray]; exact List.take_of_length_le (by simp)
    rw [e2]
    exact ht.snoc _ _
  · rw [if_neg hdl]
    rw [Int.toNat_natCast, List.size_toArray] at hdl
    have e3 : l.drop d = [] := List.drop_eq_nil_of_le (by omega)
    exact last _ vs ls nn ⟨_, _, rfl⟩ F N ht (by rw [e3]; simp) (by omega)

theorem wp_some {t : ReTarget} {n d : Nat} {P : Sre.M → Prop} {Q : Option Sre.M → Shared → Prop} (Rn : Runs (Sre.forSearch t.code t.text t.groups d t.lim false) P) (hq : ∀ mf, P mf → mf.outcome = some .matched ∧ Q (some mf) s) :
    wpAny (model prog w) A (if ((0 : Int) != 0 && decide (((n : Nat) : Int) ≥ 0)) = true then pure none else reNextFound t ((d : Nat) : Int).toNat false) Q E s := by
  rw [if_neg (by simp)]
  unfold reNextFound
  refine wp_reRun (by rw [Int.toNat_natCast]; exact Rn) fun mf hm => .inl (hq mf hm)

/-- what the called replacement does -/
def LamOk (prog : Program) (w : World) (A : Around) (h₀ : Heap) (L : Addr) (m : Str → Option Value) (rest₀ : List (Addr × Obj)) (l : List Nat) (tk : Tok) (repl : Value) : Prop :=
  ∀ (s' : Shared) (nw : List (Addr × Obj)) (mt : Addr) (st hd b e : Nat) (Q' E' : Value → Shared → Prop), Fr h₀ L s'.heap m → News h₀ L s'.heap nw → (∀ q ∈ rest₀, q ∈ nw) → MatIn nw mt ⟨l.toArray⟩ tk [st, hd, b, e] → b < e → e ≤ l.length →
    (∀ t h' tk', Fr h₀ L h' m → News h₀ L h' nw → Q' (.str ⟨((l.drop b).take (e - b)).toArray⟩ t) { s' with heap := h', toks := tk' }) → wpAny (model prog w) A (call repl [.ref mt]) Q' E' s'

theorem loop_turn1 {pa pl : Addr} {l : List Nat} {tk : Tok} {repl : Value} {n d p : Nat} {code : List Nat} {vs : List Value} {ls : List (List Nat)} {nn : Nat} {R : Result → Shared → Prop} {rest₀ : List (Addr × Obj)}
    (F : Fr h₀ L s.heap m) (N : News h₀ L s.heap ((pl, listOf vs.toArray nn) :: rest)) (hap : ∀ p ∈ rest, p.1 ≠ pl) (hp : PatAt s.heap pa code 1) (hl : l.length ≤ 200) (hdp : d ≤ p) (hpl : p + 2 ≤ l.length)
    (Rn : Runs (Sre.forSearch code.toArray l.toArray 1 d l.length false) (Hit1 p (p + 2) (p + 1) (p + 2))) (ht : Texts vs ls) (hls : ls.length ≤ 1000)
    (hr0 : ∀ q ∈ rest₀, q ∈ rest) (hlam : LamOk prog w A.in1 h₀ L m rest₀ l tk repl)
    (h : ∀ s' vs' nn' rest', (∃ h' tk', s' = { s with heap := h', toks := tk' }) → Fr h₀ L s'.heap m → News h₀ L s'.heap ((pl, listOf vs'.toArray nn') :: rest') → (∀ q ∈ rest, q ∈ rest') → (∀ p ∈ rest', p.1 ≠ pl) →
      Texts vs' (ls ++ (if d < p then [(l.drop d).take (p - d)] else []) ++ [(l.drop (p + 1)).take 1]) → codeAny (model prog w) A (.builtin "re.Pattern.sub.loop" (loopArgs pa ⟨l.toArray⟩ tk repl 1 (n + 1) (p + 2) (p + 2) false pl false)) R s') :
    codeAny (model prog w) A (.builtin "re.Pattern.sub.loop" (loopArgs pa ⟨l.toArray⟩ tk repl 1 n d d false pl false)) R s := by
  refine codeAny_builtin entry_subloop ?_
  rw [under_loop]
  unfold Builtin.«re.Pattern.sub.loop»
  refine wpAny_bind (wp_whole hp ?_)
  dsimp only
  rw [if_neg (by decide)]
  refine wpAny_bind (wp_some (P := Hit1 p (p + 2) (p + 1) (p + 2)) (n := n) (d := d) (by simpa using Rn) fun mf hm => ⟨hm.1, ?_⟩)
  dsimp only
  have tail : ∀ (s' : Shared) (vs' : List Value) (ls' : List (List Nat)) (nn' : Nat), (∃ h' tk', s' = { s with heap := h', toks := tk' }) → Fr h₀ L s'.heap m → News h₀ L s'.heap ((pl, listOf vs'.toArray nn') :: rest) → Texts vs' ls' → ls' = ls ++ (if d < p then [(l.drop d).take (p - d)] else []) →
      wpAny (model prog w) A.in1 (do
        let found ← reNewMatch (.ref pa) (.str ⟨l.toArray⟩ tk) 1 0 l.toArray.size mf
        let item ← holding [found] (call repl [found])
        if (item != .none) = true then do
            updateSeq pl (·.push item)
            again (.builtin "re.Pattern.sub.loop" ⟨[.ref pa, .str ⟨l.toArray⟩ tk, repl, rawInt 1, rawInt 0, rawInt (((n : Nat) : Int) + 1), rawInt mf.handed, rawInt mf.handed, .bool (mf.handed == mf.start), .ref pl, .bool false], []⟩)
          else again (.builtin "re.Pattern.sub.loop" ⟨[.ref pa, .str ⟨l.toArray⟩ tk, repl, rawInt 1, rawInt 0, rawInt (((n : Nat) : Int) + 1), rawInt mf.handed, rawInt mf.handed, .bool (mf.handed == mf.start), .ref pl, .bool false], []⟩))
        (fun fin s' => match fin with | .done f => R (.ok f) s' | .again c' => c'.quiet = true ∧ codeAny (model prog w) A c' R s') (fun e s' => R (.error e) s') s' := by
    rintro s' vs' ls' nn' ⟨h', tk', rfl⟩ F' N' ht' hls'
    refine wpAny_bind (wp_newMatch1 F' N' hm (by omega) fun mt sp h1 F1 N1 l1 l2 => ?_)
    have N2 : News h₀ L h1 ((pl, listOf vs'.toArray nn') :: (mt, matObj ⟨l.toArray⟩ tk pa l.toArray.size mf.lastindex sp) :: (sp, spanObj [p, p + 2, p + 1, p + 2]) :: rest) := fun q hq => by
      rcases List.mem_cons.mp hq with rfl | hq
      · exact N1 _ (.tail _ (.tail _ (.head _)))
      · rcases List.mem_cons.mp hq with rfl | hq
        · exact N1 _ (.head _)
        · rcases List.mem_cons.mp hq with rfl | hq
          · exact N1 _ (.tail _ (.head _))
          · exact N1 _ (.tail _ (.tail _ (.tail _ hq)))
    have lp : pl < sp := l1 _ (.head _)
    refine wpAny_bind (wpAny_holding (hlam _ _ mt p (p + 2) (p + 1) (p + 2) _ _ F1 N2 (fun q hq => .tail _ (.tail _ (.tail _ (hr0 q hq)))) ⟨pa, _, _, sp, .tail _ (.head _), .tail _ (.tail _ (.head _))⟩ (by omega) (by omega) fun t h2 tk2 F2 N3 => ?_))
    rw [if_pos (by rfl)]
    have hap' : ∀ q ∈ ((mt, matObj ⟨l.toArray⟩ tk pa l.toArray.size mf.lastindex sp) :: (sp, spanObj [p, p + 2, p + 1, p + 2]) :: rest), q.1 ≠ pl := fun q hq => by
      rcases List.mem_cons.mp hq with rfl | hq
      · exact Nat.ne_of_gt (Nat.lt_trans lp l2)
      · rcases List.mem_cons.mp hq with rfl | hq
        · exact Nat.ne_of_gt lp
        · exact hap q hq
    have hln : vs'.length ≤ 10000 := by rw [ht'.length, hls']; simp only [List.length_append]; split <;> simp <;> omega
    refine wpAny_bind (wp_push F2 N3 hap' hln fun h3 F3 N4 => wpAny_pure ⟨quiet_loop _, ?_⟩)
    have e1 : mf.handed = p + 2 := hm.2.2.1
    have e2 : mf.start = p := hm.2.1
    rw [e1, e2]
    have e3 : (p + 2 == p) = false := by simp
    rw [e3]
    refine h _ _ _ _ ⟨_, _, rfl⟩ F3 N4 (fun q hq => .tail _ (.tail _ hq)) hap' ?_
    rw [← hls']
    have e4 : p + 2 - (p + 1) = 1 := by omega
    rw [e4]
    exact ht'.snoc _ _
  have e2 : mf.start = p := hm.2.1
  by_cases hdl : ((d : Nat) : Int).toNat < mf.start
  · rw [if_pos hdl]
    rw [Int.toNat_natCast, e2] at hdl
    refine wpAny_bind (wp_slice hl fun t1 tk1 => ?_)
    refine wpAny_bind (wp_push F N hap (by rw [ht.length]; omega) fun h' F' N' => ?_)
    refine tail _ _ (ls ++ [(l.drop d).take (p - d)]) _ ⟨_, _, rfl⟩ F' N' ?_ (by rw [if_pos hdl])
    rw [Int.toNat_natCast, e2]
    exact ht.snoc _ _
  · rw [if_neg hdl]
    rw [Int.toNat_natCast, e2] at hdl
    exact tail _ vs ls nn ⟨_, _, rfl⟩ F N ht (by rw [if_neg hdl]; simp)
end
end

section
open PySem.Builtin.Re
theorem runs_of {P Q : Sre.M → Prop} {n : Nat} {m : Sre.M} (h : Ends P n m) (hn : n ≤ 1048576) (k : ∀ mf, P mf → Q mf) : Runs m Q :=
  let ⟨_, ⟨j, hj, e⟩, ho, hp⟩ := h; ⟨j, Nat.le_trans hj hn, by rw [e]; exact ho, by rw [e]; exact k _ hp⟩
theorem hit1_of {st hd b e : Nat} (mf : Sre.M) (h : Found1 st hd b e mf) : Hit1 st hd b e mf := h
theorem hit0_of {st hd : Nat} (mf : Sre.M) (h : Found0 st hd mf) : Hit0 st hd mf := h
theorem miss_of' (mf : Sre.M) (h : Missed mf) : Miss mf := h

/-- the pieces that the escapes are cut into, from d on -/
inductive Esc (l : List Nat) : Nat → List Nat → Prop
  | stop {d : Nat} : d ≤ l.length → (∀ i, d ≤ i → i < l.length → l.toArray.getD i 0 ≠ 92) → Esc l d (l.drop d)
  | esc {d p : Nat} {r : List Nat} : d ≤ p → p + 1 < l.length → (∀ i, d ≤ i → i < p → l.toArray.getD i 0 ≠ 92) → l.toArray.getD p 0 = 92 → l.toArray.getD (p + 1) 0 ≠ 10 → Esc l (p + 2) r →
      Esc l d ((l.drop d).take (p - d) ++ (l.drop (p + 1)).take 1 ++ r)

section
variable {prog : Program} {w : World} {A : Around} {E : Value → Shared → Prop} {s : Shared} {h₀ : Heap} {L : Addr} {m : Str → Option Value}
theorem PatAt.frn {pa : Addr} {code : List Nat} {g : Nat} {h : Heap} (F : Fr h₀ L h m) (x : PatAt h₀ pa code g) : PatAt h pa code g :=
  let ⟨o, vs, ca, oc, n, ho, hcl, hdi, hd, h2, h5, h6, hoc, hdc⟩ := x; ⟨o, vs, ca, oc, n, F.keep _ _ ho, hcl, hdi, hd, h2, h5, h6, F.keep _ _ hoc, hdc⟩

theorem sub_loop {l : List Nat} {pa pl : Addr} {tk : Tok} {repl : Value} {R : Result → Shared → Prop} {rest₀ : List (Addr × Obj)} (hp : PatAt h₀ pa escC 1) (hl : l.length ≤ 200) (hlam : LamOk prog w A.in1 h₀ L m rest₀ l tk repl) {d : Nat} {r : List Nat} (he : Esc l d r) :
    ∀ (s : Shared) (n : Nat) (vs : List Value) (ls : List (List Nat)) (nn : Nat) (rest : List (Addr × Obj)), Fr h₀ L s.heap m → News h₀ L s.heap ((pl, listOf vs.toArray nn) :: rest) → (∀ p ∈ rest, p.1 ≠ pl) → (∀ q ∈ rest₀, q ∈ rest) → Texts vs ls → ls.length ≤ 2 * d → ls.flatten.length ≤ d →
      (∀ h' tk' t', Fr h₀ L h' m → News h₀ L h' rest₀ → R (.ok (.ret (.str ⟨(ls.flatten ++ r).toArray⟩ t'))) { s with heap := h', toks := tk' }) →
      codeAny (model prog w) A (.builtin "re.Pattern.sub.loop" (loopArgs pa ⟨l.toArray⟩ tk repl 1 n d d false pl false)) R s := by
  induction he with
  | stop hd hn =>
    intro s n vs ls nn rest F N hap hr0 ht hls hfl h
    refine loop_end1 F N hap (hp.frn F) hl hd (runs_of (esc_miss hl hd hn) (by omega) miss_of') ht (by omega) (by omega) fun h' tk' t' F' N' => h h' tk' t' F' fun q hq => N' q (hr0 q hq)
  | esc hdp hpl hn h92 h10 _ ih =>
    rename_i d p r _
    intro s n vs ls nn rest F N hap hr0 ht hls hfl h
    refine loop_turn1 F N hap (hp.frn F) hl hdp (by omega) (runs_of (esc_hit hl hdp hpl hn h92 h10) (by omega) hit1_of) ht (by omega) hr0 hlam ?_
    rintro s' vs' nn' rest' ⟨h1, tk1, rfl⟩ F' N' hsub hap' ht'
    refine ih _ _ _ _ _ rest' F' N' hap' (fun q hq => hsub q (hr0 q hq)) ht' ?_ ?_ fun h' tk' t' F2 N2 => ?_
    · simp only [List.length_append, List.length_cons, List.length_nil]; split <;> simp <;> omega
    · simp only [List.flatten_append, List.length_append, List.flatten_cons, List.flatten_nil, List.append_nil, List.length_take, List.length_drop]
      split <;> simp only [List.flatten_cons, List.flatten_nil, List.append_nil, List.length_take, List.length_drop, List.length_nil] <;> omega
    · have e : (ls ++ (if d < p then [(l.drop d).take (p - d)] else []) ++ [(l.drop (p + 1)).take 1]).flatten ++ r = ls.flatten ++ ((l.drop d).take (p - d) ++ (l.drop (p + 1)).take 1 ++ r) := by
        by_cases hc : d < p
        · rw [if_pos hc]; simp
        · rw [if_neg hc]
          have : p - d = 0 := by omega
          rw [this]; simp
      rw [e]
      exact h h' tk' t' F2 N2

theorem sub_N {l : List Nat} {pa f : Addr} {tk : Tok} {fo : Obj} {news : List (Addr × Obj)} {r : List Nat} {Q : Value → Shared → Prop} (F : Fr h₀ L s.heap m) (N : News h₀ L s.heap news) (hp : PatAt h₀ pa escC 1) (hl : l.length ≤ 200) (hfm : (f, fo) ∈ news) (hfc : fo.cls = .type "function")
    (hlam : LamOk prog w A.in1 h₀ L m news l tk (.ref f)) (he : Esc l 0 r)
    (h : ∀ h' tk' t', Fr h₀ L h' m → News h₀ L h' news → Q (.str ⟨r.toArray⟩ t') { s with heap := h', toks := tk' }) :
    wpAny (model prog w) A (call (.builtin "re.Pattern.sub") [.ref pa, .ref f, .str ⟨l.toArray⟩ tk]) Q E s := by
  have hp' := hp.frn F
  refine wpAny_call (codeAny_call_builtin slot_sub.plain entry_sub (slot_sub.check _ _ _ _ _ _ _ _ (hp'.type rfl) (args_sub _ _ _) ?_))
  show wpAny _ _ (reSubstitute "re.Pattern.sub" "sub" false ⟨[.ref pa, .ref f, .str ⟨l.toArray⟩ tk], []⟩) _ _ _
  unfold reSubstitute
  dsimp only
  rw [named_sub]
  refine wpAny_bind (wpAny_pure ?_)
  dsimp only
  refine wpAny_bind (wpAny_pure ?_)
  refine wpAny_bind (wpAny_specialOf (T := "function") ⟨fo, (N _ hfm).1, hfc⟩ look_fn_call ?_)
  rw [if_pos (by rfl)]
  refine wpAny_bind (wpAny_pure ?_)
  rw [if_pos (by rfl)]
  refine wpAny_bind (wpAny_pure ?_)
  refine wpAny_bind (wpAny_holding (wp_whole hp' ?_))
  rw [if_pos (by rfl)]
  refine wpAny_bind (m := reNotHeld "re.Pattern.sub" (.str ⟨l.toArray⟩ tk)) ?_
  unfold reNotHeld
  refine wpAny_bind (wpAny_isInstance (typeIs_str _ _ _) str_no_ba ?_)
  refine wpAny_pure ?_
  refine wpAny_bind (newList_N F N (fun h1 F1 N1 => wpAny_pure ⟨quiet_loop _, ?_⟩) (by show (0 : Nat) ≤ sizeLine; decide))
  refine sub_loop (rest₀ := news) hp hl hlam he _ 0 [] [] 0 news F1 N1 (fun q hq => Nat.ne_of_lt (Heap.lt_size (N q hq).1)) (fun _ hq => hq) .nil (by simp) (by simp) fun h' tk' t' F' N' => ?_
  exact h h' tk' t' F' N'

/-- the loop's first turn, a written replacement; no group -/
theorem loop_first0 {pa pl : Addr} {l : List Nat} {tk t0 : Tok} {k : Nat} {code : List Nat} {nn : Nat} {rest : List (Addr × Obj)} {R : Result → Shared → Prop}
    (F : Fr h₀ L s.heap m) (N : News h₀ L s.heap ((pl, listOf [].toArray nn) :: rest)) (hap : ∀ p ∈ rest, p.1 ≠ pl) (hp : PatAt s.heap pa code 0) (hk : 0 < k)
    (Rn : Runs (Sre.forSearch code.toArray l.toArray 0 0 l.length false) (Hit0 0 k))
    (h : ∀ h', Fr h₀ L h' m → News h₀ L h' ((pl, listOf [.str ⟨[].toArray⟩ t0].toArray (nn + 1)) :: rest) → codeAny (model prog w) A (.builtin "re.Pattern.sub.loop" (loopArgs pa ⟨l.toArray⟩ tk (.str ⟨#[]⟩ t0) 0 1 k k false pl true)) R { s with heap := h' }) :
    codeAny (model prog w) A (.builtin "re.Pattern.sub.loop" (loopArgs pa ⟨l.toArray⟩ tk (.str ⟨#[]⟩ t0) 0 0 0 0 false pl true)) R s := by
  refine codeAny_builtin entry_subloop ?_
  rw [under_loop]
  unfold Builtin.«re.Pattern.sub.loop»
  refine wpAny_bind (wp_whole hp ?_)
  dsimp only
  rw [if_pos (by decide)]
  refine wpAny_bind (m := reLiteralCannotBeTurned (.str ⟨#[]⟩ t0)) ?_
  unfold reLiteralCannotBeTurned
  refine wpAny_bind (m := asStr? (.str ⟨#[]⟩ t0)) (wpAny_pure (wpAny_pure ?_))
  refine wpAny_bind (wp_some (P := Hit0 0 k) (n := 0) (d := 0) (by simpa using Rn) fun mf hm => ⟨hm.1, ?_⟩)
  dsimp only
  have e1 : mf.handed = k := hm.2.2
  have e2 : mf.start = 0 := hm.2.1
  rw [e1, e2]
  rw [if_neg (by decide), if_pos (by decide)]
  refine wpAny_bind (wpAny_pure ?_)
  rw [if_pos (by rfl)]
  refine wpAny_bind (wp_push F N hap (by simp) fun h' F' N' => wpAny_pure ⟨quiet_loop _, ?_⟩)
  have e3 : (k == 0) = false := by simp; omega
  rw [e3]
  exact h h' F' N'

/-- the loop's last turn, a written replacement -/
theorem loop_end0 {pa pl : Addr} {l : List Nat} {tk t0 : Tok} {k : Nat} {code : List Nat} {nn : Nat} {rest : List (Addr × Obj)} {R : Result → Shared → Prop}
    (F : Fr h₀ L s.heap m) (N : News h₀ L s.heap ((pl, listOf [.str ⟨[].toArray⟩ t0].toArray nn) :: rest)) (hap : ∀ p ∈ rest, p.1 ≠ pl) (hp : PatAt s.heap pa code 0) (hl : l.length ≤ 200) (hkl : k ≤ l.length)
    (Rn : Runs (Sre.forSearch code.toArray l.toArray 0 k l.length false) Miss)
    (h : ∀ h' tk' tp t1 t2, Fr h₀ L h' m → News h₀ L h' ((tp, { cls := .type "tuple", data := .seq #[.str ⟨(l.drop k).toArray⟩ t1, .int 1 t2] }) :: rest) → (∀ q ∈ rest, q.1 < tp) → R (.ok (.ret (.ref tp))) { s with heap := h', toks := tk' }) :
    codeAny (model prog w) A (.builtin "re.Pattern.sub.loop" (loopArgs pa ⟨l.toArray⟩ tk (.str ⟨#[]⟩ t0) 0 1 k k false pl true)) R s := by
  refine codeAny_builtin entry_subloop ?_
  rw [under_loop]
  unfold Builtin.«re.Pattern.sub.loop»
  refine wpAny_bind (wp_whole hp ?_)
  dsimp only
  rw [if_pos (by decide)]
  refine wpAny_bind (m := reLiteralCannotBeTurned (.str ⟨#[]⟩ t0)) ?_
  unfold reLiteralCannotBeTurned
  refine wpAny_bind (m := asStr? (.str ⟨#[]⟩ t0)) (wpAny_pure (wpAny_pure ?_))
  refine wpAny_bind (wpAny_mono (wp_none (n := 1) (d := k) (by simpa using Rn)) (fun r s' hr => ?_) fun _ _ x => x)
  obtain ⟨rfl, hs⟩ := hr
  rw [hs]; clear hs
  dsimp only
  have last : ∀ (s' : Shared) (vs' : List Value) (ls' : List (List Nat)) (nn' : Nat), (∃ h' tk', s' = { s with heap := h', toks := tk' }) → Fr h₀ L s'.heap m → News h₀ L s'.heap ((pl, listOf vs'.toArray nn') :: rest) → Texts vs' ls' → vs' ≠ [] → ls'.flatten = l.drop k → ls'.length ≤ 1001 →
      wpAny (model prog w) A.in1 (do
        let joiner ← reSlice l.toArray 0 0 0
        let items ← seqItems? (.ref pl)
        if (items.getD #[]).isEmpty = true then (pure joiner >>= fun text => (do ret (← holding [text] do newTuple [text, ← mkInt 1]))) else (call (.builtin "str.join") [joiner, .ref pl] >>= fun text => (do ret (← holding [text] do newTuple [text, ← mkInt 1]))))
        (fun fin s' => match fin with | .done f => R (.ok f) s' | .again c' => c'.quiet = true ∧ codeAny (model prog w) A c' R s') (fun e s' => R (.error e) s') s' := by
    rintro s' vs' ls' nn' ⟨h', tk', rfl⟩ F' N' ht' hv hfl' hls'
    refine wpAny_bind (wp_slice hl fun t1 tk1 => ?_)
    refine wpAny_bind (wpAny_seqItems (N' _ (.head _)).1 rfl ?_)
    have e0 : (⟨((l.drop 0).take (0 - 0)).toArray⟩ : Str) = ⟨#[]⟩ := by simp
    rw [e0]
    rw [if_neg (by simpa using hv)]
    refine wpAny_bind (wp_join (ls := ls') N' ht' (by rw [hfl', List.length_drop]; omega) fun t2 tk2 => ?_)
    rw [hfl']
    refine wpAny_bind (wpAny_holding (wpAny_bind (wpAny_mkInt ?_)))
    have N'' : News h₀ L h' rest := fun q hq => N' q (.tail _ hq)
    refine newTuple_N F' N'' (fun h1 F1 N1 => wpAny_pure ?_) (by show (2 : Nat) ≤ sizeLine; decide)
    exact h _ _ _ _ _ F1 N1 (fun q hq => Heap.lt_size (N'' q hq).1)
  by_cases hdl : ((k : Nat) : Int).toNat < l.toArray.size
  · rw [if_pos hdl]
    rw [Int.toNat_natCast, List.size_toArray] at hdl
    refine wpAny_bind (wp_slice hl fun t1 tk1 => ?_)
    refine wpAny_bind (wp_push F N hap (by simp) fun h' F' N' => ?_)
    refine last _ _ [[], l.drop k] _ ⟨_, _, rfl⟩ F' N' ?_ (by simp) (by simp) (by simp)
    have e2 : ((l.drop ((k : Nat) : Int).toNat).take (l.toArray.size - ((k : Nat) : Int).toNat)) = l.drop k := by
      rw [Int.toNat_natCast, List.size_toArray]; exact List.take_of_length_le (by simp)
    rw [e2]
    exact .cons (.cons .nil)
  · rw [if_neg hdl]
    rw [Int.toNat_natCast, List.size_toArray] at hdl
    have e3 : l.drop k = [] := List.drop_eq_nil_of_le (by omega)
    exact last _ _ [[]] nn ⟨_, _, rfl⟩ F N (.cons .nil) (by simp) (by rw [e3]; simp) (by simp)

theorem subn_N {l : List Nat} {pa : Addr} {tk t0 : Tok} {news : List (Addr × Obj)} {Q : Value → Shared → Prop} (F : Fr h₀ L s.heap m) (N : News h₀ L s.heap news) (hp : PatAt h₀ pa twinC 0) (hl : l.length ≤ 200) (hk : 0 < jkLen l)
    (h : ∀ h' tk' tp t1 t2, Fr h₀ L h' m → News h₀ L h' ((tp, { cls := .type "tuple", data := .seq #[.str ⟨(l.drop (jkLen l)).toArray⟩ t1, .int 1 t2] }) :: news) → (∀ q ∈ news, q.1 < tp) → Q (.ref tp) { s with heap := h', toks := tk' }) :
    wpAny (model prog w) A (call (.builtin "re.Pattern.subn") [.ref pa, .str ⟨#[]⟩ t0, .str ⟨l.toArray⟩ tk]) Q E s := by
  have hp' := hp.frn F
  have hkl : jkLen l ≤ l.length := by have := (runLen_facts isJk l 0 (by omega)).1; unfold jkLen; omega
  refine wpAny_call (codeAny_call_builtin slot_subn.plain entry_subn (slot_subn.check _ _ _ _ _ _ _ _ (hp'.type rfl) (args_subn _ _ _) ?_))
  show wpAny _ _ (reSubstitute "re.Pattern.subn" "subn" true ⟨[.ref pa, .str ⟨#[]⟩ t0, .str ⟨l.toArray⟩ tk], []⟩) _ _ _
  unfold reSubstitute
  dsimp only
  rw [named_sub]
  refine wpAny_bind (wpAny_pure ?_)
  dsimp only
  refine wpAny_bind (wpAny_pure ?_)
  refine wpAny_bind (wpAny_specialOf (T := "str") (typeIs_str _ _ _) look_str_call ?_)
  rw [if_neg (by decide)]
  refine wpAny_bind (m := asStr? (.str ⟨#[]⟩ t0)) (wpAny_pure ?_)
  dsimp only
  refine wpAny_bind (wpAny_pure ?_)
  rw [if_neg (by decide), if_pos (by simp)]
  refine wpAny_bind (wpAny_pure ?_)
  refine wpAny_bind (wpAny_holding (wp_whole hp' ?_))
  rw [if_neg (show ¬ ((0 : Int) == 1) = true by decide)]
  refine wpAny_bind (newList_N F N (fun h1 F1 N1 => wpAny_pure ⟨quiet_loop _, ?_⟩) (by show (0 : Nat) ≤ sizeLine; decide))
  have hap : ∀ q ∈ news, q.1 ≠ s.heap.objs.size := fun q hq => Nat.ne_of_lt (Heap.lt_size (N q hq).1)
  refine loop_first0 F1 N1 hap (hp.frn F1) hk (runs_of (twin_hit hl) (by omega) hit0_of) fun h2 F2 N2 => ?_
  refine loop_end0 F2 N2 hap (hp.frn F2) hl hkl (runs_of (twin_again hk hkl hl) (by omega) miss_of') fun h' tk' tp t1 t2 F' N' l1 => ?_
  exact h h' tk' tp t1 t2 F' N' l1
end
end

section
/-! the while loop of split_header_words, told purely -/
abbrev Pr := List Nat × Option (List Nat)
def prDat (q : Pr) : Dat := .tuple [.str (S q.1), match q.2 with | some v => .str (S v) | none => .none]
def lsDat (ps : List Pr) : Dat := .list (ps.map prDat)

abbrev nmLen (l : List Nat) : Nat := runLen isNm l (spLen l)
abbrev nmOf (l : List Nat) : List Nat := (l.drop (spLen l)).take (spLen l + nmLen l - spLen l)
abbrev restOf (l : List Nat) : List Nat := l.drop (spLen l + nmLen l)
abbrev vlAt (r : List Nat) : Nat := spLen r + 1 + sp2 r
abbrev vlEnd (r : List Nat) : Nat := vlAt r + runLen isVl r (vlAt r)
abbrev qbAt (r : List Nat) : Nat := spLen r + 1 + sp2 r + 1
def commaAt (l : List Nat) : Prop := spLen l < l.length ∧ l.toArray.getD (spLen l) 0 = 44

inductive Loop : List Nat → List Pr → List (List Pr) → List Pr → List (List Pr) → Prop
  | nil {ps : List Pr} {rs : List (List Pr)} : Loop [] ps rs ps rs
  | none {l : List Nat} {ps ps' : List Pr} {rs rs' : List (List Pr)} : 0 < nmLen l → ¬ eqAt (restOf l) → Loop (restOf l) (ps ++ [(nmOf l, Option.none)]) rs ps' rs' → Loop l ps rs ps' rs'
  | val {l : List Nat} {ps ps' : List Pr} {rs rs' : List (List Pr)} : 0 < nmLen l → eqAt (restOf l) → (¬ qAt (restOf l) ∨ restOf l = [61, 34]) →
      Loop ((restOf l).drop (vlEnd (restOf l))) (ps ++ [(nmOf l, some (((restOf l).drop (vlAt (restOf l))).take (vlEnd (restOf l) - vlAt (restOf l))))]) rs ps' rs' → Loop l ps rs ps' rs'
  | quo {l v : List Nat} {e : Nat} {ps ps' : List Pr} {rs rs' : List (List Pr)} : 0 < nmLen l → eqAt (restOf l) → qAt (restOf l) → Body (restOf l) (qbAt (restOf l) + runLen isQb (restOf l) (qbAt (restOf l))) e →
      Esc (((restOf l).drop (qbAt (restOf l))).take (e - qbAt (restOf l))) 0 v →
      Loop ((restOf l).drop (e + 1)) (ps ++ [(nmOf l, some v)]) rs ps' rs' → Loop l ps rs ps' rs'
  | comma {l : List Nat} {ps ps' : List Pr} {rs rs' : List (List Pr)} : nmLen l = 0 → commaAt l → Loop (l.drop (spLen l + 1)) [] (if ps = [] then rs else rs ++ [ps]) ps' rs' → Loop l ps rs ps' rs'
  | junk {l : List Nat} {ps ps' : List Pr} {rs rs' : List (List Pr)} : nmLen l = 0 → l ≠ [] → ¬ commaAt l → 0 < jkLen l → Loop (l.drop (jkLen l)) ps rs ps' rs' → Loop l ps rs ps' rs'

/-- the table of split_header_words' own code -/
def TabOk (rest : List (Addr × Obj)) (tab : Array Value) (pos : Pos) (qual : Str) : Prop :=
  tab = #[] ∨ ∃ c' oc vs t, tab = #[rawInt pos.line, rawInt pos.col, .ref c'] ∧ (c', oc) ∈ rest ∧ oc.data = .fields vs ∧ vs[1]? = some (.str qual t)

section
variable {h₀ : Heap} {L : Addr} {h : Heap} {m : Str → Option Value}
theorem fr3 {a b c : Str} {va vb vc : Value} (F : Fr h₀ L h m) (ha : m a = some va) (hb : m b = some vb) (hc : m c = some vc) : Fr h₀ L h (fun y => if y = a then some va else if y = b then some vb else if y = c then some vc else m y) := by
  have e : (fun y => if y = a then some va else if y = b then some vb else if y = c then some vc else m y) = m := by
    funext y
    by_cases h1 : y = a
    · simp [h1, ha]
    · by_cases h2 : y = b
      · simp [h2, hb]; intro h; rw [← h, hb] at ha; exact (Option.some.inj ha).symm
      · by_cases h3 : y = c
        · subst h3; simp [h1, h2, hc]
        · simp [h1, h2, h3]
  rw [e]; exact F
end
section
variable {prog : Program} {w : World} {A : Around} {E : Value → Shared → Prop} {s : Shared} {h₀ : Heap} {L : Addr} {m : Str → Option Value} {news : List (Addr × Obj)}
theorem append_any {D : Addr} {ys : List Value} {n : Nat} {x : Value} {Q : Value → Shared → Prop} (F : Fr h₀ L s.heap m) (N : News h₀ L s.heap news) (hm : (D, listOf ys.toArray n) ∈ news) (hsz : ys.length ≤ 1000)
    (h : ∀ h', Fr h₀ L h' m → (∀ nw : List (Addr × Obj), (∀ q ∈ nw, q ∈ news ∧ q.1 ≠ D) → News h₀ L h' ((D, listOf (ys ++ [x]).toArray (n + 1)) :: nw)) → Q .none { s with heap := h' }) :
    wpAny (model prog w) A (call (.builtin "list.append") [.ref D, x]) Q E s := by
  refine append_at (N _ hm).1 (fun h' hs ho' => ?_) (by rw [List.size_toArray, sizeLine_eq]; omega)
  have e : ys.toArray.push x = (ys ++ [x]).toArray := by simp
  rw [e] at ho'
  refine h h' (F.change hs (N _ hm).2.1 (N _ hm).2.2) fun nw hnw q hq => ?_
  rcases List.mem_cons.mp hq with rfl | hq
  · exact ⟨ho', (N _ hm).2⟩
  · obtain ⟨h1, h2⟩ := hnw q hq
    exact ⟨(hs.2 q.1 h2).trans (N q h1).1, (N q h1).2⟩
end
section
variable {w : World} {h : Heap}
theorem pat_twin (X : (hd.heap_39 w.params).In h) : PatAt h 36 twinC 0 := ⟨_, _, 35, _, _, X 36 _ rfl, rfl, rfl, rfl, rfl, rfl, rfl, X 35 _ rfl, rfl⟩
theorem pat_tok (X : (hd.heap_39 w.params).In h) : PatAt h 48 tokC 1 := ⟨_, _, 47, _, _, X 48 _ rfl, rfl, rfl, rfl, rfl, rfl, rfl, X 47 _ rfl, rfl⟩
theorem pat_quo (X : (hd.heap_39 w.params).In h) : PatAt h 53 quoC 1 := ⟨_, _, 52, _, _, X 53 _ rfl, rfl, rfl, rfl, rfl, rfl, rfl, X 52 _ rfl, rfl⟩
theorem pat_val (X : (hd.heap_39 w.params).In h) : PatAt h 58 valC 1 := ⟨_, _, 57, _, _, X 58 _ rfl, rfl, rfl, rfl, rfl, rfl, rfl, X 57 _ rfl, rfl⟩
theorem pat_esc (X : (hd.heap_39 w.params).In h) : PatAt h 63 escC 1 := ⟨_, _, 62, _, _, X 63 _ rfl, rfl, rfl, rfl, rfl, rfl, rfl, X 62 _ rfl, rfl⟩
end
section
variable {prog : Program} {w : World} {A : Around} {E : Value → Shared → Prop} {s : Shared} {h₀ : Heap} {L : Addr} {m : Str → Option Value} {news : List (Addr × Obj)} {l : List Nat} {tk : Tok} {Q : Value → Shared → Prop}
theorem small_int (hl : l.length ≤ 200) : (((S l).cps.size : Nat) : Int) < 2 ^ 63 - 1 := by show ((l.toArray.size : Nat) : Int) < _; rw [List.size_toArray]; omega
theorem size_S (l : List Nat) : (S l).cps.size = l.length := by show l.toArray.size = _; simp
theorem tok_yes (F : Fr h₀ L s.heap m) (N : News h₀ L s.heap news) (X : (hd.heap_39 w.params).In h₀) (hl : l.length ≤ 200) (hk : 0 < nmLen l)
    (h : ∀ mt sp h' li, Fr h₀ L h' m → News h₀ L h' ((mt, matObj (S l) tk 48 (S l).cps.size li sp) :: (sp, spanObj [0, spLen l + nmLen l, spLen l, spLen l + nmLen l]) :: news) → (∀ q ∈ news, q.1 < sp) → sp < mt → Q (.ref mt) { s with heap := h' }) :
    wpAny (model prog w) A (call (.builtin "re.Pattern.search") [.ref 48, .str (S l) tk]) Q E s :=
  search_hit F N ((pat_tok X).frn F) (by rw [size_S]; exact runs_of (tok_hit hl hk) (by omega) hit1_of) (by omega) (small_int hl) h
theorem tok_no (F : Fr h₀ L s.heap m) (X : (hd.heap_39 w.params).In h₀) (hl : l.length ≤ 200) (hk : nmLen l = 0) (h : Q .none s) :
    wpAny (model prog w) A (call (.builtin "re.Pattern.search") [.ref 48, .str (S l) tk]) Q E s :=
  search_miss ((pat_tok X).frn F) (by rw [size_S]; exact runs_of (tok_miss hl hk) (by omega) miss_of') (small_int hl) h
theorem val_yes (F : Fr h₀ L s.heap m) (N : News h₀ L s.heap news) (X : (hd.heap_39 w.params).In h₀) (hl : l.length ≤ 200) (he : eqAt l)
    (h : ∀ mt sp h' li, Fr h₀ L h' m → News h₀ L h' ((mt, matObj (S l) tk 58 (S l).cps.size li sp) :: (sp, spanObj [0, vlEnd l, vlAt l, vlEnd l]) :: news) → (∀ q ∈ news, q.1 < sp) → sp < mt → Q (.ref mt) { s with heap := h' }) :
    wpAny (model prog w) A (call (.builtin "re.Pattern.search") [.ref 58, .str (S l) tk]) Q E s :=
  search_hit F N ((pat_val X).frn F) (by rw [size_S]; exact runs_of (val_hit hl he) (by omega) hit1_of) (Nat.le_add_right _ _) (small_int hl) h
theorem val_no (F : Fr h₀ L s.heap m) (X : (hd.heap_39 w.params).In h₀) (hl : l.length ≤ 200) (he : ¬ eqAt l) (h : Q .none s) :
    wpAny (model prog w) A (call (.builtin "re.Pattern.search") [.ref 58, .str (S l) tk]) Q E s :=
  search_miss ((pat_val X).frn F) (by rw [size_S]; exact runs_of (val_miss hl he) (by omega) miss_of') (small_int hl) h
theorem quo_yes (F : Fr h₀ L s.heap m) (N : News h₀ L s.heap news) (X : (hd.heap_39 w.params).In h₀) (hl : l.length ≤ 200) (he : eqAt l) (hq : qAt l) {e : Nat} (hb : Body l (qbAt l + runLen isQb l (qbAt l)) e)
    (h : ∀ mt sp h' li, Fr h₀ L h' m → News h₀ L h' ((mt, matObj (S l) tk 53 (S l).cps.size li sp) :: (sp, spanObj [0, e + 1, qbAt l, e]) :: news) → (∀ q ∈ news, q.1 < sp) → sp < mt → Q (.ref mt) { s with heap := h' }) :
    wpAny (model prog w) A (call (.builtin "re.Pattern.search") [.ref 53, .str (S l) tk]) Q E s :=
  search_hit F N ((pat_quo X).frn F) (by rw [size_S]; exact runs_of (quo_hit hl he hq hb) (by omega) hit1_of) (by have := hb.le; omega) (small_int hl) h
theorem quo_no1 (F : Fr h₀ L s.heap m) (X : (hd.heap_39 w.params).In h₀) (hl : l.length ≤ 200) (he : ¬ eqAt l) (h : Q .none s) :
    wpAny (model prog w) A (call (.builtin "re.Pattern.search") [.ref 53, .str (S l) tk]) Q E s :=
  search_miss ((pat_quo X).frn F) (by rw [size_S]; exact runs_of (quo_miss1 hl he) (by omega) miss_of') (small_int hl) h
theorem quo_no2 (F : Fr h₀ L s.heap m) (X : (hd.heap_39 w.params).In h₀) (hl : l.length ≤ 200) (he : eqAt l) (hq : ¬ qAt l ∨ l = [61, 34]) (h : Q .none s) :
    wpAny (model prog w) A (call (.builtin "re.Pattern.search") [.ref 53, .str (S l) tk]) Q E s := by
  refine search_miss ((pat_quo X).frn F) (by
    rw [size_S]
    rcases hq with hq | rfl
    · exact runs_of (quo_miss2 hl he hq) (by omega) miss_of'
    · exact runs_of quo_open (by omega) miss_of') (small_int hl) h
end
end

section
section
variable {prog : Program} {w : World} {A : Around} {E : Value → Shared → Prop} {s : Shared} {env : Env} {h₀ : Heap} {x : Str} {body : List Stmt} {Q : Flow → Shared → Prop}
/-- a loop over a made list, by what holds between its turns -/
theorem iter_mine {l : Addr} {vs : List Value} {nl : Nat} {m₀ : Str → Option Value} {news : List (Addr × Obj)} (J : Nat → (Str → Option Value) → List (Addr × Obj) → Prop)
    (hh : A.handled = none) (hl : (l, listOf vs.toArray nl) ∈ news) (F : Fr h₀ env.locals s.heap m₀) (N : News h₀ env.locals s.heap news) (hj : J 0 m₀ news)
    (turn : ∀ I i v m₁ news₁ h tk own it, vs[i]? = some v → J i m₁ news₁ → (∀ q ∈ own, q.1 = I ∨ q.1 = l) → (∀ q ∈ news₁, q.1 ≠ I) → (I, it) ∈ own → Fr h₀ env.locals h (fun y => if y = x then some v else m₁ y) → News h₀ env.locals h (own ++ news₁) →
      wpAny (model prog w) A (execs body env) (fun f s₂ => match f with
        | .ret v => Q (.ret v) s₂
        | .brk => Q .next s₂
        | _ => ∃ h' tk' m₂ news₂, s₂ = { s with heap := h', toks := tk' } ∧ Fr h₀ env.locals h' m₂ ∧ News h₀ env.locals h' (own ++ news₂) ∧ (∀ q ∈ news₂, q.1 ≠ I) ∧ J (i + 1) m₂ news₂) E { s with heap := h, toks := tk })
    (done : ∀ m₁ news₁ h tk, J vs.length m₁ news₁ → Fr h₀ env.locals h m₁ → News h₀ env.locals h news₁ → Q .next { s with heap := h, toks := tk }) :
    wpAny (model prog w) A (pyIter (.ref l)) (fun it s₂ => LoopAtV prog w A h₀ env x body Q E it s₂) E s := by
  have hls : s.heap.IsList l vs.toArray := News.isList N hl
  have hlt : l < s.heap.objs.size := Heap.lt_size (N _ hl).1
  have hne : l ≠ s.heap.objs.size := Nat.ne_of_lt hlt
  refine wpAny_pyIter_list hls ?_
  have W := Walks.list (prog := prog) (w := w) hh s.heap.objs.size l hne vs.toArray
  rw [List.size_toArray] at W
  refine ⟨_, _, _, vs.length, _, _, m₀, news, J, rfl, W, ?_, ?_, ?_, ⟨⟨_, Heap.get?_push_size _ rfl, rfl, rfl⟩, hls.at fun o e => Heap.get?_push_of_some _ e⟩, F.push _, (fun p hp => ⟨Heap.get?_push_of_some _ (N p hp).1, (N p hp).2⟩), hj, ?_, ?_⟩
  · intro hm
    rcases List.mem_cons.mp hm with e | hm
    · exact absurd F.ns.lt (e ▸ Nat.lt_irrefl _)
    · exact (N _ hl).2.1 (List.mem_singleton.mp hm).symm
  · intro b hb
    rw [List.mem_singleton.mp hb]
    exact next_is_new F
  · intro p hp hI
    exact absurd (Heap.lt_size (N p hp).1) ((List.mem_singleton.mp hI) ▸ Nat.lt_irrefl _)
  · rintro i v m₁ news₁ s₁ own ⟨hh', tk', rfl⟩ hin hP hJ hoff hown hget hall hst F₁ N₁
    obtain ⟨oI, hoI⟩ : ∃ o, hh'.get? s.heap.objs.size = some o := by
      obtain ⟨⟨o, e, _⟩, _⟩ := hst
      exact ⟨o, e⟩
    have hIn := hall s.heap.objs.size (List.mem_cons_self ..) (next_is_new F) _ hoI
    have hP' : vs[i]? = some v := by simpa using hP
    refine wpAny_mono (turn s.heap.objs.size i v m₁ news₁ hh' tk' own oI hP' hJ (fun q hq => ?_) (fun q hq e => hoff q hq (List.mem_singleton.mpr e)) hIn F₁ N₁) (fun f s₂ p => ?_) fun _ _ e => e
    · rcases List.mem_cons.mp (hown q hq) with h1 | h1
      · exact .inl h1
      · exact .inr (List.mem_singleton.mp h1)
    · cases f with
      | ret v => exact .ret p
      | brk => exact .brk p
      | next =>
        obtain ⟨h', tk, m₂, news₂, rfl, F', N', ho, hJ'⟩ := p
        exact .next ⟨rfl, h', tk, m₂, news₂, rfl, F', N', fun p hp hI => ho p hp (List.mem_singleton.mp hI), hJ'⟩
      | cont =>
        obtain ⟨h', tk, m₂, news₂, rfl, F', N', ho, hJ'⟩ := p
        exact .cont ⟨rfl, h', tk, m₂, news₂, rfl, F', N', fun p hp hI => ho p hp (List.mem_singleton.mp hI), hJ'⟩
  · rintro h' tk m' news' F' N' _ hJ
    exact done m' news' h' tk hJ F' N'
end
def Apart (r p : Addr) (q : Addr × Obj) : Prop := q.1 ≠ r ∧ q.1 ≠ p ∧ q.1 ≠ 65

/-- what holds between the turns of the while -/
inductive WJ (own : List (Addr × Obj)) (I : Addr) (pos : Pos) (qual : Str) (psE : List Pr) (rsE : List (List Pr)) (base : List (Addr × Obj)) (K : Nat) : Nat → (Str → Option Value) → List (Addr × Obj) → Prop
  | mk {l : List Nat} {ps : List Pr} {rs : List (List Pr)} {tk : Tok} {r p : Addr} {nr np : Nat} {vr vp : List Value} {tab : Array Value} {rest : List (Addr × Obj)} {m : Str → Option Value} :
      m (Str.ofString "text") = some (.str (S l) tk) → m (Str.ofString "result") = some (.ref r) → m (Str.ofString "pairs") = some (.ref p) →
      Loop l ps rs psE rsE → l.length ≤ 200 → ps.length + l.length ≤ 300 → rs.length + l.length ≤ K → DatAll rest vr (rs.map lsDat) → DatAll rest vp (ps.map prDat) → TabOk rest tab pos qual →
      r ≠ p → r ≠ 65 → p ≠ 65 → (∀ q ∈ own, Apart r p q) → (∀ q ∈ rest, Apart r p q ∧ q.1 ≠ I) → (∀ q ∈ base, q ∈ rest) →
      WJ own I pos qual psE rsE base K l.length m ((r, listOf vr.toArray nr) :: (p, listOf vp.toArray np) :: (65, tabObj tab) :: (own ++ rest))

/-- the lists of several texts -/
inductive SplitAll : List (List Nat) → List (List Pr) → List (List Pr) → Prop
  | nil {rs : List (List Pr)} : SplitAll [] rs rs
  | cons {t : List Nat} {ts : List (List Nat)} {ps : List Pr} {rs rs1 rs' : List (List Pr)} : Loop t [] rs ps rs1 → SplitAll ts (if ps = [] then rs1 else rs1 ++ [ps]) rs' → SplitAll (t :: ts) rs rs'

/-- what holds between the turns of the for -/
inductive FJ (pos : Pos) (qual : Str) (ts : List (List Nat)) (rsE : List (List Pr)) (base : List (Addr × Obj)) : Nat → (Str → Option Value) → List (Addr × Obj) → Prop
  | mk {i : Nat} {rs : List (List Pr)} {r : Addr} {nr : Nat} {vr : List Value} {tab : Array Value} {rest : List (Addr × Obj)} {m : Str → Option Value} :
      m (Str.ofString "result") = some (.ref r) → SplitAll (ts.drop i) rs rsE → rs.length ≤ 201 * i → DatAll rest vr (rs.map lsDat) → TabOk rest tab pos qual → r ≠ 65 → (∀ q ∈ rest, q.1 ≠ r ∧ q.1 ≠ 65) → (∀ q ∈ base, q ∈ rest) →
      FJ pos qual ts rsE base i m ((r, listOf vr.toArray nr) :: (65, tabObj tab) :: rest)

theorem nm_le (l : List Nat) : spLen l + nmLen l ≤ l.length := (runLen_facts isNm l (spLen l) (sp_facts l).1).1
theorem restOf_lt {l : List Nat} (h : 0 < nmLen l) : (restOf l).length < l.length := by
  have := nm_le l
  show (l.drop (spLen l + nmLen l)).length < _
  rw [List.length_drop]; omega

theorem allLt_mem {d : Nat} : ∀ {l : List (Addr × Obj)}, AllLt d l → ∀ p ∈ l, p.1 < d
  | [], _, _, h => nomatch h
  | _ :: _, x, p, h => by
    rcases List.mem_cons.mp h with rfl | h
    · exact x.1
    · exact allLt_mem x.2 p h

/-- the while's turn that ends by pairs.append -/
theorem WJ.snoc {own : List (Addr × Obj)} {I : Addr} {pos : Pos} {qual : Str} {psE : List Pr} {rsE : List (List Pr)} {base : List (Addr × Obj)} {K : Nat} {g h' : Heap} {L : Addr} {l' nm : List Nat} {val : Option (List Nat)} {ps : List Pr} {rs : List (List Pr)} {tk t1 : Tok} {r p D : Addr} {nr np : Nat} {vr vp : List Value} {v : Value} {tab : Array Value} {rest restN news6 : List (Addr × Obj)} {m₂ : Str → Option Value}
    (_F : Fr g L h' m₂) (hm1 : m₂ (Str.ofString "text") = some (.str (S l') tk)) (hm2 : m₂ (Str.ofString "result") = some (.ref r)) (hm3 : m₂ (Str.ofString "pairs") = some (.ref p))
    (hL : Loop l' (ps ++ [(nm, val)]) rs psE rsE) (hl : l'.length ≤ 200) (hpl : ps.length + 1 + l'.length ≤ 300) (hrl : rs.length + l'.length ≤ K)
    (hDr : DatAll rest vr (rs.map lsDat)) (hDp : DatAll rest vp (ps.map prDat)) (hTab : TabOk restN tab pos qual) (hsub : ∀ q ∈ rest, q ∈ restN) (hv : (∃ u t, val = some u ∧ v = .str (S u) t) ∨ (val = none ∧ v = .none))
    (hrp : r ≠ p) (hr65 : r ≠ 65) (hp65 : p ≠ 65) (howA : ∀ q ∈ own, Apart r p q) (hrsN : ∀ q ∈ restN, Apart r p q ∧ q.1 ≠ I) (hbase : ∀ q ∈ base, q ∈ restN)
    (hD1 : r < D) (hD2 : p < D) (hD3 : (65 : Nat) < D) (hD4 : D ≠ I)
    (Nn : ∀ nw : List (Addr × Obj), (∀ q ∈ nw, q ∈ news6 ∧ q.1 ≠ p) → News g L h' ((p, listOf (vp ++ [Value.ref D]).toArray (np + 1)) :: nw))
    (mr : (r, listOf vr.toArray nr) ∈ news6) (mt : (65, tabObj tab) ∈ news6) (md : (D, ({ cls := .type "tuple", data := .seq #[.str (S nm) t1, v] } : Obj)) ∈ news6) (mo : ∀ q ∈ own, q ∈ news6) (mn : ∀ q ∈ restN, q ∈ news6) :
    ∃ news₂, News g L h' news₂ ∧ WJ own I pos qual psE rsE base K l'.length m₂ news₂ := by
  refine ⟨_, ?_, WJ.mk (rest := (D, ({ cls := .type "tuple", data := .seq #[.str (S nm) t1, v] } : Obj)) :: restN) (vr := vr) (vp := vp ++ [.ref D]) (nr := nr) (np := np + 1) (tab := tab) hm1 hm2 hm3 hL hl (by simp; omega) hrl (hDr.mono fun q hq => .tail _ (hsub q hq)) ?_ ?_ hrp hr65 hp65 howA ?_ fun q hq => .tail _ (hbase q hq)⟩
  · have N := Nn ((r, listOf vr.toArray nr) :: (65, tabObj tab) :: (own ++ ((D, ({ cls := .type "tuple", data := .seq #[.str (S nm) t1, v] } : Obj)) :: restN))) (fun q hq => by
      rcases List.mem_cons.mp hq with rfl | hq
      · exact ⟨mr, hrp⟩
      rcases List.mem_cons.mp hq with rfl | hq
      · exact ⟨mt, Ne.symm hp65⟩
      rcases List.mem_append.mp hq with hq | hq
      · exact ⟨mo q hq, (howA q hq).2.1⟩
      rcases List.mem_cons.mp hq with rfl | hq
      · exact ⟨md, Nat.ne_of_gt hD2⟩
      · exact ⟨mn q hq, (hrsN q hq).1.2.1⟩)
    exact fun q hq => N q (by
      rcases List.mem_cons.mp hq with rfl | hq
      · exact .tail _ (.head _)
      rcases List.mem_cons.mp hq with rfl | hq
      · exact .head _
      · exact .tail _ (.tail _ hq))
  · rw [List.map_append]
    refine DatAll.append (hDp.mono fun q hq => .tail _ (hsub q hq)) (.one ?_)
    show DatIn _ _ (prDat (nm, val))
    refine DatIn.tuple (vs := [.str (S nm) t1, v]) (n := 0) (.head _) (.cons (.str _ _) (.one ?_))
    rcases hv with ⟨u, t, rfl, rfl⟩ | ⟨rfl, rfl⟩
    · exact .str _ _
    · exact .none
  · rcases hTab with h | ⟨c', oc, vs, t, h1, h2, h3⟩
    · exact .inl h
    · exact .inr ⟨c', oc, vs, t, h1, .tail _ h2, h3⟩
  · intro q hq
    rcases List.mem_cons.mp hq with rfl | hq
    · exact ⟨⟨Nat.ne_of_gt hD1, Nat.ne_of_gt hD2, Nat.ne_of_gt hD3⟩, hD4⟩
    · exact hrsN q hq
end

section
theorem truthy_mine {prog : Program} {w : World} {A : Around} {E : Value → Shared → Prop} {s : Shared} {h₀ : Heap} {L : Addr} {news : List (Addr × Obj)} {D : Addr} {ys : List Value} {n : Nat} {Q : Bool → Shared → Prop} (N : News h₀ L s.heap news) (hm : (D, listOf ys.toArray n) ∈ news) (hsz : ys.length ≤ 1000)
    (h : Q (!ys.isEmpty) { s with toks := s.toks + 1 + 1 }) : wpAny (model prog w) A (truthy (.ref D)) Q E s :=
  wpAny_truthy_list (News.isList N hm) (by rw [List.size_toArray]; omega) (by
    have e : ys.toArray.isEmpty = ys.isEmpty := by cases ys <;> rfl
    rw [e]; exact h)

section
variable {prog : Program} {w : World} {A : Around} {E : Value → Shared → Prop} {s : Shared} {h₀ : Heap} {L : Addr} {m : Str → Option Value} {news : List (Addr × Obj)} {pl : Sem Bool} {Qm : Value × List Value → Shared → Prop}
theorem getm_tok (F : Fr h₀ L s.heap m) (X : (hd.heap_39 w.params).In h₀) (h : Qm (.builtin "re.Pattern.search", [.ref 48]) s) : wpAny (model prog w) A (getMethod (.ref 48) (Str.ofString "search") pl) Qm E s := getm_pat ((pat_tok X).frn F) slot_search ty_search h
theorem getm_quo (F : Fr h₀ L s.heap m) (X : (hd.heap_39 w.params).In h₀) (h : Qm (.builtin "re.Pattern.search", [.ref 53]) s) : wpAny (model prog w) A (getMethod (.ref 53) (Str.ofString "search") pl) Qm E s := getm_pat ((pat_quo X).frn F) slot_search ty_search h
theorem getm_val (F : Fr h₀ L s.heap m) (X : (hd.heap_39 w.params).In h₀) (h : Qm (.builtin "re.Pattern.search", [.ref 58]) s) : wpAny (model prog w) A (getMethod (.ref 58) (Str.ofString "search") pl) Qm E s := getm_pat ((pat_val X).frn F) slot_search ty_search h
theorem getm_esc (F : Fr h₀ L s.heap m) (X : (hd.heap_39 w.params).In h₀) (h : Qm (.builtin "re.Pattern.sub", [.ref 63]) s) : wpAny (model prog w) A (getMethod (.ref 63) (Str.ofString "sub") pl) Qm E s := getm_pat ((pat_esc X).frn F) slot_sub ty_sub h
theorem getm_twin (F : Fr h₀ L s.heap m) (X : (hd.heap_39 w.params).In h₀) (h : Qm (.builtin "re.Pattern.subn", [.ref 36]) s) : wpAny (model prog w) A (getMethod (.ref 36) (Str.ofString "subn") pl) Qm E s := getm_pat ((pat_twin X).frn F) slot_subn ty_subn h
theorem group_S {mt : Addr} {l : List Nat} {tk : Tok} {st hd b e : Nat} {t : Tok} {Q : Value → Shared → Prop} (N : News h₀ L s.heap news) (hp : MatIn news mt (S l) tk [st, hd, b, e]) (hl : l.length ≤ 200)
    (h : ∀ t' tk', Q (.str (S ((l.drop b).take (e - b))) t') { s with toks := tk' }) : wpAny (model prog w) A (call (.builtin "re.Match.group") [.ref mt, .int 1 t]) Q E s := by
  refine group_N N hp (by rw [size_S, sizeLine_eq]; omega) ?_
  have e1 : (S l).cps.extract b e = ((l.drop b).take (e - b)).toArray := by show l.toArray.extract b e = _; simp [List.extract_eq_take_drop]
  rw [e1]; exact h _ _
end
theorem truthy_S {prog : Program} {w : World} {A : Around} {E : Value → Shared → Prop} {s : Shared} {l : List Nat} {t : Tok} {Q : Bool → Shared → Prop} (hl : l.length ≤ 200) (hne : l ≠ []) (h : Q true { s with toks := s.toks + 1 + 1 }) : wpAny (model prog w) A (truthy (.str (S l) t)) Q E s := by
  have e := S_len l
  refine P.truthy_str (by rw [e]; omega) ?_
  rw [e]
  have : ((l.length : Int) != 0) = true := by
    have := List.length_pos_iff.mpr hne
    simp; exact hne
  rw [this]; exact h

theorem lstrip_eq (l : List Nat) : Txt.lstrip (S l) = S (l.drop (spLen l)) := by
  unfold Txt.lstrip
  rw [PyProof.Rows.stripBy_eq]
  have e1 : stripLo Unicode.isSpace true (S l) = spLen l := by
    show (l.toArray.toList.takeWhile Unicode.isSpace).length = ((l.drop 0).takeWhile isSp).length
    simp
  have e2 : stripHi Unicode.isSpace false (S l) (spLen l) = l.length := by show (S l).length = _; exact S_len l
  rw [e1, e2]
  show (⟨l.toArray.extract (spLen l) l.length⟩ : Str) = _
  simp only [List.extract_toArray, List.extract_eq_take_drop]
  congr 2
  exact List.take_of_length_le (by simp)
theorem rstrip_eq {v : List Nat} (h : ∀ c ∈ v, Unicode.isSpace c = false) : Txt.rstrip (S v) = S v := by
  unfold Txt.rstrip
  rw [PyProof.Rows.stripBy_eq]
  have e1 : stripLo Unicode.isSpace false (S v) = 0 := rfl
  have e2 : stripHi Unicode.isSpace true (S v) 0 = v.length := by
    show (S v).length - ((v.toArray.toList.drop 0).reverse.takeWhile Unicode.isSpace).length = _
    have : ((v.toArray.toList.drop 0).reverse.takeWhile Unicode.isSpace) = [] := by
      cases hr : v.reverse with
      | nil => simp [hr]
      | cons c r =>
        have hc : c ∈ v := List.mem_reverse.mp (hr ▸ .head _)
        simp [hr, List.takeWhile_cons, h c hc]
    rw [this]; exact S_len v
  rw [e1, e2]
  show (⟨v.toArray.extract 0 v.length⟩ : Str) = _
  simp
section
variable {prog : Program} {w : World} {A : Around} {E : Value → Shared → Prop} {s : Shared} {h₀ : Heap} {L : Addr} {m : Str → Option Value} {news : List (Addr × Obj)} {l : List Nat} {t u : Tok} {Q : Value → Shared → Prop}
theorem S_fits (hl : l.length ≤ 200) : (S l).length ≤ sizeLine := by rw [S_len, sizeLine_eq]; omega
theorem lstrip_S (hl : l.length ≤ 200) (h : ∀ t' k, Q (.str (S (l.drop (spLen l))) t') { s with toks := k }) : wpAny (model prog w) A (call (.builtin "str.lstrip") [.str (S l) t]) Q E s :=
  SC.lstrip (fun t' k => by rw [lstrip_eq]; exact h t' k) (S_fits hl)
theorem rstrip_S (hl : l.length ≤ 200) (hv : ∀ c ∈ l, Unicode.isSpace c = false) (h : ∀ t' k, Q (.str (S l) t') { s with toks := k }) : wpAny (model prog w) A (call (.builtin "str.rstrip") [.str (S l) t]) Q E s :=
  SC.rstrip (fun t' k => by rw [rstrip_eq hv]; exact h t' k) (S_fits hl)
theorem starts_eq (l : List Nat) : Txt.startswith (S l) (Str.ofString ",") = (l.head? == some 44) := by
  unfold Txt.startswith Builtin.Str.subAt
  rw [S_len l]
  have e : (Str.ofString ",").length = 1 := by decide
  have e2 : (Str.ofString ",").cps = #[44] := by decide
  rw [e, e2]
  cases l with
  | nil => rfl
  | cons c r =>
    show (decide (0 + 1 ≤ (c :: r).length) && ((c :: r).toArray.extract 0 (0 + 1) == #[44])) = _
    have e3 : (c :: r).toArray.extract 0 (0 + 1) = #[c] := by simp
    rw [e3]
    simp
theorem starts_yes (hC : commaAt l) (h : Q (.bool true) s) : wpAny (model prog w) A (call (.builtin "str.startswith") [.str (S (l.drop (spLen l))) t, .str (Str.ofString ",") u]) Q E s := by
  refine SC.startswith ?_
  have : Txt.startswith (S (l.drop (spLen l))) (Str.ofString ",") = true := by
    rw [starts_eq, List.head?_drop]
    have h1 := hC.1
    have h2 := hC.2
    rw [getD_arr, List.getD_eq_getElem?_getD, List.getElem?_eq_getElem h1] at h2
    rw [List.getElem?_eq_getElem h1]
    simp at h2 ⊢; exact h2
  rw [this]; exact h
theorem starts_no (hC : ¬ commaAt l) (h : Q (.bool false) s) : wpAny (model prog w) A (call (.builtin "str.startswith") [.str (S (l.drop (spLen l))) t, .str (Str.ofString ",") u]) Q E s := by
  refine SC.startswith ?_
  have : Txt.startswith (S (l.drop (spLen l))) (Str.ofString ",") = false := by
    rw [starts_eq, List.head?_drop]
    by_cases h1 : spLen l < l.length
    · rw [List.getElem?_eq_getElem h1]
      have : l[spLen l] ≠ 44 := fun e => hC ⟨h1, by rw [getD_arr, List.getD_eq_getElem?_getD, List.getElem?_eq_getElem h1]; simpa using e⟩
      simpa using this
    · rw [List.getElem?_eq_none (by omega)]; rfl
  rw [this]; exact h
theorem slice1_eq {x : List Nat} (h : 1 ≤ x.length) : Txt.slice (S x) (some 1) none = S (x.drop 1) := by
  rw [slice_from_eq (x := S x) (i := 1) (b := ((S x).length : Nat)) (by omega) (by have := S_len x; omega) rfl, S_len x]
  have : ((x.length : Int) - 1).toNat = x.length - 1 := by omega
  rw [this]
  show (⟨((x.toArray.toList.drop (1 : Int).toNat).take (x.length - 1)).toArray⟩ : Str) = _
  have e : (x.drop 1).take (x.length - 1) = x.drop 1 := List.take_of_length_le (by simp)
  show (⟨((x.drop 1).take (x.length - 1)).toArray⟩ : Str) = _
  rw [e]
theorem slice1_N {value slice : Expr} {x : List Nat} {ui : Tok} (hF : Fr h₀ L s.heap m) (hN : News h₀ L s.heap news) (hx : 1 ≤ x.length) (hl : x.length ≤ 200) (h : ∀ h' t' k, Fr h₀ L h' m → News h₀ L h' news → Q (.str (S (x.drop 1)) t') { s with heap := h', toks := k })
    (hs : subscripted slice false (.str (S x) t) (.ref s.heap.objs.size) = operate [.ref s.heap.objs.size, .str (S x) t] (getItem (.str (S x) t) (.ref s.heap.objs.size)))
    (ht : ∀ r, letTemporaryGo value (.str (S x) t) r = pure ()) :
    wpAny (model prog w) A (subscriptTail value slice (.str (S x) t) (.ref s.heap.objs.size)) Q E { s with heap := s.heap.push { cls := .type "slice", data := .fields #[.int 1 ui, .none, .none] } } :=
  slice_strN_sn hF hN (fun h' t' k F' N' => by rw [slice1_eq hx]; exact h h' t' k F' N') hs ht (S_fits hl)
theorem subn_S {t0 : Tok} (F : Fr h₀ L s.heap m) (N : News h₀ L s.heap news) (X : (hd.heap_39 w.params).In h₀) (hl : l.length ≤ 200) (hk : 0 < jkLen l)
    (h : ∀ h' tk' tp t1 t2, Fr h₀ L h' m → News h₀ L h' ((tp, { cls := .type "tuple", data := .seq #[.str (S (l.drop (jkLen l))) t1, .int 1 t2] }) :: news) → (∀ q ∈ news, q.1 < tp) → Q (.ref tp) { s with heap := h', toks := tk' }) :
    wpAny (model prog w) A (call (.builtin "re.Pattern.subn") [.ref 36, .str (Str.ofString "") t0, .str (S l) t]) Q E s := by
  have e : Str.ofString "" = ⟨#[]⟩ := by decide
  rw [e]
  exact subn_N F N (pat_twin X) hl hk h
end

theorem add_empty {prog : Program} {w : World} {A : Around} {E : Value → Shared → Prop} {s : Shared} {l : List Nat} {t u : Tok} {Q : Value → Shared → Prop} (hl : l.length ≤ 200) (h : ∀ t' tk, Q (.str (S l) t') { s with toks := tk }) : wpAny (model prog w) A (binaryOp .Add (.str (Str.ofString "") t) (.str (S l) u)) Q E s := by
  refine add_str (fun t' tk => ?_) (by have := S_len l; have e : (Str.ofString "").length = 0 := by decide
                                       rw [sizeLine_eq]; omega)
  have e : Str.ofString "" ++ S l = S l := by
    have e0 : Str.ofString "" = ⟨#[]⟩ := by decide
    rw [e0]
    show Str.append _ _ = _
    simp [Str.append]
  rw [e]; exact h t' tk
theorem Texts.at {vs : List Value} {ts : List (List Nat)} (h : Texts vs ts) : ∀ {i : Nat} {v : Value}, vs[i]? = some v → ∃ t tk, v = .str (S t) tk ∧ ts.drop i = t :: ts.drop (i + 1) ∧ t ∈ ts := by
  induction h with
  | nil => intro i v hv; simp at hv
  | cons _ ih =>
    rename_i l t vs ls _
    intro i v hv
    cases i with
    | zero => exact ⟨l, t, by simpa using hv.symm, by simp, .head _⟩
    | succ i =>
      obtain ⟨t', tk, h1, h2, h3⟩ := ih (i := i) (v := v) (by simpa using hv)
      exact ⟨t', tk, h1, by simpa using h2, .tail _ h3⟩
theorem splitAll_cons {t : List Nat} {ts : List (List Nat)} {rs rs' : List (List Pr)} (h : SplitAll (t :: ts) rs rs') : ∃ ps rs1, Loop t [] rs ps rs1 ∧ SplitAll ts (if ps = [] then rs1 else rs1 ++ [ps]) rs' := by
  cases h with
  | cons a b => exact ⟨_, _, a, b⟩
theorem ne_of_nm {l : List Nat} (h : 0 < nmLen l) : l ≠ [] := by
  rintro rfl
  exact absurd h (by decide)
theorem vl_le {r : List Nat} (h : eqAt r) : vlEnd r ≤ r.length := by
  have h1 := (sp2_facts r h.1).1
  exact (runLen_facts isVl r (vlAt r) h1).1
theorem vl_nosp {r : List Nat} (h : eqAt r) : ∀ c ∈ ((r.drop (vlAt r)).take (vlEnd r - vlAt r)), Unicode.isSpace c = false := by
  have h1 := (sp2_facts r h.1).1
  obtain ⟨a1, a2, _⟩ := runLen_facts isVl r (vlAt r) h1
  intro c hc
  obtain ⟨j, hj, rfl⟩ := List.mem_iff_getElem.mp hc
  have hj' : j < runLen isVl r (vlAt r) := by
    rw [List.length_take, List.length_drop] at hj
    have : vlEnd r - vlAt r = runLen isVl r (vlAt r) := by show vlAt r + _ - vlAt r = _; omega
    omega
  have h2 := a2 j hj'
  rw [getD_arr, List.getD_eq_getElem?_getD, List.getElem?_eq_getElem (by omega)] at h2
  rw [List.getElem_take, List.getElem_drop]
  unfold isVl at h2
  simp only [Option.getD_some, Bool.not_eq_true', Bool.or_eq_false_iff] at h2
  exact h2.1.1
theorem cut_ne {raw : List Nat} {b e : Nat} (hbe : b < e) (hel : e ≤ raw.length) : (raw.drop b).take (e - b) ≠ [] := fun hn => by
  have := congrArg List.length hn
  rw [List.length_take, List.length_drop, List.length_nil] at this
  omega
theorem cut_le {raw : List Nat} {b e n : Nat} (h : raw.length ≤ n) : ((raw.drop b).take (e - b)).length ≤ n := by
  rw [List.length_take, List.length_drop]; omega
end

section
section
variable {M : Model} {A : Around} {E : Value → Shared → Prop} {s : Shared} {g : Heap} {L a r p : Addr} {m mg mb : Str → Option Value} {cn : Str} {cs : Scope} {ccd : Value} {cl : List (Str × Addr)} {pp : Program} {loose : List Str} {mean : ExcName → Option Value}
  {name qual : Str} {params : Arguments} {body : Expr} {scope : Scope} {pos : Pos} {firstLine : Nat} {clos : List (Str × Addr)} {orr op : Obj} {tab : Array Value} {own rest : List (Addr × Obj)}
theorem lam_make {Q : Value → Shared → Prop} (F : Fr g L s.heap m) (N : News g L s.heap ((r, orr) :: (p, op) :: (65, tabObj tab) :: (own ++ rest))) (T : Top pp loose mean mg mb g) (C : CodeHd g 69 65) (hcd : ccd = .ref 69) (hTab : TabOk rest tab pos qual)
    (hcl : closureFor scope (envX cn cs L a ccd cl) = pure clos) (hr65 : r ≠ 65) (hp65 : p ≠ 65) (ho65 : ∀ q ∈ own, q.1 ≠ 65) (hs65 : ∀ q ∈ rest, q.1 ≠ 65)
    (h : ∀ f c' oc vs t ctv h' tk tabN restN, Fr g L h' m → News g L h' ((f, kla_obj name qual params body scope clos ((mg "__name__").getD .none) c' ctv) :: (r, orr) :: (p, op) :: (65, tabObj tabN) :: (own ++ restN)) → (c', oc) ∈ restN → oc.data = .fields vs → vs[1]? = some (.str qual t) → TabOk restN tabN pos qual →
      (∀ q ∈ rest, q ∈ restN) → (∀ q ∈ restN, q ∈ rest ∨ (r < q.1 ∧ p < q.1 ∧ 65 < q.1 ∧ ∀ z ∈ own, z.1 < q.1)) → r < f → p < f → 65 < f → (∀ z ∈ own ++ restN, z.1 < f) → Q (.ref f) { s with heap := h', toks := tk }) :
    wpAny M A (makeFunction name qual params (.expr body) scope (envX cn cs L a ccd cl) [] [] [] pos firstLine) Q E s := by
  rcases hTab with rfl | ⟨c', oc, vs, t, rfl, hc, hd, hv⟩
  · have N0 : News g L s.heap ((65, tabObj #[]) :: ((r, orr) :: (p, op) :: (own ++ rest))) := fun q hq => N q (by
      rcases List.mem_cons.mp hq with rfl | hq
      · exact .tail _ (.tail _ (.head _))
      rcases List.mem_cons.mp hq with rfl | hq
      · exact .head _
      rcases List.mem_cons.mp hq with rfl | hq
      · exact .tail _ (.head _)
      · exact .tail _ (.tail _ (.tail _ hq)))
    refine kla_nest F N0 T C hcd (.head fun q hq => ?_) trivial rfl hcl fun f c' oc vs t ctv h' tk F' N' hd hv hlt hcf => ?_
    · rcases List.mem_cons.mp hq with rfl | hq
      · exact hr65
      rcases List.mem_cons.mp hq with rfl | hq
      · exact hp65
      rcases List.mem_append.mp hq with hq | hq
      · exact ho65 q hq
      · exact hs65 q hq
    have lr : r < c' := hlt (r, orr) (.tail _ (.head _))
    have lp : p < c' := hlt (p, op) (.tail _ (.tail _ (.head _)))
    have l65 : 65 < c' := hlt (65, tabObj #[]) (.head _)
    have lo : ∀ z ∈ own ++ rest, z.1 < c' := fun z hz => hlt z (.tail _ (.tail _ (.tail _ hz)))
    refine h f c' oc vs t ctv h' tk (#[] ++ #[rawInt pos.line, rawInt pos.col, .ref c']) ((c', oc) :: rest) F' (fun q hq => N' q ?_) (.head _) hd hv (.inr ⟨c', oc, vs, t, rfl, .head _, hd, hv⟩) (fun q hq => .tail _ hq) (fun q hq => ?_) (Nat.lt_trans lr hcf) (Nat.lt_trans lp hcf) (Nat.lt_trans l65 hcf) (fun z hz => ?_)
    · simp only [List.mem_cons, List.mem_append] at hq ⊢
      rcases hq with h | h | h | h | h | h | h
      · exact .inl h
      · exact .inr (.inr (.inr (.inl h)))
      · exact .inr (.inr (.inr (.inr (.inl h))))
      · exact .inr (.inr (.inl h))
      · exact .inr (.inr (.inr (.inr (.inr (.inl h)))))
      · exact .inr (.inl h)
      · exact .inr (.inr (.inr (.inr (.inr (.inr h)))))
    · rcases List.mem_cons.mp hq with rfl | hq
      · exact .inr ⟨lr, lp, l65, fun z hz => lo z (List.mem_append_left _ hz)⟩
      · exact .inl hq
    · rcases List.mem_append.mp hz with hz | hz
      · exact Nat.lt_trans (lo z (List.mem_append_left _ hz)) hcf
      rcases List.mem_cons.mp hz with rfl | hz
      · exact hcf
      · exact Nat.lt_trans (lo z (List.mem_append_right _ hz)) hcf
  · refine kla_hit (c' := c') F N T C hcd (.tail _ (.tail _ (.head _))) trivial (by simp [codeAmong, rawInt]) hcl fun f ctv h' tk F' N' hlt => ?_
    exact h f c' oc vs t ctv h' tk _ rest F' N' hc hd hv (.inr ⟨c', oc, vs, t, rfl, hc, hd, hv⟩) (fun q hq => hq) (fun q hq => .inl hq) (hlt _ (.head _)) (hlt _ (.tail _ (.head _))) (hlt _ (.tail _ (.tail _ (.head _)))) (fun z hz => hlt z (.tail _ (.tail _ (.tail _ hz))))
end
end

local macro_rules | `(tactic| walk_at "stop") => `(tactic| with_reducible show wpAny _ _ (exec (Stmt.For _ _ _ _ _) _) _ _ _)
local macro_rules | `(tactic| walk_at "stop") => `(tactic| with_reducible show wpAny _ _ (exec (Stmt.While _ _ _ _) _) _ _ _)
local macro_rules | `(tactic| walk_at "stop") => `(tactic| with_reducible show wpAny _ _ (pyIter _) _ _ _)
local macro_rules | `(tactic| walk_at "stop") => `(tactic| with_reducible show wpAny _ _ (call (Value.builtin "list.append") _) _ _ _)
local macro_rules | `(tactic| walk_at "stop") => `(tactic| with_reducible show Exists _)
local macro_rules | `(tactic| walk_at "go") => `(tactic| repeat' ((fail_if_success (walk_at "stop")); first | (k_unfold; (try dsimp only)) | walk1 | (dsimp only; walk1)))
local macro_rules | `(tactic| walk_at "stop") => `(tactic| with_reducible show wpAny _ _ (eval (Expr.Lambda _ _ _ _) _) _ _ _)
local macro_rules | `(tactic| walk_at "stop") => `(tactic| with_reducible show wpAny _ _ (call (Value.builtin "re.Pattern.sub") _) _ _ _)
section
local macro_rules | `(tactic| walk_at "mat in") => `(tactic| first | assumption | exact MatIn.head | exact MatIn.tail (by assumption) | exact MatIn.tail MatIn.head | exact MatIn.tail (MatIn.tail (by assumption)) | exact MatIn.tail (MatIn.tail MatIn.head))
local macro_rules | `(tactic| walk_at "getMethod ref") => `(tactic| (k_here; (with_reducible show wpAny _ _ (getMethod (Value.ref 48) _ _) _ _ _); (refine' getm_tok ?mf ?mx ?_); (case mf | mx => assumption)))
local macro_rules | `(tactic| walk_at "getMethod ref") => `(tactic| (k_here; (with_reducible show wpAny _ _ (getMethod (Value.ref 53) _ _) _ _ _); (refine' getm_quo ?mf ?mx ?_); (case mf | mx => assumption)))
local macro_rules | `(tactic| walk_at "getMethod ref") => `(tactic| (k_here; (with_reducible show wpAny _ _ (getMethod (Value.ref 58) _ _) _ _ _); (refine' getm_val ?mf ?mx ?_); (case mf | mx => assumption)))
local macro_rules | `(tactic| walk_at "getMethod ref") => `(tactic| (k_here; (with_reducible show wpAny _ _ (getMethod (Value.ref 63) _ _) _ _ _); (refine' getm_esc ?mf ?mx ?_); (case mf | mx => assumption)))
local macro_rules | `(tactic| walk_at "getMethod ref") => `(tactic| (k_here; (with_reducible show wpAny _ _ (getMethod (Value.ref 36) _ _) _ _ _); (refine' getm_twin ?mf ?mx ?_); (case mf | mx => assumption)))
local macro_rules | `(tactic| walk_at "call builtin:re.Pattern.search") => `(tactic| (k_here; (with_reducible show wpAny _ _ (call (Value.builtin _) [Value.ref 53, _]) _ _ _); (refine' quo_no1 ?mf ?mx ?ml ?mk ?_); (case mf | mx | ml | mk => assumption)))
local macro_rules | `(tactic| walk_at "call builtin:re.Pattern.search") => `(tactic| (k_here; (with_reducible show wpAny _ _ (call (Value.builtin _) [Value.ref 53, _]) _ _ _); (refine' quo_no2 ?mf ?mx ?ml ?mk ?mq ?_); (case mf | mx | ml | mk | mq => assumption)))
local macro_rules | `(tactic| walk_at "call builtin:re.Pattern.search") => `(tactic| (k_here; (with_reducible show wpAny _ _ (call (Value.builtin _) [Value.ref 53, _]) _ _ _); (refine' quo_yes ?mf ?mn ?mx ?ml ?mk ?mq ?mb ?_); (case mf | mn | mx | ml | mk | mq | mb => assumption); intro mt' sp' h' li' F' N' l1 l2; (try k_sweep)))
local macro_rules | `(tactic| walk_at "call builtin:re.Pattern.search") => `(tactic| (k_here; (with_reducible show wpAny _ _ (call (Value.builtin _) [Value.ref 58, _]) _ _ _); (refine' val_no ?mf ?mx ?ml ?mk ?_); (case mf | mx | ml | mk => assumption)))
local macro_rules | `(tactic| walk_at "call builtin:re.Pattern.search") => `(tactic| (k_here; (with_reducible show wpAny _ _ (call (Value.builtin _) [Value.ref 58, _]) _ _ _); (refine' val_yes ?mf ?mn ?mx ?ml ?mk ?_); (case mf | mn | mx | ml | mk => assumption); intro mt' sp' h' li' F' N' l1 l2; (try k_sweep)))
local macro_rules | `(tactic| walk_at "call builtin:re.Pattern.search") => `(tactic| (k_here; (with_reducible show wpAny _ _ (call (Value.builtin _) [Value.ref 48, _]) _ _ _); (refine' tok_no ?mf ?mx ?ml ?mk ?_); (case mf | mx | ml | mk => assumption)))
local macro_rules | `(tactic| walk_at "call builtin:re.Pattern.search") => `(tactic| (k_here; (with_reducible show wpAny _ _ (call (Value.builtin _) [Value.ref 48, _]) _ _ _); (refine' tok_yes ?mf ?mn ?mx ?ml ?mk ?_); (case mf | mn | mx | ml | mk => assumption); intro mt' sp' h' li' F' N' l1 l2; (try k_sweep)))
local macro_rules | `(tactic| walk_at "call builtin:re.Match.group") => `(tactic| (k_here; (refine' group_S ?mn ?mi ?ml ?_); (case mn => assumption); (case mi => walk_at "mat in"); (case ml => assumption); intro t' tk'))
local macro_rules | `(tactic| walk_at "truthy ref") => `(tactic| (k_here; (refine' true_N ?mn ?mi ?_); (case mn => assumption); (case mi => walk_at "mat in")))
local macro_rules | `(tactic| walk_at "call ref") => `(tactic| (k_here; (with_reducible show wpAny _ _ (call (Value.ref 43) _) _ _ _); k_dflt (refine' unm ?mb ?mf ?mx ?mn ?mt ?mk ?md ?mu ?mi ?ml ?me ?_); (case mb | mf | mx | mn | mt => assumption); (case mk => rfl); (case md | mu => (dsimp only [ktrTop, Around.deeper]; omega)); (case mi => walk_at "mat in"); (case ml => assumption); (case me => (first | assumption | exact nm_le _)); intro tk' h' tk2' F' N'; (try k_sweep)))
local macro_rules | `(tactic| walk_at "truthy str") => `(tactic| (k_here; (refine' truthy_S ?ml ?mn ?_); (case ml | mn => assumption)))
local macro_rules | `(tactic| walk_at "call builtin:str.lstrip") => `(tactic| (k_here; (refine' lstrip_S ?ml ?_); (case ml => assumption); intro t' tk'))
local macro_rules | `(tactic| walk_at "call builtin:str.rstrip") => `(tactic| (k_here; (refine' rstrip_S ?ml ?mv ?_); (case ml | mv => assumption); intro t' tk'))
local macro_rules | `(tactic| walk_at "call builtin:str.startswith") => `(tactic| (k_here; first | ((refine' starts_yes ?mc ?_); (case mc => assumption)) | ((refine' starts_no ?mc ?_); (case mc => assumption))))
local macro_rules | `(tactic| walk_at "subscriptTail Name Slice str ref") => `(tactic| (k_here; (with_reducible show wpAny _ _ (subscriptTail _ (Expr.Slice (some _) none none _) (Value.str (S (List.drop (spLen _) _)) _) _) _ _ _); (with_reducible rename Fr _ _ _ _ => F'); (with_reducible rename News _ _ _ _ => N'); (refine slice1_N (s := ⟨_, _, _, _, _⟩) F' N' (by assumption) (by assumption) ?_ (by with_unfolding_all rfl) (by intro _; with_unfolding_all rfl)); clear F' N'; intro h' t' k' F' N'))
local macro_rules | `(tactic| walk_at "call builtin:re.Pattern.subn") => `(tactic| (k_here; (refine' subn_S ?mf ?mn ?mx ?ml ?mk ?_); (case mf | mn | mx | ml | mk => assumption); intro h' tk' tp' t1' t2' F' N' l1; (try k_lt l1); (try k_sweep)))
local macro_rules | `(tactic| walk_at "binaryOp Add str str") => `(tactic| (k_here; (with_reducible show wpAny _ _ (binaryOp _ (Value.str (Str.ofString "") _) _) _ _ _); (refine' add_empty ?ml ?_); (case ml => assumption); intro t' tk'))
abbrev lamPos : Pos := ⟨26, 49, 26, 84⟩
abbrev lamQual : Str := Str.ofString "split_header_words" ++ ".<locals>." ++ "<lambda>"
theorem spl {w : World} {p : Program} {loose : List Str} {mean : ExcName → Option Value} {mg mb : Str → Option Value}
  {dp un : Nat} {gd : Option (List Code)} {cn : Str} {cs : Scope} {a : Addr} {ccd : Value} {cl : List (Str × Addr)} {outer : List Env} {A₀ : Around} {base h₀ : Heap} {L : Addr} {m : Str → Option Value} {news : List (Addr × Obj)} {s : Shared} {hv : Addr} {vs : List Value} {nv : Nat} {tab : Array Value} {ts : List (List Nat)} {rsE : List (List Pr)}
    {Q E : Value → Shared → Prop} 
    (B : Below A₀ base outer h₀) (F : Fr h₀ L s.heap m) (X : (hd.heap_39 w.params).In h₀) (N : News h₀ L s.heap ((65, tabObj tab) :: (hv, listOf vs.toArray nv) :: news)) (T : Top p loose mean mg mb h₀) (hk : cs.kind = .function)
    (hdp : dp + 5 < recursionLimit) (hu : un + 40 < cLine) (h65 : ∀ q ∈ news, q.1 ≠ 65) (h65v : hv ≠ 65) (hT : Texts vs ts) (hts : ts.length ≤ 4) (hls : ∀ t ∈ ts, t.length ≤ 200) (hS : SplitAll ts [] rsE) (hTab : TabOk news tab lamPos lamQual) (hCH : CodeHd h₀ 69 65)
    (ret : ∀ r vr nr tab' rest h' tk', Fr h₀ L h' m → News h₀ L h' ((r, listOf vr.toArray nr) :: (65, tabObj tab') :: rest) → (∀ q ∈ (hv, listOf vs.toArray nv) :: news, q ∈ rest) → (∀ q ∈ rest, q.1 ≠ r ∧ q.1 ≠ 65) → r ≠ 65 → DatAll rest vr (rsE.map lsDat) → TabOk rest tab' lamPos lamQual → Q (.ref r) { s with heap := h', toks := tk' }) :
    wpAny (model Challenge.rw_rs0138_01.row.prog w) (ktrTop dp un gd cn cs L a ccd cl outer) (call (.ref 70) [.ref hv]) Q E s := by
  revert X; k_fill; intro X
  refine wpAny_call ?_
  k_dflt ktr_enter
  walk_at "go"
  rename Fr _ _ _ _ => F1
  rename News _ _ _ _ => N1
  rename _ ∧ _ => lt1
  have hCH2 := hCH.keeps (Fr.keep (by assumption))
  refine For_invVF F1 (by rfl) (by rfl) ?_
  walk_at "go"
  refine iter_mine (vs := vs) (nl := nv) (FJ lamPos lamQual ts rsE ((hv, listOf vs.toArray nv) :: news)) rfl ?hl F1 N1 ?hj ?turn ?done
  case hl => exact .tail _ (.tail _ (.head _))
  case hj =>
    refine FJ.mk (rs := []) (vr := []) (by rfl) (by simpa using hS) (by simp) .nil ?_ ?_ ?_ fun q hq => hq
    · rcases hTab with h | ⟨c', oc, vs', t', h1, h2, h3⟩
      · exact .inl h
      · exact .inr ⟨c', oc, vs', t', h1, .tail _ h2, h3⟩
    · exact Nat.ne_of_gt lt1.1
    · intro q hq
      rcases List.mem_cons.mp hq with rfl | hq
      · exact ⟨Nat.ne_of_lt lt1.2.1, h65v⟩
      · exact ⟨Nat.ne_of_lt (allLt_mem lt1.2.2 q hq), h65 q hq⟩
  case done =>
    intro m9 news9 h9 tk9 hJ9 F9 N9
    cases hJ9 with
    | mk hres hSA hrl hD hTb hr65 hsep hbase =>
    rename_i rs r nr vr tab₁ rest
    have hrs : rs = rsE := by
      have : ts.drop vs.length = [] := List.drop_eq_nil_of_le (by rw [hT.length]; exact Nat.le_refl _)
      rw [this] at hSA
      cases hSA; rfl
    subst hrs
    dsimp only [envOf] at F9 N9
    have F10 := fr3 F9 hres hres hres
    clear F9 F1 N1
    walk_at "go"
    exact ret _ _ _ _ _ _ _ (by assumption) (by assumption) hbase hsep hr65 hD hTb
  case turn =>
    intro I i v m₁ news₁ h₁ tk₁ own it hv₁ hJ₁ hown hoff hIm F2 N2
    obtain ⟨t, tkv, rfl, hdrop, htm⟩ := hT.at hv₁
    have hi4 : i ≤ 3 := by
      have h1 := (List.getElem?_eq_some_iff.mp hv₁).1
      have h2 := hT.length
      omega
    cases hJ₁ with
    | mk hres hSA hrl hD hTb hr65 hsep hbase =>
    rename_i rs r nr vr tab₁ rest
    rw [hdrop] at hSA
    obtain ⟨psE, rs1, hLoop, hSA'⟩ := splitAll_cons hSA
    dsimp only [envOf] at F2 N2
    have F3 := fr3 F2 (a := Str.ofString "text") (b := Str.ofString "result") (c := Str.ofString "result") (by rfl) hres hres
    clear F2
    walk_at "go"
    rename Fr _ _ _ _ => F4
    rename News _ _ _ _ => N4
    rename (∀ p, p ∈ own ++ _ → _ < _) => lt4
    rename_i l4 _ h4
    have N5 : News _ _ h4 ((r, listOf vr.toArray nr) :: (l4, listOf [].toArray 0) :: (65, tabObj tab₁) :: (own ++ rest)) := fun q hq => N4 q (by
      simp only [List.mem_cons, List.mem_append] at hq ⊢
      rcases hq with h | h | h | h | h
      · exact .inr (.inr (.inl h))
      · exact .inl h
      · exact .inr (.inr (.inr (.inl h)))
      · exact .inr (.inl h)
      · exact .inr (.inr (.inr (.inr h))))
    refine While_inv2 (WJ own I lamPos lamQual psE rs1 ((hv, listOf vs.toArray nv) :: news) (201 * i + 200)) (n₀ := t.length) F4 N5 ?wj ?wturn
    case wj =>
      have hIr := fun q hq => hoff q (.tail _ (.tail _ hq))
      have ho : ∀ q ∈ own, q.1 ≠ r ∧ q.1 ≠ 65 := fun q hq => by
        rcases hown q hq with e | e
        · exact ⟨fun e' => hoff (r, listOf vr.toArray nr) (.head _) (e' ▸ e ▸ rfl), fun e' => hoff (65, tabObj tab₁) (.tail _ (.head _)) (e' ▸ e ▸ rfl)⟩
        · exact e ▸ hsep _ (hbase _ (.head _))
      refine WJ.mk (by rfl) (by rfl) (by rfl) hLoop (hls t htm) (by have := hls t htm; simp; omega) (by have := hls t htm; omega) hD .nil hTb ?_ hr65 ?_ ?_ ?_ hbase
      · exact Nat.ne_of_lt (lt4 (r, listOf vr.toArray nr) (List.mem_append_right _ (.head _)))
      · exact Nat.ne_of_gt (lt4 (65, tabObj tab₁) (List.mem_append_right _ (.tail _ (.head _))))
      · exact fun q hq => ⟨(ho q hq).1, Nat.ne_of_lt (lt4 q (List.mem_append_left _ hq)), (ho q hq).2⟩
      · exact fun q hq => ⟨⟨(hsep q hq).1, Nat.ne_of_lt (lt4 q (List.mem_append_right _ (.tail _ (.tail _ hq)))), (hsep q hq).2⟩, hIr q hq⟩
    case wturn =>
      clear F4 N4 N5
      intro n m5 news5 h5 tk5 F5 N5 hJ5
      cases hJ5 with
      | mk mtext mres mpairs hL5 hl5 hpl hrl5 hDr hDp hTb5 hrp hr65' hp65 howA hrsA hbase5 =>
      rename_i l ps rs5 tkl r5 p5 nr5 np5 vr5 vp5 tab5 rest5
      have F6 := fr3 F5 mtext mres mpairs
      clear F5
      have hzr : vr5.length ≤ 1000 := by have := hDr.length; simp only [List.length_map] at this; omega
      have hzp : vp5.length ≤ 1000 := by have := hDp.length; simp only [List.length_map] at this; omega
      cases hL5 with
      | nil =>
        walk_at "go"
        refine truthy_mine N5 (.tail _ (.head _)) hzp ?_
        by_cases hps : psE = []
        · have hvp : vp5 = [] := List.eq_nil_of_length_eq_zero (by have := hDp.length; rw [hps] at this; simpa using this)
          subst hvp
          rw [if_neg (by simp)]
          walk_at "go"
          refine ⟨_, _, _, (r5, listOf vr5.toArray nr5) :: (65, tabObj tab5) :: rest5, rfl, F6, fun q hq => N5 q ?_, ?_, FJ.mk (rs := rs1) rfl (by rw [if_pos hps] at hSA'; exact hSA') (by simp only [List.length_nil] at hrl5; omega) hDr hTb5 hr65' (fun q hq => ⟨(hrsA q hq).1.1, (hrsA q hq).1.2.2⟩) hbase5⟩
          · simp only [List.mem_append, List.mem_cons] at hq ⊢
            rcases hq with h | h | h | h
            · exact .inr (.inr (.inr (.inl h)))
            · exact .inl h
            · exact .inr (.inr (.inl h))
            · exact .inr (.inr (.inr (.inr h)))
          · intro q hq
            have hIA := howA _ hIm
            rcases List.mem_cons.mp hq with rfl | hq
            · exact Ne.symm hIA.1
            rcases List.mem_cons.mp hq with rfl | hq
            · exact Ne.symm hIA.2.2
            · exact (hrsA q hq).2
        · have hvp : vp5.isEmpty = false := by
            have := hDp.length
            cases vp5 with
            | nil => simp at this; exact absurd this.symm (by simpa using hps)
            | cons _ _ => rfl
          rw [hvp, if_pos (by simp)]
          walk_at "go"
          refine append_any F6 N5 (.head _) hzr ?_
          intro h6 F7 Nn
          walk_at "go"
          have N7 := Nn ((65, tabObj tab5) :: (own ++ ((p5, listOf vp5.toArray np5) :: rest5))) (fun q hq => by
            simp only [List.mem_cons, List.mem_append] at hq ⊢
            rcases hq with rfl | h | rfl | h
            · exact ⟨.inr (.inr (.inl rfl)), Ne.symm hr65'⟩
            · exact ⟨.inr (.inr (.inr (.inl h))), (howA q h).1⟩
            · exact ⟨.inr (.inl rfl), Ne.symm hrp⟩
            · exact ⟨.inr (.inr (.inr (.inr h))), (hrsA q h).1.1⟩)
          have hIA := howA _ hIm
          refine ⟨_, _, _, (r5, listOf (vr5 ++ [Value.ref p5]).toArray (nr5 + 1)) :: (65, tabObj tab5) :: ((p5, listOf vp5.toArray np5) :: rest5), rfl, F7, fun q hq => N7 q ?_, ?_, FJ.mk (rs := rs1 ++ [psE]) rfl (by rw [if_neg hps] at hSA'; exact hSA') (by simp only [List.length_nil, List.length_append, List.length_cons] at hrl5 ⊢; omega) ?_ ?_ hr65' ?_ fun q hq => .tail _ (hbase5 q hq)⟩
          · simp only [List.mem_append, List.mem_cons] at hq ⊢
            rcases hq with h | h | h | h | h
            · exact .inr (.inr (.inl h))
            · exact .inl h
            · exact .inr (.inl h)
            · exact .inr (.inr (.inr (.inl h)))
            · exact .inr (.inr (.inr (.inr h)))
          · intro q hq
            rcases List.mem_cons.mp hq with rfl | hq
            · exact Ne.symm hIA.1
            rcases List.mem_cons.mp hq with rfl | hq
            · exact Ne.symm hIA.2.2
            rcases List.mem_cons.mp hq with rfl | hq
            · exact Ne.symm hIA.2.1
            · exact (hrsA q hq).2
          · rw [List.map_append]
            exact DatAll.append (hDr.mono fun q hq => .tail _ hq) (.one (.list (.head _) (hDp.mono fun q hq => .tail _ hq)))
          · rcases hTb5 with h | ⟨c', oc, vs', t', h1, h2, h3⟩
            · exact .inl h
            · exact .inr ⟨c', oc, vs', t', h1, .tail _ h2, h3⟩
          · intro q hq
            rcases List.mem_cons.mp hq with rfl | hq
            · exact ⟨Ne.symm hrp, hp65⟩
            · exact ⟨(hrsA q hq).1.1, (hrsA q hq).1.2.2⟩
      | none hNm hEq hL6 =>
        have hlr : (restOf l).length ≤ 200 := by have := restOf_lt hNm; omega
        have hne : l ≠ [] := ne_of_nm hNm
        walk_at "go"
        rename Fr _ _ _ _ => F7
        rename News _ _ _ _ => N7
        rename _ ∧ _ => lt7
        refine append_any F7 N7 (.tail _ (.tail _ (.tail _ (.tail _ (.head _))))) hzp ?_
        intro h8 F8 Nn
        walk_at "go"
        have hlt9 := restOf_lt hNm
        obtain ⟨_, _, hD1, hD2, hD3, hD4⟩ := lt7
        obtain ⟨news9, N9, hW9⟩ := WJ.snoc (own := own) (I := I) (rest := rest5) (restN := rest5) (l' := restOf l) (nm := nmOf l) (base := (hv, listOf vs.toArray nv) :: news) (K := 201 * i + 200) (nr := nr5) (tab := tab5) F8 (by rfl) (by rfl) (by rfl) hL6 hlr (by omega) (by omega) hDr hDp hTb5 (fun _ h => h) (.inr ⟨rfl, rfl⟩) hrp hr65' hp65 howA hrsA hbase5 hD1 hD2 hD3 (Nat.ne_of_gt (allLt_mem hD4 _ (List.mem_append_left _ hIm))) Nn
          (.tail _ (.tail _ (.tail _ (.head _)))) (.tail _ (.tail _ (.tail _ (.tail _ (.tail _ (.head _)))))) (.head _) (fun q hq => .tail _ (.tail _ (.tail _ (.tail _ (.tail _ (.tail _ (List.mem_append_left _ hq))))))) (fun q hq => .tail _ (.tail _ (.tail _ (.tail _ (.tail _ (.tail _ (List.mem_append_right _ hq)))))))
        exact ⟨_, _, _, news9, _, rfl, F8, N9, hlt9, hW9⟩
      | val hNm hEq hQ hL6 =>
        have hlr : (restOf l).length ≤ 200 := by have := restOf_lt hNm; omega
        have hne : l ≠ [] := ne_of_nm hNm
        have hve : vlEnd (restOf l) ≤ (restOf l).length := vl_le hEq
        have hvl : (((restOf l).drop (vlAt (restOf l))).take (vlEnd (restOf l) - vlAt (restOf l))).length ≤ 200 := by rw [List.length_take, List.length_drop]; omega
        have hvn : ∀ c ∈ (((restOf l).drop (vlAt (restOf l))).take (vlEnd (restOf l) - vlAt (restOf l))), Unicode.isSpace c = false := vl_nosp hEq
        walk_at "go"
        rename Fr _ _ _ _ => F7
        rename News _ _ _ _ => N7
        rename _ ∧ _ => lt7
        refine append_any F7 N7 (.tail _ (.tail _ (.tail _ (.tail _ (.tail _ (.tail _ (.head _))))))) hzp ?_
        intro h8 F8 Nn
        walk_at "go"
        have hlt9 := restOf_lt hNm
        have hlt8 : ((restOf l).drop (vlEnd (restOf l))).length ≤ (restOf l).length := by rw [List.length_drop]; omega
        obtain ⟨_, _, _, _, hD1, hD2, hD3, hD4⟩ := lt7
        obtain ⟨news9, N9, hW9⟩ := WJ.snoc (own := own) (I := I) (rest := rest5) (restN := rest5) (l' := (restOf l).drop (vlEnd (restOf l))) (nm := nmOf l) (base := (hv, listOf vs.toArray nv) :: news) (K := 201 * i + 200) (nr := nr5) (tab := tab5) F8 (by rfl) (by rfl) (by rfl) hL6 (by omega) (by omega) (by omega) hDr hDp hTb5 (fun _ h => h) (.inl ⟨_, _, rfl, rfl⟩) hrp hr65' hp65 howA hrsA hbase5 hD1 hD2 hD3 (Nat.ne_of_gt (allLt_mem hD4 _ (List.mem_append_left _ hIm))) Nn
          (.tail _ (.tail _ (.tail _ (.tail _ (.tail _ (.head _)))))) (.tail _ (.tail _ (.tail _ (.tail _ (.tail _ (.tail _ (.tail _ (.head _)))))))) (.head _) (fun q hq => .tail _ (.tail _ (.tail _ (.tail _ (.tail _ (.tail _ (.tail _ (.tail _ (List.mem_append_left _ hq))))))))) (fun q hq => .tail _ (.tail _ (.tail _ (.tail _ (.tail _ (.tail _ (.tail _ (.tail _ (List.mem_append_right _ hq)))))))))
        exact ⟨_, _, _, news9, _, rfl, F8, N9, (by omega), hW9⟩
      | quo hNm hEq hQ hB hE' hL6 =>
        rename_i vq eq
        have hlr : (restOf l).length ≤ 200 := by have := restOf_lt hNm; omega
        have hne : l ≠ [] := ne_of_nm hNm
        have hble := hB.le
        have hqe : eq + 1 ≤ (restOf l).length := by omega
        have hqv : (((restOf l).drop (qbAt (restOf l))).take (eq - qbAt (restOf l))).length ≤ 200 := by rw [List.length_take, List.length_drop]; omega
        walk_at "go"
        rename Fr _ _ _ _ => F7
        rename News _ _ _ _ => N7
        have N8 : News _ _ _ ((r5, listOf vr5.toArray nr5) :: (p5, listOf vp5.toArray np5) :: (65, tabObj tab5) :: (own ++ rest5)) := fun q hq => N7 q (.tail _ (.tail _ (.tail _ (.tail _ hq))))
        refine kla_eval (by rfl) ?_
        refine lam_make (cn := Str.ofString "split_header_words") (cl := []) F7 N8 (by assumption) hCH2 rfl hTb5 (by rfl) hr65' hp65 (fun q hq => (howA q hq).2.2) (fun q hq => (hrsA q hq).1.2.2) ?_
        intro f9 c9 oc9 vs9 t9 ctv9 h9 tk9 tabN restN F9 N9 hc9 hd9 hv9 hTN hsubN hnewN lrf lpf l65f lof
        clear F7 N7 N8
        dsimp only
        walk_at "go"
        refine sub_N F9 N9 (pat_esc (by assumption)) hqv (.head _) rfl ?lam hE' ?_
        case lam =>
          intro s' nw mt9 st9 hd9' b9 e9 Q9 E9 F10 N10 hsb hM9 hbe hel hpost
          have hm1 := cut_le (b := b9) (e := e9) hqv
          have hm2 := cut_ne hbe hel
          refine wpAny_call ?_
          k_dflt (refine' kla_code ?k1 ?k2 ?k3 ?k4 ?k5 ?kA ?kF ?kK ?k6 ?k7 ?k8 ?k9 ?kB ?_ ?c2 ?c3 ?c4 ?c5; (case kA => exact rfl); (case kF => exact rfl); (case kK => exact rfl); (case k2 => exact F10); (case k1 => k_asm); (case k3 => k_asm); (case k4 => exact N10); (case k5 => k_asm); (case k6 => exact hsb _ (.head _)); (case k7 => exact codeRec_news N10 (hsb _ (.tail _ (.tail _ (.tail _ (.tail _ (List.mem_append_right _ hc9)))))) hd9 hv9); (case k8 => (dsimp only [ktrTop, Around.deeper, Around.in1]; omega)); (case k9 => exact rfl); (case c5 => decide); (case kB => exact locs rfl); (case c2 => exact rfl); (case c3 => exact rfl); (case c4 => exact rfl))
          intro g11 L11 h11 FG11 F11 N11 B11 X11 T11
          dsimp only
          k_fold
          walk_at "go"
          exact hpost _ _ _ (by assumption) (by assumption)
        intro h10 tk10 t10 F10 N10
        dsimp only
        walk_at "go"
        rename Fr _ _ _ _ => F12
        rename News _ _ _ _ => N12
        rename _ ∧ _ => lt7
        refine append_any F12 N12 (.tail _ (.tail _ (.tail _ (.head _)))) hzp ?_
        intro h8 F8 Nn
        walk_at "go"
        have hlt9 := restOf_lt hNm
        have hlt8 : ((restOf l).drop (eq + 1)).length ≤ (restOf l).length := by rw [List.length_drop]; omega
        obtain ⟨_, hD1, hD2, hD3, hD4⟩ := lt7
        have hrsN : ∀ q ∈ restN, Apart r5 p5 q ∧ q.1 ≠ I := fun q hq => by
          rcases hnewN q hq with h | ⟨h1, h2, h3, h4⟩
          · exact hrsA q h
          · exact ⟨⟨Nat.ne_of_gt h1, Nat.ne_of_gt h2, Nat.ne_of_gt h3⟩, Nat.ne_of_gt (h4 _ hIm)⟩
        obtain ⟨news9, N9', hW9⟩ := WJ.snoc (own := own) (I := I) (rest := rest5) (restN := restN) (l' := (restOf l).drop (eq + 1)) (nm := nmOf l) (base := (hv, listOf vs.toArray nv) :: news) (K := 201 * i + 200) (nr := nr5) (tab := tabN) F8 (by rfl) (by rfl) (by rfl) hL6 (by omega) (by omega) (by omega) hDr hDp hTN hsubN (.inl ⟨_, _, rfl, rfl⟩) hrp hr65' hp65 howA hrsN (fun q hq => hsubN q (hbase5 q hq)) hD1 hD2 hD3 (Nat.ne_of_gt (allLt_mem hD4 _ (List.mem_append_left _ hIm))) Nn
          (.tail _ (.tail _ (.head _))) (.tail _ (.tail _ (.tail _ (.tail _ (.head _))))) (.head _) (fun q hq => .tail _ (.tail _ (.tail _ (.tail _ (.tail _ (List.mem_append_left _ hq)))))) (fun q hq => .tail _ (.tail _ (.tail _ (.tail _ (.tail _ (List.mem_append_right _ hq))))))
        exact ⟨_, _, _, news9, _, rfl, F8, N9', (by omega), hW9⟩
      | comma hNm hC hL6 =>
        have hne : l ≠ [] := by rintro rfl; exact absurd hC.1 (by simp)
        have hd1 : 1 ≤ (l.drop (spLen l)).length := by have := hC.1; rw [List.length_drop]; omega
        have hd2 : (l.drop (spLen l)).length ≤ 200 := by rw [List.length_drop]; omega
        have hcl : (l.drop (spLen l + 1)).length < l.length := by have := hC.1; rw [List.length_drop]; omega
        have hIA := howA _ hIm
        walk_at "go"
        rename Fr _ _ _ _ => F7
        rename News _ _ _ _ => N7
        rw [slice1_eq hd1, List.drop_drop] at F7
        refine truthy_mine N7 (.tail _ (.head _)) hzp ?_
        by_cases hps : ps = []
        · have hvp : vp5 = [] := List.eq_nil_of_length_eq_zero (by have := hDp.length; rw [hps] at this; simpa using this)
          subst hvp
          rw [if_neg (by simp)]
          walk_at "go"
          rename Fr _ _ _ _ => F8
          rename News _ _ _ _ => N8
          rename _ ∧ _ => lt8
          obtain ⟨lt1, lt2, lt3, lt4⟩ := lt8
          rw [if_pos hps] at hL6
          refine ⟨_, _, _, (r5, listOf vr5.toArray nr5) :: (_, listOf [].toArray 0) :: (65, tabObj tab5) :: (own ++ rest5), _, rfl, F8, fun q hq => N8 q ?_, hcl, WJ.mk (by rfl) (by rfl) (by rfl) hL6 (by omega) (by simp; omega) (by omega) hDr .nil hTb5 (Nat.ne_of_lt lt1) hr65' (Nat.ne_of_gt lt3) (fun q hq => ⟨(howA q hq).1, Nat.ne_of_lt (allLt_mem lt4 q (List.mem_append_left _ hq)), (howA q hq).2.2⟩) (fun q hq => ⟨⟨(hrsA q hq).1.1, Nat.ne_of_lt (allLt_mem lt4 q (List.mem_append_right _ hq)), (hrsA q hq).1.2.2⟩, (hrsA q hq).2⟩) hbase5⟩
          simp only [List.mem_append, List.mem_cons] at hq ⊢
          rcases hq with h | h | h | h | h
          · exact .inr (.inl h)
          · exact .inl h
          · exact .inr (.inr (.inr (.inl h)))
          · exact .inr (.inr (.inr (.inr (.inl h))))
          · exact .inr (.inr (.inr (.inr (.inr h))))
        · have hvp : vp5.isEmpty = false := by
            have := hDp.length
            cases vp5 with
            | nil => simp at this; exact absurd this.symm (by simpa using hps)
            | cons _ _ => rfl
          rw [hvp, if_pos (by simp)]
          walk_at "go"
          refine append_any F7 N7 (.head _) hzr ?_
          intro h8 F8 Nn
          have N8 := Nn ((p5, listOf vp5.toArray np5) :: (65, tabObj tab5) :: (own ++ rest5)) (fun q hq => by
            refine ⟨.tail _ hq, ?_⟩
            rcases List.mem_cons.mp hq with rfl | hq
            · exact Ne.symm hrp
            rcases List.mem_cons.mp hq with rfl | hq
            · exact Ne.symm hr65'
            rcases List.mem_append.mp hq with hq | hq
            · exact (howA q hq).1
            · exact (hrsA q hq).1.1)
          clear Nn F7 N7
          walk_at "go"
          rename Fr _ _ _ _ => F9
          rename News _ _ _ _ => N9
          rename _ ∧ _ => lt8
          obtain ⟨lt1, lt2, lt3, lt4⟩ := lt8
          rw [if_neg hps] at hL6
          refine ⟨_, _, _, (r5, listOf (vr5 ++ [Value.ref p5]).toArray (nr5 + 1)) :: (_, listOf [].toArray 0) :: (65, tabObj tab5) :: (own ++ ((p5, listOf vp5.toArray np5) :: rest5)), _, rfl, F9, fun q hq => N9 q ?_, hcl, WJ.mk (by rfl) (by rfl) (by rfl) hL6 (by omega) (by simp; omega) (by simp only [List.length_append, List.length_cons, List.length_nil]; omega) ?_ .nil ?_ (Nat.ne_of_lt lt1) hr65' (Nat.ne_of_gt lt3) (fun q hq => ⟨(howA q hq).1, Nat.ne_of_lt (allLt_mem lt4 q (List.mem_append_left _ hq)), (howA q hq).2.2⟩) ?_ fun q hq => .tail _ (hbase5 q hq)⟩
          · simp only [List.mem_append, List.mem_cons] at hq ⊢
            rcases hq with h | h | h | h | h | h
            · exact .inr (.inl h)
            · exact .inl h
            · exact .inr (.inr (.inr (.inl h)))
            · exact .inr (.inr (.inr (.inr (.inl h))))
            · exact .inr (.inr (.inl h))
            · exact .inr (.inr (.inr (.inr (.inr h))))
          · rw [List.map_append]
            exact DatAll.append (hDr.mono fun q hq => .tail _ hq) (.one (.list (.head _) (hDp.mono fun q hq => .tail _ hq)))
          · rcases hTb5 with h | ⟨c', oc, vs', t', h1, h2, h3⟩
            · exact .inl h
            · exact .inr ⟨c', oc, vs', t', h1, .tail _ h2, h3⟩
          · intro q hq
            rcases List.mem_cons.mp hq with rfl | hq
            · exact ⟨⟨Ne.symm hrp, Nat.ne_of_lt lt2, hp65⟩, Ne.symm hIA.2.1⟩
            · exact ⟨⟨(hrsA q hq).1.1, Nat.ne_of_lt (allLt_mem lt4 q (List.mem_append_right _ hq)), (hrsA q hq).1.2.2⟩, (hrsA q hq).2⟩
      | junk hNm hne hC hJk hL6 =>
        have hjl : (l.drop (jkLen l)).length < l.length := by have := List.length_pos_iff.mpr hne; rw [List.length_drop]; omega
        walk_at "go"
        rename Fr _ _ _ _ => F7
        rename News _ _ _ _ => N7
        exact ⟨_, _, _, (r5, listOf vr5.toArray nr5) :: (p5, listOf vp5.toArray np5) :: (65, tabObj tab5) :: (own ++ rest5), _, rfl, F7, fun q hq => N7 q (.tail _ hq), hjl, WJ.mk (by rfl) (by rfl) (by rfl) hL6 (by omega) (by omega) (by omega) hDr hDp hTb5 hrp hr65' hp65 howA hrsA hbase5⟩
end

section
theorem signs_paired {l : List Nat} {G : Nat → Value → Prop} {vs : List Value} {ys : List Value} (hlen : vs.length = (S l).cps.size) (hP : ∀ (j : Nat) (v : Value), vs[j]? = some v → SignAt (S l) j v) (hF : Paired (fun v r => ∃ c u, v = .str (S [c]) u ∧ G c r) vs ys) : Paired G l ys := by
  rw [size_S] at hlen
  have hv : ∀ j, j < vs.length → ∃ u, vs[j]? = some (.str (S [l.getD j 0]) u) := fun j hj => by
    obtain ⟨c, u, hc, e⟩ := hP j vs[j] (List.getElem?_eq_getElem hj)
    have hc' : l[j]? = some c := by
      have : l.toArray[j]? = some c := hc
      rwa [List.getElem?_toArray] at this
    refine ⟨u, ?_⟩
    rw [List.getElem?_eq_getElem hj, e, List.getD_eq_getElem?_getD, hc']
    rfl
  clear hP
  induction hF generalizing l with
  | nil => cases l with
    | nil => exact .nil
    | cons _ _ => simp at hlen
  | cons h _ ih =>
    cases l with
    | nil => simp at hlen
    | cons c l =>
      obtain ⟨c', u', e1, hg⟩ := h
      obtain ⟨u, e2⟩ := hv 0 (by simp)
      simp only [List.getElem?_cons_zero, Option.some.injEq, List.getD_cons_zero] at e2
      rw [e1] at e2
      have : c' = c := by
        have := Value.str.inj e2
        have h1 := congrArg Str.cps this.1
        simpa using h1
      subst this
      refine .cons hg (ih (by simpa using hlen) fun j hj => ?_)
      obtain ⟨u, e⟩ := hv (j + 1) (by simpa using hj)
      exact ⟨u, by simpa using e⟩
section
variable {prog : Program} {w : World} {A : Around} {E : Value → Shared → Prop} {s : Shared} {h₀ : Heap} {L : Addr} {m : Str → Option Value} {news : List (Addr × Obj)} {env : Env}
/-- a list built of a text's signs, one value a sign -/
theorem comp_text {elt iter : Expr} {x : Str} {px : Pos} {scope : Scope} {pos : Pos} {Q : Value → Shared → Prop} (G : Nat → Value → Prop) (F₀ : Fr h₀ L s.heap m) (N₀ : News h₀ L s.heap news)
    (hh : A.handled = none) (hfree : ∀ y ∈ scope.names, y.2 ≠ .free) (hcell : ∀ y ∈ scope.names, y.2 ≠ .cell) (hkind : scope.kind = .function)
    (hnames : ∀ y ∈ scope.names, y.2 = .local → scope.names.lookup y.1 = some .local) (hx : scope.names.lookup x = some .local)
    (h : wpAny (model prog w) A (eval iter env) (fun xv s₁ => ∃ (l : List Nat) (t : Tok), xv = .str (S l) t ∧ l.length ≤ 200 ∧ Fr h₀ L s₁.heap m ∧ News h₀ L s₁.heap news ∧
      (∀ C c u s₃ m₃ E', c ∈ l → s₃.heap.Ns C m₃ → m₃ x = some (.str (S [c]) u) → Fr h₀ L s₃.heap m → News h₀ L s₃.heap news →
        wpAny (model prog w) A (eval elt (compEnv scope C env)) (fun y s₄ => G c y ∧ Keeps s₃ s₄) E' s₃) ∧
      (∀ D (ys : List Value) n h' tk, Fr h₀ L h' m → News h₀ L h' ((D, listOf ys.toArray n) :: news) → (∀ q ∈ news, q.1 ≠ D) → Paired G l ys → Q (.ref D) { s₁ with heap := h', toks := tk })) E s)
    (hs : ∀ x, foldedSetIterable iter env x = pure x) :
    wpAny (model prog w) A (eval (.ListComp elt [⟨.Name x px, iter, [], 0⟩] scope pos) env) Q E s := by
  refine wpAny_ListComp_walk (fun _ => true) (fun v r => ∃ c u, v = .str (S [c]) u ∧ G c r) hfree hcell hkind hnames hx (wpAny_mono h (fun xv s₁ h₁ => ?_) fun _ _ e => e) hs
  obtain ⟨l, t, rfl, hl, F, N, helt, hQ⟩ := h₁
  refine wpAny_pyIter_str fun o St W hst => ?_
  have up : ∀ (h' : Heap), (∀ b o', b ∉ [s₁.heap.objs.size] → (s₁.heap.push o).get? b = some o' → h'.get? b = some o') → ∀ b o', s₁.heap.get? b = some o' → h'.get? b = some o' :=
    fun h' hk b o' e => hk b o' (old_not_new e) (Heap.get?_push_of_some _ e)
  refine ⟨s₁.heap.objs.size, [s₁.heap.objs.size], [s₁.heap.objs.size], (S l).cps.size, SignAt (S l), St, rfl, W A hh, (by rw [size_S, sizeLine_eq]; omega), hst, ?_, ⟨?_, ?_⟩, ?_⟩
  · intro b hb
    show b < (s₁.heap.push o).objs.size
    rw [Heap.size_push, List.mem_singleton.mp hb]
    exact Nat.lt_succ_self _
  · intro C i v s₃ m₃ E' hP hn hm _ _
    exact wpAny_pure ⟨rfl, s₃.heap, s₃.toks, rfl, fun _ _ e => e⟩
  · intro C i v s₃ m₃ E' hP hp hn hm hk _
    obtain ⟨c, u, hc, rfl⟩ := hP
    have hcl : c ∈ l := by
      have : l.toArray[i]? = some c := hc
      rw [List.getElem?_toArray] at this
      exact List.mem_of_getElem? this
    exact wpAny_mono (helt C c u s₃ m₃ E' hcl hn hm (F.keeps (up _ hk)) (N.grown (up _ hk))) (fun r s₄ h₄ => ⟨⟨c, u, rfl, h₄.1⟩, h₄.2⟩) fun _ _ e => e
  · intro D h' tk ys vs hnew hlD hplD hlen hP hF hk
    have hfv : vs.filter (fun _ => true) = vs := List.filter_eq_self.mpr fun _ _ => rfl
    rw [hfv] at hF
    have kp := up h' hk
    obtain ⟨n, hpl⟩ := hplD
    have hnD : s₁.heap.get? D = none := by
      cases e : s₁.heap.get? D with
      | none => rfl
      | some o' => rw [Heap.get?_push_of_some _ e] at hnew; cases hnew
    have F' := F.keeps kp
    have N' := N.grown kp
    refine hQ D ys.toList n h' tk F' (fun q hq => ?_) (fun q hq e => by rw [← e, (N q hq).1] at hnD; cases hnD) (signs_paired hlen hP hF)
    rcases List.mem_cons.mp hq with rfl | hq
    · refine ⟨by rw [Array.toArray_toList]; exact hpl, fun e => ?_, ?_⟩
      · obtain ⟨oL, _, _, hL, _⟩ := F.ns
        have e' : D = L := e
        rw [e', hL] at hnD; cases hnD
      · cases e : h₀.get? D with
        | none => rfl
        | some o' => rw [F.keep _ _ e] at hnD; cases hnD
    · exact N' q hq
end
end

section
theorem nameG_B {M : Model} {A : Around} {E : Value → Shared → Prop} {s : Shared} {h₀ : Heap} {L : Addr} {m : Str → Option Value} {env : Env} {K : Frag} {mg mb : Str → Option Value} {p : Program} {loose : List Str} {x : Str} {pos : Pos} {v : Value} {Q : Value → Shared → Prop} (F : Fr h₀ L s.heap m) (X : K.In h₀) (T : TopRead p loose mg mb h₀)
    (e : nsIn K mainGlobals x = some none) (hv : bootBuiltins x = some v) (hn : x ≠ "__name__") (h : Q v s) (hg : env.globals = mainGlobals) (hb : env.builtins = builtinsNs) (hk : env.scope.kind = .function) (hx : env.kindOf x = some .globalImplicit) (hd : (x == ("__debug__" : Str)) = false) :
    wpAny M A (eval (.Name x pos) env) Q E s :=
  Calls.Name_function_global hk hx (Calls.loadGlobal_builtin (env := env) (by rw [hg]; exact T.g.keeps F.keep) (mg_none_of X T.g e) (by rw [hb]; exact T.b.keeps F.keep) ((T.builtins x hn).trans hv) h) hd
local macro_rules | `(tactic| walk_at "eval Name") => `(tactic| (k_here; (with_reducible show wpAny _ _ (eval (Expr.Name (Str.ofString "ord") _) _) _ _ _); (with_reducible rename Fr _ _ _ _ => kF); k_dflt (refine' nameG_B kF ?k1 ?k2 ?k3 ?k4 ?k5 ?_ ?k6 ?k7 ?k8 ?k9 ?k10; (case k6 | k7 | k8 | k9 => rfl); (case k10 => decide); (case k1 => assumption); (case k2 => exact topRead_of (by assumption)); (case k3 => k_is); (case k4 => boot_by_name); (case k5 => decide))))
local macro_rules | `(tactic| walk_at "stop") => `(tactic| with_reducible show wpAny _ _ (eval (Expr.ListComp _ _ _ _) _) _ _ _)
local macro_rules | `(tactic| walk_at "stop") => `(tactic| with_reducible show SymAt _ _)
local macro_rules | `(tactic| walk_at "stop") => `(tactic| with_reducible show wpAny _ _ (binaryOp _ (Value.ref _) (Value.ref _)) _ _ _)
/-- the signs that the texts hold -/
def alpha : List Nat := [97, 98, 99, 65, 66, 34, 92, 32, 9, 33, 37, 38, 40, 41, 42, 43, 44, 45, 46, 47, 58, 59, 60, 61, 62, 64, 91, 93, 94, 123, 124, 125, 126]
def opNum : Nat → Option Nat
  | 33 => some 54 | 37 => some 24 | 38 => some 19 | 40 => some 7 | 41 => some 8 | 42 => some 16 | 43 => some 14 | 44 => some 12 | 45 => some 15 | 46 => some 23 | 47 => some 17 | 58 => some 11 | 59 => some 13 | 60 => some 20 | 61 => some 22 | 62 => some 21 | 64 => some 49 | 91 => some 9 | 93 => some 10 | 94 => some 32 | 123 => some 25 | 124 => some 18 | 125 => some 26 | 126 => some 31
  | _ => none
def symNum (c : Nat) : Nat := match opNum c with | some n => 201 + n | none => 247 + c
inductive SymAt (c : Nat) : Value → Prop
  | mk (n : Int) (t : Tok) (e : n = ((symNum c : Nat) : Int)) : SymAt c (.int n t)
theorem hop (P : Params) (c : Nat) (h : c ∈ alpha) : (∃ n t, opNum c = some n ∧ nsIn (hd.heap_39 P) 71 (S [c]) = some (some (.int n t))) ∨ (opNum c = none ∧ nsIn (hd.heap_39 P) 71 (S [c]) = some none) := by
  simp only [alpha, List.mem_cons, List.not_mem_nil, or_false] at h
  rcases h with rfl | rfl | rfl | rfl | rfl | rfl | rfl | rfl | rfl | rfl | rfl | rfl | rfl | rfl | rfl | rfl | rfl | rfl | rfl | rfl | rfl | rfl | rfl | rfl | rfl | rfl | rfl | rfl | rfl | rfl | rfl | rfl | rfl
  all_goals (first | exact .inr ⟨rfl, rfl⟩ | exact .inl ⟨_, _, rfl, rfl⟩)
local macro_rules | `(tactic| walk_at "compareOp In str ref") => `(tactic| (k_here; k_dflt (refine' topIn_K ?F ?X ?l ?k ?e ?o ?_; (case F | X | e => assumption); (case l => k_is); (case k => k_keys); (case o => decide))))
local macro_rules | `(tactic| walk_at "subscriptTail") => `(tactic| (k_here; (with_reducible show wpAny _ _ (subscriptTail _ _ (Value.ref _) (Value.str _ _)) _ _ _); k_dflt (refine' topItem_K ?F ?X ?l ?k ?e ?_; (case F | X | e => assumption); (case l => k_is); (case k => k_keys))))
def symInts (l : List Nat) : List Int := l.map (fun c => ((symNum c : Nat) : Int)) ++ [0]
theorem syms_ints : ∀ {l : List Nat} {ys : List Value}, Paired SymAt l ys → IntsAre ys (l.map (fun c => ((symNum c : Nat) : Int)))
  | _, _, .nil => .nil
  | _, _, .cons h r => by cases h with | mk n t e => subst e; exact .cons _ _ (syms_ints r)
theorem sym {w : World} {p : Program} {loose : List Str} {mean : ExcName → Option Value} {mg mb : Str → Option Value}
  {dp un : Nat} {gd : Option (List Code)} {cn : Str} {cs : Scope} {a : Addr} {ccd : Value} {cl : List (Str × Addr)} {outer : List Env} {A₀ : Around} {base h₀ : Heap} {L : Addr} {m : Str → Option Value} {news : List (Addr × Obj)} {s : Shared} {l : List Nat} {tk : Tok}
    {Q E : Value → Shared → Prop} 
    (B : Below A₀ base outer h₀) (F : Fr h₀ L s.heap m) (X : (hd.heap_39 w.params).In h₀) (N : News h₀ L s.heap news) (T : Top p loose mean mg mb h₀) (hk : cs.kind = .function)
    (hdp : dp + 5 < recursionLimit) (hu : un + 40 < cLine) (hl : l.length ≤ 200) (hal : ∀ c ∈ l, c ∈ alpha)
    (ret : ∀ D ys h' tk', Fr h₀ L h' m → News h₀ L h' ((D, listOf (List.toArray ys) 0) :: news) → (∀ q ∈ news, q.1 < D) → IntsAre ys (symInts l) → Q (.ref D) { s with heap := h', toks := tk' }) :
    wpAny (model Challenge.rw_rs0138_01.row.prog w) (ktrTop dp un gd cn cs L a ccd cl outer) (call (.ref 99) [.str (S l) tk]) Q E s := by
  revert X; k_fill; intro X
  refine wpAny_call ?_
  k_dflt ktr_enter
  walk_at "go"
  rename Fr _ _ _ _ => F1
  rename News _ _ _ _ => N1
  refine comp_text SymAt F1 N1 ?hh ?hf ?hc ?hk ?hn ?hx ?it ?hs
  case it =>
    walk_at "go"
    refine ⟨l, _, rfl, hl, by assumption, by assumption, ?_, ?_⟩
    · intro C c u s₃ m₃ E' hc hn hm F3 N3
      have hc' := hal c hc
      clear hc hal
      rcases hop w.params c hc' with ⟨n, t, e1, e2⟩ | ⟨e1, e2⟩
      · walk_at "go"
        all_goals first | exact .mk _ _ (by rw [symNum, e1]; rfl) | exact ⟨_, _, rfl, fun _ _ e => e⟩ | (exfalso; rename Option.isSome _ = false => hb; exact Bool.noConfusion hb)
      · walk_at "go"
        all_goals first | exact .mk _ _ (by simp [symNum, e1]) | exact ⟨_, _, rfl, fun _ _ e => e⟩
    · intro D ys n h' tk' F' N' hD hP
      walk_at "go"
      rename Fr _ _ _ _ => F2
      rename News _ _ _ _ => N2
      rename _ ∧ _ => lt2
      have hi := syms_ints hP
      refine kmk_add_ints F2 N2 ⟨_, (N2 _ (.tail _ (.head _))).1, rfl, _, rfl⟩ ⟨_, (N2 _ (.head _)).1, rfl, _, rfl⟩ hi (.cons 0 _ .nil) ?_ ?_
      · intro D' ys' h3 F3 N3 hlt hI
        walk_at "go"
        rename News h₀ _ _ _ => N4
        refine ret _ _ _ _ (by assumption) (fun q hq => ?_) (fun q hq => hlt q (.tail _ (.tail _ hq))) hI
        rcases List.mem_cons.mp hq with rfl | hq
        · exact N4 _ (.head _)
        · exact N4 _ (.tail _ (.tail _ (.tail _ hq)))
      · rw [sizeLine_eq, List.length_map]
        simp only [List.length_cons, List.length_nil]
        omega
  case hn => decide
  case hs => intro _; with_unfolding_all rfl
  all_goals (first | rfl | simp )
end

section
theorem isT {w : World} {p : Program} {loose : List Str} {mean : ExcName → Option Value} {mg mb : Str → Option Value}
  {dp un : Nat} {gd : Option (List Code)} {cn : Str} {cs : Scope} {a : Addr} {ccd : Value} {cl : List (Str × Addr)} {outer : List Env} {A₀ : Around} {base h₀ : Heap} {L : Addr} {m : Str → Option Value} {news : List (Addr × Obj)} {s : Shared} {n : Int} {t : Tok} {b : Bool}
    {Q E : Value → Shared → Prop} 
    (B : Below A₀ base outer h₀) (F : Fr h₀ L s.heap m) (X : (hd.heap_39 w.params).In h₀) (N : News h₀ L s.heap news) (T : Top p loose mean mg mb h₀) (hk : cs.kind = .function)
    (hdp : dp + 1 < recursionLimit) (hu : un + 8  < cLine) (hb : decide (n < 256) = b)
    (ret : ∀ h' tk', Fr h₀ L h' m → News h₀ L h' news → Q (.bool b) { s with heap := h', toks := tk' }) :
    wpAny (model Challenge.rw_rs0138_01.row.prog w) (ktrTop dp un gd cn cs L a ccd cl outer) (call (.ref 80) [.int n t]) Q E s := by
  revert X; k_fill; intro X
  refine wpAny_call ?_
  k_dflt ktr_enter
  repeat' (first | (k_unfold; (try dsimp only)) | walk1 | (dsimp only; walk1))
  rw [hb]
  exact ret _ _ (by assumption) (by assumption)
theorem isN {w : World} {p : Program} {loose : List Str} {mean : ExcName → Option Value} {mg mb : Str → Option Value}
  {dp un : Nat} {gd : Option (List Code)} {cn : Str} {cs : Scope} {a : Addr} {ccd : Value} {cl : List (Str × Addr)} {outer : List Env} {A₀ : Around} {base h₀ : Heap} {L : Addr} {m : Str → Option Value} {news : List (Addr × Obj)} {s : Shared} {n : Int} {t : Tok} {b : Bool}
    {Q E : Value → Shared → Prop} 
    (B : Below A₀ base outer h₀) (F : Fr h₀ L s.heap m) (X : (hd.heap_39 w.params).In h₀) (N : News h₀ L s.heap news) (T : Top p loose mean mg mb h₀) (hk : cs.kind = .function)
    (hdp : dp + 1 < recursionLimit) (hu : un + 8  < cLine) (hb : decide (n ≥ 256) = b)
    (ret : ∀ h' tk', Fr h₀ L h' m → News h₀ L h' news → Q (.bool b) { s with heap := h', toks := tk' }) :
    wpAny (model Challenge.rw_rs0138_01.row.prog w) (ktrTop dp un gd cn cs L a ccd cl outer) (call (.ref 87) [.int n t]) Q E s := by
  revert X; k_fill; intro X
  refine wpAny_call ?_
  k_dflt ktr_enter
  repeat' (first | (k_unfold; (try dsimp only)) | walk1 | (dsimp only; walk1))
  rw [hb]
  exact ret _ _ (by assumption) (by assumption)
theorem isE {w : World} {p : Program} {loose : List Str} {mean : ExcName → Option Value} {mg mb : Str → Option Value}
  {dp un : Nat} {gd : Option (List Code)} {cn : Str} {cs : Scope} {a : Addr} {ccd : Value} {cl : List (Str × Addr)} {outer : List Env} {A₀ : Around} {base h₀ : Heap} {L : Addr} {m : Str → Option Value} {news : List (Addr × Obj)} {s : Shared} {n : Int} {t : Tok} {b : Bool}
    {Q E : Value → Shared → Prop} 
    (B : Below A₀ base outer h₀) (F : Fr h₀ L s.heap m) (X : (hd.heap_39 w.params).In h₀) (N : News h₀ L s.heap news) (T : Top p loose mean mg mb h₀) (hk : cs.kind = .function)
    (hdp : dp + 1 < recursionLimit) (hu : un + 8  < cLine) (hb : (n == 0) = b)
    (ret : ∀ h' tk', Fr h₀ L h' m → News h₀ L h' news → Q (.bool b) { s with heap := h', toks := tk' }) :
    wpAny (model Challenge.rw_rs0138_01.row.prog w) (ktrTop dp un gd cn cs L a ccd cl outer) (call (.ref 94) [.int n t]) Q E s := by
  revert X; k_fill; intro X
  refine wpAny_call ?_
  k_dflt ktr_enter
  repeat' (first | (k_unfold; (try dsimp only)) | walk1 | (dsimp only; walk1))
  rw [hb]
  exact ret _ _ (by assumption) (by assumption)
section
variable {M : Model} {A : Around} {env : Env} {E : Value → Shared → Prop} {Q : Flow → Shared → Prop}
theorem execs_split : ∀ (n : Nat) {body : List Stmt} {s : Shared}, wpAny M A (execs (body.take n) env) (fun f s' => match f with | .next => wpAny M A (execs (body.drop n) env) Q E s' | f => Q f s') E s → wpAny M A (execs body env) Q E s := by
  intro n body s h Γ p hΓ
  have h' := h Γ p hΓ
  clear h
  induction n generalizing body s p with
  | zero => exact h' Γ p hΓ
  | succ n ih =>
    cases body with
    | nil => exact h' Γ p hΓ
    | cons st rest =>
      rw [List.take_succ_cons, execs_cons, Sem.wp_bind'] at h'
      rw [execs_cons, Sem.wp_bind']
      refine Sem.wp_mono M Γ _ (fun f p' s' h₁ => ?_) (fun _ _ _ h₁ => h₁) _ _ h'
      cases f with
      | next => exact ih _ h₁
      | _ => exact h₁
end
section
variable {prog : Program} {w : World} {A : Around} {E : Value → Shared → Prop} {s : Shared} {Q : Value → Shared → Prop} {t u : Tok}
theorem eqS {x y : Str} {b : Bool} (h : (x == y) = b) (hq : Q (.bool b) s) : wpAny (model prog w) A (compareOp .Eq (.str x t) (.str y u)) Q E s := PyProof.Rows.eq_str (by rw [h]; exact hq)
theorem neI {x y : Int} {b : Bool} (h : (x == y) = b) (hq : Q (.bool (!b)) s) : wpAny (model prog w) A (compareOp .NotEq (.int x t) (.int y u)) Q E s := PyProof.Rows.ne_int (by subst h; simpa [bne] using hq)
theorem eqI {x y : Int} {b : Bool} (h : (x == y) = b) (hq : Q (.bool b) s) : wpAny (model prog w) A (compareOp .Eq (.int x t) (.int y u)) Q E s := PyProof.Rows.eq_int (by rw [h]; exact hq)
end
section
variable {prog : Program} {w : World} {A : Around} {E : Value → Shared → Prop} {s : Shared} {Q : Value → Shared → Prop} {t u : Tok} {h₀ : Heap} {L : Addr} {news : List (Addr × Obj)}
theorem chrS {n : Int} {c : Nat} (h : n = c) (hc : c < 128) (hq : Q (.str (S [c]) s.toks) { s with toks := s.toks + 1 }) : wpAny (model prog w) A (call (.builtin "chr") [.int n t]) Q E s := by
  subst h
  exact PyProof.Rows.chr_of_range (by omega) (by omega) hq
theorem rowI {value slice : Expr} {rw : Addr} {ws : List Value} {nw k : Nat} {n : Int} {x : Value} (N : News h₀ L s.heap news) (hm : (rw, listOf ws.toArray nw) ∈ news) (hn : n = k) (hk : ws[k]? = some x) (hl : ws.length ≤ 1000) (hq : Q x s)
    (hs : subscripted slice false (.ref rw) (.int n u) = operate [.ref rw, .int n u] (getItem (.ref rw) (.int n u))) (hg : ∀ r, letTemporaryGo value (.ref rw) r = pure ()) :
    wpAny (model prog w) A (subscriptTail value slice (.ref rw) (.int n u)) Q E s := by
  have hkl := (List.getElem?_eq_some_iff.mp hk).1
  exact item_list (News.isList N hm) (by omega) (by omega) (by subst hn; simpa using hk) hq hs hg
theorem inT {ns : List Int} {x : Int} {b : Bool} {tp : Addr} {items : Array Value} (ht : IsTup s.heap tp items) (hi : IntsAre items.toList ns) (hb : ns.any (· == x) = b) (hq : Q (.bool b) s) : wpAny (model prog w) A (compareOp .In (.int x u) (.ref tp)) Q E s :=
  in_tuple_ints ht hi (by rw [hb]; exact hq)
end
theorem fr1 {h₀ h : Heap} {L : Addr} {m : Str → Option Value} {a : Str} {va : Value} (F : Fr h₀ L h m) (ha : m a = some va) : Fr h₀ L h (fun y => if y = a then some va else m y) := by
  have e : (fun y => if y = a then some va else m y) = m := by
    funext y
    by_cases h1 : y = a
    · simp [h1, ha]
    · simp [h1]
  rw [e]; exact F
/-- what the machine has -/
structure MS where
  ls : List (List Pr)
  ps : List Pr
  nm : List Nat
  vl : List Nat
  st : Nat
def midB (ms : MS) (sg : List Nat) (wh en b34 b92 b223 : Bool) : MS :=
  match ms.st with
  | 6 => { ms with vl := ms.vl ++ sg, st := 5 }
  | 5 => if b92 then { ms with st := 6 } else if b34 then { ms with ps := ms.ps ++ [(ms.nm, some ms.vl)], st := 0 } else { ms with vl := ms.vl ++ sg }
  | 4 => if en then { ms with ps := ms.ps ++ [(ms.nm, some ms.vl)], st := 0 } else { ms with vl := ms.vl ++ sg, st := 4 }
  | 3 => if b34 then { ms with st := 5 } else if wh then ms else if en then { ms with ps := ms.ps ++ [(ms.nm, some ms.vl)], st := 0 } else { ms with vl := ms.vl ++ sg, st := 4 }
  | 2 => if wh then ms else if b223 then { ms with vl := [], st := 3 } else if en then { ms with ps := ms.ps ++ [(ms.nm, none)], st := 0 } else { ms with ps := ms.ps ++ [(ms.nm, none)], nm := sg, st := 1 }
  | 1 => if wh then { ms with st := 2 } else if b223 then { ms with vl := [], st := 3 } else if en then { ms with ps := ms.ps ++ [(ms.nm, none)], st := 0 } else { ms with nm := ms.nm ++ sg }
  | _ => if en || b223 then { ms with st := 0 } else { ms with nm := sg, st := 1 }
def finB (ms : MS) (b0 : Bool) : MS := if ms.st = 0 ∧ b0 = true ∧ ms.ps ≠ [] then { ms with ls := ms.ls ++ [ms.ps], ps := [] } else ms
/-- what holds of the machine's own things -/
inductive RJ (own : List (Addr × Obj)) (Ok : Addr → Prop) (rw : Addr) (base : List (Addr × Obj)) (K : Nat) (ms : MS) : (Str → Option Value) → List (Addr × Obj) → Prop
  | mk {r p : Addr} {nr np : Nat} {vr vp : List Value} {rest : List (Addr × Obj)} {m : Str → Option Value} {t1 t2 t3 : Tok} :
      m (Str.ofString "lists") = some (.ref r) → m (Str.ofString "pairs") = some (.ref p) → m (Str.ofString "row") = some (.ref rw) → m (Str.ofString "name") = some (.str (S ms.nm) t1) → m (Str.ofString "value") = some (.str (S ms.vl) t2) → m (Str.ofString "state") = some (.int ms.st t3) →
      ms.st ≤ 6 → ms.ls.length ≤ K → ms.ps.length ≤ K → ms.nm.length ≤ K → ms.vl.length ≤ K → DatAll rest vr (ms.ls.map lsDat) → DatAll rest vp (ms.ps.map prDat) → r ≠ p → Ok r → Ok p → (∀ q ∈ own, q.1 ≠ r ∧ q.1 ≠ p) → (∀ q ∈ rest, q.1 ≠ r ∧ q.1 ≠ p ∧ Ok q.1) → (∀ q ∈ base, q ∈ rest) →
      RJ own Ok rw base K ms m ((p, listOf vp.toArray np) :: (r, listOf vr.toArray nr) :: (own ++ rest))
/-- what is known of a symbol and of its sign -/
inductive SyC (ws : List Value) (n : Int) (sg : List Nat) (b32 b9 b3 : Bool) : Prop
  | A (c : Nat) (e : sg = [c]) (h1 : decide (n ≥ 256) = true) (h2 : decide (n < 256) = false) (h3 : n - 247 = c) (h4 : c < 128) (h5 : b3 = false) (h6 : b32 = true ∨ (b32 = false ∧ b9 = true) ∨ (b32 = false ∧ b9 = false))
  | B (c k : Nat) (t : Tok) (e : sg = [c]) (h1 : decide (n ≥ 256) = false) (h2 : decide (n < 256) = true) (h3 : n - 208 = k) (h4 : ws[k]? = some (.str (S [c]) t)) (h5 : b32 = false) (h6 : b9 = false) (h7 : (n == 0) = false) (h8 : b3 = true ∨ b3 = false)
  | C (e : sg = []) (h1 : n = 0) (h5 : b32 = false) (h6 : b9 = false) (h7 : b3 = true)
/-- the turn's first part -/
structure TE where
  g : Heap
  L : Addr
  s : Shared
  r : Addr
  p : Addr
  nr : Nat
  np : Nat
  vr : List Value
  vp : List Value
  led : List (Addr × Obj)
  rw : Addr
  ms : MS
  n : Int
  sg : List Nat
  wh : Bool
  en : Bool
  t1 : Tok
  t2 : Tok
  t3 : Tok
inductive R1 (e : TE) : Flow → Shared → Prop
  | mk {h' : Heap} {tk' : Nat} {m' : Str → Option Value} {ts tn : Tok} (F : Fr e.g e.L h' m') (N : News e.g e.L h' ((e.p, listOf e.vp.toArray e.np) :: (e.r, listOf e.vr.toArray e.nr) :: e.led))
      (h1 : m' (Str.ofString "lists") = some (.ref e.r)) (h2 : m' (Str.ofString "pairs") = some (.ref e.p)) (h3 : m' (Str.ofString "row") = some (.ref e.rw)) (h4 : m' (Str.ofString "name") = some (.str (S e.ms.nm) e.t1)) (h5 : m' (Str.ofString "value") = some (.str (S e.ms.vl) e.t2)) (h6 : m' (Str.ofString "state") = some (.int e.ms.st e.t3)) (h7 : m' (Str.ofString "symbol") = some (.int e.n tn)) (h8 : m' (Str.ofString "sign") = some (.str (S e.sg) ts)) (h9 : m' (Str.ofString "white") = some (.bool e.wh)) (h10 : m' (Str.ofString "ends") = some (.bool e.en)) :
      R1 e .next { e.s with heap := h', toks := tk' }
theorem cut1 {M : Model} {A : Around} {t : Sem Flow} {E : Value → Shared → Prop} {s s₀ : Shared} {Q : Flow → Shared → Prop} {g h : Heap} {L : Addr} {m : Str → Option Value} {r p : Addr} {nr np : Nat} {vr vp : List Value} {led rest : List (Addr × Obj)} {fx : Addr × Obj} (rw : Addr) (ms : MS) (n : Int) (sg : List Nat) (wh en : Bool) (t1 t2 t3 : Tok) (F : Fr g L h m) (N : News g L h (led ++ ((p, listOf vp.toArray np) :: (r, listOf vr.toArray nr) :: ([fx] ++ rest))))
    (pre : wpAny M A t (R1 ⟨g, L, s₀, r, p, nr, np, vr, vp, (led ++ [fx]) ++ rest, rw, ms, n, sg, wh, en, t1, t2, t3⟩) E s) (post : ∀ f s', R1 ⟨g, L, s₀, r, p, nr, np, vr, vp, (led ++ [fx]) ++ rest, rw, ms, n, sg, wh, en, t1, t2, t3⟩ f s' → Q f s') : wpAny M A t Q E s := wpAny_mono pre post fun _ _ e => e
theorem led1 {a b q x : Addr × Obj} {own rest : List (Addr × Obj)} (h : q ∈ a :: b :: ((own ++ [x]) ++ rest)) : q ∈ own ++ (a :: b :: ([x] ++ rest)) := by
  simp only [List.mem_cons, List.mem_append] at h ⊢
  rcases h with h | h | (h | h) | h
  · exact .inr (.inl h)
  · exact .inr (.inr (.inl h))
  · exact .inl h
  · exact .inr (.inr (.inr (.inl h)))
  · exact .inr (.inr (.inr (.inr h)))
theorem led2 {a b q x : Addr × Obj} {own rest : List (Addr × Obj)} (h : q ∈ own ++ (a :: b :: ([x] ++ rest))) : q ∈ a :: b :: ((own ++ [x]) ++ rest) := by
  simp only [List.mem_cons, List.mem_append] at h ⊢
  rcases h with h | h | h | h | h
  · exact .inr (.inr (.inl (.inl h)))
  · exact .inl h
  · exact .inr (.inl h)
  · exact .inr (.inr (.inl (.inr h)))
  · exact .inr (.inr (.inr h))
/-- the turn's second part -/
inductive R2 (g : Heap) (L : Addr) (s : Shared) (own : List (Addr × Obj)) (Ok : Addr → Prop) (rw : Addr) (base : List (Addr × Obj)) (K : Nat) (ms : MS) (n : Int) : Flow → Shared → Prop
  | mk {h' : Heap} {tk' : Nat} {m' : Str → Option Value} {news' : List (Addr × Obj)} {tn : Tok} (F : Fr g L h' m') (N : News g L h' news') (J : RJ own Ok rw base K ms m' news') (hs : m' (Str.ofString "symbol") = some (.int n tn)) :
      R2 g L s own Ok rw base K ms n .next { s with heap := h', toks := tk' }
theorem cut2 {M : Model} {A : Around} {t : Sem Flow} {E : Value → Shared → Prop} {s s₀ : Shared} {Q : Flow → Shared → Prop} {g h : Heap} {L : Addr} {m : Str → Option Value} (own : List (Addr × Obj)) (Ok : Addr → Prop) (rw : Addr) (base : List (Addr × Obj)) (K : Nat) (ms : MS) (n : Int) (F : Fr g L h m)
    (pre : wpAny M A t (R2 g L s₀ own Ok rw base K ms n) E s) (post : ∀ f s', R2 g L s₀ own Ok rw base K ms n f s' → Q f s') : wpAny M A t Q E s := wpAny_mono pre post fun _ _ e => e
section
variable {g : Heap} {L : Addr} {s : Shared} {own : List (Addr × Obj)} {Ok : Addr → Prop} {rw : Addr} {base : List (Addr × Obj)} {K : Nat} {n : Int} {r p : Addr} {nr np : Nat} {vr vp : List Value} {rest : List (Addr × Obj)} {ls : List (List Pr)} {ps : List Pr} {nm vl : List Nat} {st : Nat} {h' : Heap} {tk' : Nat} {m' : Str → Option Value} {tn t1 t2 t3 : Tok}
/-- what stays of the ledger in a turn -/
structure KeptT (own : List (Addr × Obj)) (Ok : Addr → Prop) (base : List (Addr × Obj)) (r p : Addr) (rest : List (Addr × Obj)) : Prop where
  rp : r ≠ p
  okr : Ok r
  okp : Ok p
  kown : ∀ q ∈ own, q.1 ≠ r ∧ q.1 ≠ p
  krest : ∀ q ∈ rest, q.1 ≠ r ∧ q.1 ≠ p ∧ Ok q.1
  kbase : ∀ q ∈ base, q ∈ rest
theorem R2_same (k : KeptT own Ok base r p rest) (Dr : DatAll rest vr (ls.map lsDat)) (Dp : DatAll rest vp (ps.map prDat)) (F : Fr g L h' m') (N : News g L h' ((p, listOf vp.toArray np) :: (r, listOf vr.toArray nr) :: (own ++ rest)))
    (h1 : m' (Str.ofString "lists") = some (.ref r)) (h2 : m' (Str.ofString "pairs") = some (.ref p)) (h3 : m' (Str.ofString "row") = some (.ref rw)) (h4 : m' (Str.ofString "name") = some (.str (S nm) t1)) (h5 : m' (Str.ofString "value") = some (.str (S vl) t2)) (h6 : m' (Str.ofString "state") = some (.int st t3)) (h7 : m' (Str.ofString "symbol") = some (.int n tn))
    (z1 : st ≤ 6) (z2 : ls.length ≤ K) (z3 : ps.length ≤ K) (z4 : nm.length ≤ K) (z5 : vl.length ≤ K) : R2 g L s own Ok rw base K ⟨ls, ps, nm, vl, st⟩ n .next { s with heap := h', toks := tk' } :=
  R2.mk F N (RJ.mk h1 h2 h3 h4 h5 h6 z1 z2 z3 z4 z5 Dr Dp k.rp k.okr k.okp k.kown k.krest k.kbase) h7
theorem app_step {D : Addr} {x : List Nat} {val : Option (List Nat)} {v : Value} {news6 : List (Addr × Obj)} {t4 : Tok} (k : KeptT own Ok base r p rest) (Dr : DatAll rest vr (ls.map lsDat)) (Dp : DatAll rest vp (ps.map prDat)) (hv : (∃ u t, val = some u ∧ v = .str (S u) t) ∨ (val = none ∧ v = .none))
    (hOkD : ∀ d, AllLt d (own ++ rest) → Ok d)
    (Nn : ∀ nw : List (Addr × Obj), (∀ q ∈ nw, q ∈ news6 ∧ q.1 ≠ p) → News g L h' ((p, listOf (vp ++ [Value.ref D]).toArray (np + 1)) :: nw))
    (md : (D, ({ cls := .type "tuple", data := .seq #[.str (S x) t4, v] } : Obj)) ∈ news6) (mN : ∀ q ∈ (p, listOf vp.toArray np) :: (r, listOf vr.toArray nr) :: (own ++ rest), q ∈ news6)
    (hD : p < D ∧ r < D ∧ AllLt D (own ++ rest)) :
    News g L h' ((p, listOf (vp ++ [Value.ref D]).toArray (np + 1)) :: (r, listOf vr.toArray nr) :: (own ++ ((D, ({ cls := .type "tuple", data := .seq #[.str (S x) t4, v] } : Obj)) :: rest))) ∧ KeptT own Ok base r p ((D, ({ cls := .type "tuple", data := .seq #[.str (S x) t4, v] } : Obj)) :: rest) ∧ DatAll ((D, ({ cls := .type "tuple", data := .seq #[.str (S x) t4, v] } : Obj)) :: rest) vr (ls.map lsDat) ∧ DatAll ((D, ({ cls := .type "tuple", data := .seq #[.str (S x) t4, v] } : Obj)) :: rest) (vp ++ [Value.ref D]) ((ps ++ [(x, val)]).map prDat) := by
  obtain ⟨hD2, hD1, hDl⟩ := hD
  refine ⟨Nn ((r, listOf vr.toArray nr) :: (own ++ ((D, ({ cls := .type "tuple", data := .seq #[.str (S x) t4, v] } : Obj)) :: rest))) fun q hq => ?_, ⟨k.rp, k.okr, k.okp, k.kown, fun q hq => ?_, fun q hq => .tail _ (k.kbase q hq)⟩, Dr.mono fun q hq => .tail _ hq, ?_⟩
  · rcases List.mem_cons.mp hq with rfl | hq
    · exact ⟨mN _ (.tail _ (.head _)), k.rp⟩
    rcases List.mem_append.mp hq with hq | hq
    · exact ⟨mN _ (.tail _ (.tail _ (List.mem_append_left _ hq))), (k.kown q hq).2⟩
    rcases List.mem_cons.mp hq with rfl | hq
    · exact ⟨md, Nat.ne_of_gt hD2⟩
    · exact ⟨mN _ (.tail _ (.tail _ (List.mem_append_right _ hq))), (k.krest q hq).2.1⟩
  · rcases List.mem_cons.mp hq with rfl | hq
    · exact ⟨Nat.ne_of_gt hD1, Nat.ne_of_gt hD2, hOkD D hDl⟩
    · exact k.krest q hq
  · rw [List.map_append]
    refine DatAll.append (Dp.mono fun q hq => .tail _ hq) (.one ?_)
    show DatIn _ _ (prDat (x, val))
    refine DatIn.tuple (vs := [.str (S x) t4, v]) (n := 0) (.head _) (.cons (.str _ _) (.one ?_))
    rcases hv with ⟨u, t, rfl, rfl⟩ | ⟨rfl, rfl⟩
    · exact .str _ _
    · exact .none
theorem addS {prog : Program} {w : World} {A : Around} {E : Value → Shared → Prop} {x y : List Nat} {t u : Tok} {Q : Value → Shared → Prop} (hx : x.length ≤ 1000) (hy : y.length ≤ 1000) (h : ∀ t' tk, Q (.str (S (x ++ y)) t') { s with toks := tk }) : wpAny (model prog w) A (binaryOp .Add (.str (S x) t) (.str (S y) u)) Q E s := by
  refine PyProof.Rows.add_str (fun t' tk => ?_) (by have := S_len x; have := S_len y; rw [sizeLine_eq]; omega)
  have e : S x ++ S y = S (x ++ y) := by
    show Str.append _ _ = _
    simp [Str.append]
  rw [e]; exact h t' tk
end
section
variable {prog : Program} {w : World} {A : Around} {name : Str} {scope : Scope} {a : Addr} {cd : Value} {g : Heap} {L : Addr} {m : Str → Option Value} {news : List (Addr × Obj)}
/-- a test that tells b and changes nothing -/
def Tst (prog : Program) (w : World) (A : Around) (env : Env) (g : Heap) (L : Addr) (m : Str → Option Value) (news : List (Addr × Obj)) (test : Expr) (b : Bool) : Prop :=
  ∀ (s : Shared) (Q : Bool → Shared → Prop) (E : Value → Shared → Prop), Fr g L s.heap m → News g L s.heap news → (∀ h' tk, Fr g L h' m → News g L h' news → Q b { s with heap := h', toks := tk }) → wpAny (model prog w) A (isTrue test env (eval test env)) Q E s
theorem tst_eq {x : Str} {n k : Int} {t : Tok} {b : Bool} {kk : Nat} {px pk pos : Pos} (hv : m x = some (.int n t)) (hb : (n == k) = b) (hk : scope.kind = .function) (hl : (envOf name scope L a cd).kindOf x = some .local) (hd : (x == ("__debug__" : Str)) = false) :
    Tst prog w A (envOf name scope L a cd) g L m news (.Compare (.Name x px) [.Eq] [.Constant (.int k) kk pk] pos) b := fun s Q E F N h =>
  wpAny_isTrue_Compare1 (ld F hv (wpAny_Constant_int (eqI hb (wpAny_truthy_bool (h _ _ F N)))) hk hl hd)
theorem tst_ne {x : Str} {n k : Int} {t : Tok} {b : Bool} {kk : Nat} {px pk pos : Pos} (hv : m x = some (.int n t)) (hb : (!(n == k)) = b) (hk : scope.kind = .function) (hl : (envOf name scope L a cd).kindOf x = some .local) (hd : (x == ("__debug__" : Str)) = false) :
    Tst prog w A (envOf name scope L a cd) g L m news (.Compare (.Name x px) [.NotEq] [.Constant (.int k) kk pk] pos) b := fun s Q E F N h =>
  wpAny_isTrue_Compare1 (ld F hv (wpAny_Constant_int (neI rfl (by rw [hb]; exact wpAny_truthy_bool (h _ _ F N)))) hk hl hd)
theorem tst_gt {x : Str} {n k : Int} {t : Tok} {b : Bool} {kk : Nat} {px pk pos : Pos} (hv : m x = some (.int n t)) (hb : decide (n > k) = b) (hk : scope.kind = .function) (hl : (envOf name scope L a cd).kindOf x = some .local) (hd : (x == ("__debug__" : Str)) = false) :
    Tst prog w A (envOf name scope L a cd) g L m news (.Compare (.Name x px) [.Gt] [.Constant (.int k) kk pk] pos) b := fun s Q E F N h =>
  wpAny_isTrue_Compare1 (ld F hv (wpAny_Constant_int (gt_int (by rw [hb]; exact wpAny_truthy_bool (h _ _ F N)))) hk hl hd)
theorem tst_str {x : Str} {y k : Str} {t : Tok} {b : Bool} {kk : Nat} {px pk pos : Pos} (hv : m x = some (.str y t)) (hb : (y == k) = b) (hk : scope.kind = .function) (hl : (envOf name scope L a cd).kindOf x = some .local) (hd : (x == ("__debug__" : Str)) = false) :
    Tst prog w A (envOf name scope L a cd) g L m news (.Compare (.Name x px) [.Eq] [.Constant (.str k) kk pk] pos) b := fun s Q E F N h =>
  wpAny_isTrue_Compare1 (ld F hv (Calls.Constant_str (eqS hb (wpAny_truthy_bool (h _ _ F N)))) hk hl hd)
theorem tst_in {x : Str} {n k1 k2 : Int} {t : Tok} {b : Bool} {j1 j2 jt : Nat} {px p1 p2 pt pos : Pos} (hv : m x = some (.int n t)) (hb : [k1, k2].any (· == n) = b) (hk : scope.kind = .function) (hl : (envOf name scope L a cd).kindOf x = some .local) (hd : (x == ("__debug__" : Str)) = false)
    (hm : behindInMarks .In (.Tuple [.Constant (.int k1) j1 p1, .Constant (.int k2) j2 p2] jt pt) = false) :
    Tst prog w A (envOf name scope L a cd) g L m news (.Compare (.Name x px) [.In] [.Tuple [.Constant (.int k1) j1 p1, .Constant (.int k2) j2 p2] jt pt] pos) b := fun s Q E F N h =>
  wpAny_isTrue_Compare1 (ld F hv (Tuple_ (spliced_more (wpAny_Constant_int (spliced_more (wpAny_Constant_int (spliced_none (newTuple_N F N (fun h' F' N' => inT ⟨_, (N' _ (.head _)).1, rfl, _, rfl⟩ (.cons _ _ (.cons _ _ .nil)) hb (wpAny_truthy_bool (h h' _ F' (fun q hq => N' q (.tail _ hq))))) (by simp only [sizeLine_eq, List.length_cons, List.length_nil]; omega)))))))) hk hl hd) hm
theorem tst_name {x : Str} {b : Bool} {px : Pos} (hv : m x = some (.bool b)) (hk : scope.kind = .function) (hl : (envOf name scope L a cd).kindOf x = some .local) (hd : (x == ("__debug__" : Str)) = false) :
    Tst prog w A (envOf name scope L a cd) g L m news (.Name x px) b := fun s Q E F N h =>
  isTrue_plain (ld F hv (wpAny_truthy_bool (h _ _ F N)) hk hl hd)
variable {env : Env}
theorem tst_not {e : Expr} {b : Bool} {pos : Pos} (h₁ : Tst prog w A env g L m news e b) : Tst prog w A env g L m news (.UnaryOp .Not e pos) (!b) := fun s Q E F N h => isTrue_not (h₁ s _ E F N h)
theorem tst_andF {e : Expr} {es : List Expr} {pos : Pos} (h₁ : Tst prog w A env g L m news e false) : Tst prog w A env g L m news (.BoolOp .And (e :: es) pos) false := fun s Q E F N h =>
  isTrue_and (h₁ s _ E F N fun h' tk F' N' => by rw [if_neg (by decide)]; exact h h' tk F' N')
theorem tst_andT {e e2 : Expr} {b : Bool} {pos : Pos} (h₁ : Tst prog w A env g L m news e true) (h₂ : Tst prog w A env g L m news e2 b) : Tst prog w A env g L m news (.BoolOp .And [e, e2] pos) b := fun s Q E F N h =>
  isTrue_and (h₁ s _ E F N fun h' tk F' N' => by
    rw [if_pos rfl]
    refine isTrue_and (h₂ _ _ E F' N' fun h2 tk2 F2 N2 => ?_)
    cases b with
    | false => rw [if_neg (by decide)]; exact h h2 tk2 F2 N2
    | true => rw [if_pos rfl]; exact isTrue_and_nil (h h2 tk2 F2 N2))
variable {E : Value → Shared → Prop} {s : Shared} {Q : Flow → Shared → Prop}
theorem if_yes {test : Expr} {body orelse : List Stmt} {pos : Pos} (F : Fr g L s.heap m) (N : News g L s.heap news) (ht : Tst prog w A env g L m news test true) (h : ∀ h' tk, Fr g L h' m → News g L h' news → wpAny (model prog w) A (execs body env) Q E { s with heap := h', toks := tk }) :
    wpAny (model prog w) A (exec (.If test body orelse pos) env) Q E s := wpAny_If (ht s _ E F N fun h' tk F' N' => by rw [if_pos rfl]; exact h h' tk F' N')
theorem if_no {test : Expr} {body : List Stmt} {st : Stmt} {pos : Pos} (F : Fr g L s.heap m) (N : News g L s.heap news) (ht : Tst prog w A env g L m news test false) (h : ∀ h' tk, Fr g L h' m → News g L h' news → wpAny (model prog w) A (exec st env) Q E { s with heap := h', toks := tk }) :
    wpAny (model prog w) A (exec (.If test body [st] pos) env) Q E s := wpAny_If (ht s _ E F N fun h' tk F' N' => by
  rw [if_neg (by decide)]
  refine wpAny_execs_cons (wpAny_mono (h h' tk F' N') (fun f s' hq => ?_) fun _ _ e => e)
  cases f with
  | next => exact wpAny_execs_nil hq
  | _ => exact hq)
theorem if_else {test : Expr} {body orelse : List Stmt} {pos : Pos} (F : Fr g L s.heap m) (N : News g L s.heap news) (ht : Tst prog w A env g L m news test false) (h : ∀ h' tk, Fr g L h' m → News g L h' news → wpAny (model prog w) A (execs orelse env) Q E { s with heap := h', toks := tk }) :
    wpAny (model prog w) A (exec (.If test body orelse pos) env) Q E s := wpAny_If (ht s _ E F N fun h' tk F' N' => by rw [if_neg (by decide)]; exact h h' tk F' N')
end
theorem hd_state : (Str.ofString "state" == ("__debug__" : Str)) = false := by decide
theorem hd_sign : (Str.ofString "sign" == ("__debug__" : Str)) = false := by decide
theorem hd_white : (Str.ofString "white" == ("__debug__" : Str)) = false := by decide
theorem hd_ends : (Str.ofString "ends" == ("__debug__" : Str)) = false := by decide
theorem hd_symbol : (Str.ofString "symbol" == ("__debug__" : Str)) = false := by decide
theorem env_know {M : Model} {A : Around} {name : Str} {scope : Scope} {L a : Addr} {cd : Value} {st : Stmt} {Q : Flow → Shared → Prop} {E : Value → Shared → Prop} {s : Shared}
    (h : scope.kind = .function → (envOf name scope L a cd).kindOf (Str.ofString "state") = some .local → (envOf name scope L a cd).kindOf (Str.ofString "sign") = some .local → (envOf name scope L a cd).kindOf (Str.ofString "white") = some .local → (envOf name scope L a cd).kindOf (Str.ofString "ends") = some .local → (envOf name scope L a cd).kindOf (Str.ofString "symbol") = some .local → wpAny M A (exec st (envOf name scope L a cd)) Q E s)
    (h0 : scope.kind = .function) (h1 : (envOf name scope L a cd).kindOf (Str.ofString "state") = some .local) (h2 : (envOf name scope L a cd).kindOf (Str.ofString "sign") = some .local) (h3 : (envOf name scope L a cd).kindOf (Str.ofString "white") = some .local) (h4 : (envOf name scope L a cd).kindOf (Str.ofString "ends") = some .local) (h5 : (envOf name scope L a cd).kindOf (Str.ofString "symbol") = some .local) :
    wpAny M A (exec st (envOf name scope L a cd)) Q E s := h h0 h1 h2 h3 h4 h5
section
variable {prog : Program} {w : World} {A : Around} {name : Str} {scope : Scope} {a : Addr} {cd : Value} {g : Heap} {L : Addr} {m : Str → Option Value} {news : List (Addr × Obj)}
theorem tst_andC {env : Env} {e : Expr} {es : List Expr} {b : Bool} {pos : Pos} (h₁ : Tst prog w A env g L m news e true) (h₂ : Tst prog w A env g L m news (.BoolOp .And es pos) b) : Tst prog w A env g L m news (.BoolOp .And (e :: es) pos) b := fun s Q E F N h =>
  isTrue_and (h₁ s _ E F N fun h' tk F' N' => by
    rw [if_pos rfl]
    exact h₂ _ _ E F' N' h)
theorem tst_nel {x : Str} {px pl pos : Pos} {p : Addr} {vp : List Value} {np : Nat} {ds : List Dat} {n₁ : List (Addr × Obj)} {b : Bool} (hv : m x = some (.ref p)) (hm : (p, listOf vp.toArray np) ∈ news) (D : DatAll n₁ vp ds) (sa : ∀ q ∈ n₁, q ∈ news) (ok : ∀ d ∈ ds, kqdOk 8 d = true) (hu : A.units + 64 < cLine) (hb : b = true ↔ ds ≠ [])
    (hk : scope.kind = .function) (hl : (envOf name scope L a cd).kindOf x = some .local) (hd : (x == ("__debug__" : Str)) = false) :
    Tst prog w A (envOf name scope L a cd) g L m news (.Compare (.Name x px) [.NotEq] [.List [] pl] pos) b := fun s Q E F N h =>
  wpAny_isTrue_Compare1 (ld F hv (List_ (spliced_none (newList_N F N (fun h' F' N' => kqd_ne N' (.tail _ hm) rfl rfl D (fun q hq => .tail _ (sa q hq)) (.head _) rfl rfl (xs := vp) (ys := []) (es := []) (n₂ := []) .nil (List.forall_mem_nil _) ok (List.forall_mem_nil _) hu (by
    have e : ∀ (i : Decidable (ds = [])), (!@decide (ds = []) i) = b := fun i => by
      by_cases h1 : ds = []
      · cases b with
        | false => simp [h1]
        | true => exact absurd h1 (hb.mp rfl)
      · cases b with
        | true => simp [h1]
        | false => exact absurd (hb.mpr h1) (by simp)
    rw [e]
    exact wpAny_truthy_bool (h h' _ F' (fun q hq => N' q (.tail _ hq))))) (by simp only [sizeLine_eq, List.length_nil]; omega)))) hk hl hd)
theorem hd_pairs : (Str.ofString "pairs" == ("__debug__" : Str)) = false := by decide
end
theorem env_know2 {M : Model} {A : Around} {name : Str} {scope : Scope} {L a : Addr} {cd : Value} {st : Stmt} {Q : Flow → Shared → Prop} {E : Value → Shared → Prop} {s : Shared}
    (h : scope.kind = .function → (envOf name scope L a cd).kindOf (Str.ofString "state") = some .local → (envOf name scope L a cd).kindOf (Str.ofString "symbol") = some .local → (envOf name scope L a cd).kindOf (Str.ofString "pairs") = some .local → wpAny M A (exec st (envOf name scope L a cd)) Q E s)
    (h0 : scope.kind = .function) (h1 : (envOf name scope L a cd).kindOf (Str.ofString "state") = some .local) (h2 : (envOf name scope L a cd).kindOf (Str.ofString "symbol") = some .local) (h3 : (envOf name scope L a cd).kindOf (Str.ofString "pairs") = some .local) :
    wpAny M A (exec st (envOf name scope L a cd)) Q E s := h h0 h1 h2 h3
theorem midB_ls (ms : MS) (sg : List Nat) (wh en b34 b92 b223 : Bool) : (midB ms sg wh en b34 b92 b223).ls = ms.ls := by
  unfold midB
  split <;> (repeat' split) <;> rfl
end

section
local macro_rules | `(tactic| walk_at "call ref") => `(tactic| (k_here; (with_reducible show wpAny _ _ (call (Value.ref 80) _) _ _ _); k_dflt (refine' isT ?mb ?mf ?mx ?mn ?mt ?mk ?md ?mu ?mh ?_); (case mb | mf | mx | mn | mt => assumption); (case mk => rfl); (case md | mu => (dsimp only [ktrTop, Around.deeper]; omega)); (case mh => first | assumption | rfl); intro h' tk2' F' N'; (try k_sweep)))
local macro_rules | `(tactic| walk_at "call ref") => `(tactic| (k_here; (with_reducible show wpAny _ _ (call (Value.ref 87) _) _ _ _); k_dflt (refine' isN ?mb ?mf ?mx ?mn ?mt ?mk ?md ?mu ?mh ?_); (case mb | mf | mx | mn | mt => assumption); (case mk => rfl); (case md | mu => (dsimp only [ktrTop, Around.deeper]; omega)); (case mh => first | assumption | rfl); intro h' tk2' F' N'; (try k_sweep)))
local macro_rules | `(tactic| walk_at "call ref") => `(tactic| (k_here; (with_reducible show wpAny _ _ (call (Value.ref 94) _) _ _ _); k_dflt (refine' isE ?mb ?mf ?mx ?mn ?mt ?mk ?md ?mu ?mh ?_); (case mb | mf | mx | mn | mt => assumption); (case mk => rfl); (case md | mu => (dsimp only [ktrTop, Around.deeper]; omega)); (case mh => first | assumption | rfl); intro h' tk2' F' N'; (try k_sweep)))
local macro_rules | `(tactic| walk_at "compareOp Eq str str") => `(tactic| (k_here; (refine' eqS ?mh ?_); (case mh => first | assumption | rfl)))
local macro_rules | `(tactic| walk_at "compareOp Eq int int") => `(tactic| (k_here; (refine' eqI ?mh ?_); (case mh => first | assumption | rfl)))
local macro_rules | `(tactic| walk_at "stop") => `(tactic| with_reducible show R1 _ _ _)
local macro_rules | `(tactic| walk_at "call builtin:chr") => `(tactic| (k_here; (refine' chrS ?mh ?mc ?_); (case mh | mc => assumption)))
local macro_rules | `(tactic| walk_at "compareOp In int ref") => `(tactic| (k_here; (refine' inT ?mt ?mi ?mb ?_); (case mt => exact News.isTup (by assumption) (.head _)); (case mi => repeat constructor); (case mb => first | assumption | rfl)))
local macro_rules | `(tactic| walk_at "subscriptTail") => `(tactic| (k_here; (with_reducible show wpAny _ _ (subscriptTail (Expr.Name (Str.ofString "row") _) _ (Value.ref _) (Value.int _ _)) _ _ _); (refine' rowI ?mn ?mm ?mh ?mk ?ml ?_ (by with_unfolding_all rfl) (by intro _; with_unfolding_all rfl)); (case mn | mm | mh | mk | ml => assumption)))
local macro_rules | `(tactic| walk_at "stop") => `(tactic| with_reducible show R2 _ _ _ _ _ _ _ _ _ _ _ _)
local macro_rules | `(tactic| walk_at "binaryOp Add str str") => `(tactic| (k_here; (refine' addS ?mx ?my ?_); (case mx | my => assumption); intro t' tk'))
local macro_rules | `(tactic| walk_at "compareOp NotEq int int") => `(tactic| (k_here; (refine' neI ?mh ?_); (case mh => first | assumption | rfl)))
local macro_rules | `(tactic| walk_at "stop") => `(tactic| with_reducible show wpAny _ _ (compareOp CmpOp.NotEq (Value.ref _) (Value.ref _)) _ _ _)
theorem rd {w : World} {p : Program} {loose : List Str} {mean : ExcName → Option Value} {mg mb : Str → Option Value}
  {dp un : Nat} {gd : Option (List Code)} {cn : Str} {cs : Scope} {a : Addr} {ccd : Value} {cl : List (Str × Addr)} {outer : List Env} {A₀ : Around} {base h₀ : Heap} {L : Addr} {m : Str → Option Value} {news : List (Addr × Obj)} {s : Shared} {sy rw : Addr} {vs ws : List Value} {nv nw : Nat}
    {Q E : Value → Shared → Prop} {run : Nat → MS} {tab : Array Value} 
    (B : Below A₀ base outer h₀) (F : Fr h₀ L s.heap m) (X : (hd.heap_39 w.params).In h₀) (N : News h₀ L s.heap ((65, tabObj tab) :: news)) (h65 : ∀ q ∈ news, q.1 ≠ 65) (T : Top p loose mean mg mb h₀) (hk : cs.kind = .function)
    (hdp : dp + 5 < recursionLimit) (hu : un + 100 < cLine) (hsym : (sy, listOf vs.toArray nv) ∈ news) (hrw : (rw, listOf ws.toArray nw) ∈ news) (hvl : vs.length ≤ 201) (hwl : ws.length ≤ 1000)
    (hr0 : run 0 = ⟨[], [], [], [], 0⟩)
    (hrun : ∀ i v, vs[i]? = some v → ∃ n t sg b32 b9 b3 b34 b92 b223 b0, v = .int n t ∧ SyC ws n sg b32 b9 b3 ∧ sg.length ≤ 1 ∧ (S sg == Str.ofString " ") = b32 ∧ (S sg == Str.ofString "\t") = b9 ∧ (S sg == Str.ofString "\"") = b34 ∧ (S sg == Str.ofString "\\") = b92 ∧ (n == 223) = b223 ∧ ([0, 213, 214] : List Int).any (· == n) = b3 ∧ ([0, 213] : List Int).any (· == n) = b0 ∧ (∀ q ∈ (midB (run i) sg (b32 || b9) (b32 || b9 || b3) b34 b92 b223).ps, kqdOk 8 (prDat q) = true) ∧ run (i + 1) = finB (midB (run i) sg (b32 || b9) (b32 || b9 || b3) b34 b92 b223) b0)
    (ret : ∀ r vr nr rest h' tk', Fr h₀ L h' m → News h₀ L h' ((r, listOf (List.toArray vr) nr) :: (65, tabObj tab) :: rest) → (∀ q ∈ news, q ∈ rest) → (∀ q ∈ rest, q.1 ≠ r ∧ q.1 ≠ 65) → r ≠ 65 → DatAll rest vr ((run vs.length).ls.map lsDat) → Q (.ref r) { s with heap := h', toks := tk' }) :
    wpAny (model Challenge.rw_rs0138_01.row.prog w) (ktrTop dp un gd cn cs L a ccd cl outer) (call (.ref 106) [.ref sy, .ref rw]) Q E s := by
  revert X; k_fill; intro X
  refine wpAny_call ?_
  k_dflt ktr_enter
  walk_at "go"
  rename Fr _ _ _ _ => F1
  rename News _ _ _ _ => N1
  rename (_ < _ ∧ 65 < _ ∧ _) => lt1
  rename (65 < _ ∧ _) => lt0'
  have lt0 : ∀ q ∈ (65, tabObj tab) :: news, q.1 < _ := allLt_mem lt0'
  refine For_invVF F1 (by rfl) (by rfl) ?_
  walk_at "go"
  refine iter_mine (vs := vs) (nl := nv) (fun i m' news' => RJ [(65, tabObj tab)] (fun x => x ≠ 65) rw news i (run i) m' news') rfl ?hl F1 N1 ?hj ?turn ?done
  case hl => exact .tail _ (.tail _ (.tail _ hsym))
  case hj =>
    show RJ [(65, tabObj tab)] (fun x => x ≠ 65) rw news 0 (run 0) _ _
    rw [hr0]
    exact RJ.mk (vr := []) (vp := []) rfl rfl rfl rfl rfl rfl (by simp) (by simp) (by simp) (by simp) (by simp) .nil .nil (Nat.ne_of_lt lt1.1) (Nat.ne_of_gt (lt0 _ (.head _))) (Nat.ne_of_gt lt1.2.1) (fun q hq => by rw [List.mem_singleton.mp hq]; exact ⟨Nat.ne_of_lt (lt0 _ (.head _)), Nat.ne_of_lt lt1.2.1⟩) (fun q hq => ⟨Nat.ne_of_lt (lt0 q (.tail _ hq)), Nat.ne_of_lt (allLt_mem lt1.2.2 q hq), h65 q hq⟩) fun _ h => h
  case done =>
    intro m9 news9 h9 tk9 hJ9 F9 N9
    cases hJ9 with
    | mk mls mps mrw mnm mvl mst hst hsz1 hsz2 hsz3 hsz4 hDr hDp hrp hT1 hT2 howA hrsA hbase =>
    rename_i r p nr np vr vp rest t1 t2 t3
    dsimp only [envOf] at F9 N9
    have F10 := fr1 F9 (a := Str.ofString "lists") mls
    clear F9 F1 N1
    walk_at "go"
    rename News h₀ _ _ _ => N10
    refine ret r vr nr rest _ _ (by assumption) (fun q hq => N10 q ?_) hbase (fun q hq => ⟨(hrsA q hq).1, (hrsA q hq).2.2⟩) hT1 hDr
    rcases List.mem_cons.mp hq with rfl | hq
    · exact .tail _ (.head _)
    · exact .tail _ (.tail _ hq)
  case turn =>
    intro I i v m₁ news₁ h₁ tk₁ own it hv₁ hJ₁ hown hoff hIm F2 N2
    obtain ⟨n, tn, sg, b32, b9, b3, b34, b92, b223, b0, rfl, hsy, hsl, h32, h9, h34, h92, h223, hi3, hi2, hOk, hnext⟩ := hrun i v hv₁
    have hil := (List.getElem?_eq_some_iff.mp hv₁).1
    cases hJ₁ with
    | mk mls mps mrw mnm mvl mst hst hsz1 hsz2 hsz3 hsz4 hDr hDp hrp hT1 hT2 howA hrsA hbase =>
    rename_i r p nr np vr vp rest t1 t2 t3
    have hrwm : (rw, listOf ws.toArray nw) ∈ own ++ (p, listOf vp.toArray np) :: (r, listOf vr.toArray nr) :: ([(65, tabObj tab)] ++ rest) := List.mem_append_right _ (.tail _ (.tail _ (.tail _ (hbase _ hrw))))
    refine execs_split 5 ?_
    simp only [List.take_succ_cons, List.take_zero, List.drop_succ_cons, List.drop_zero]
    dsimp only [envOf] at F2 N2
    have F3 := fr1 (fr1 (fr1 (fr1 (fr1 (fr1 (fr1 F2 (a := Str.ofString "symbol") (va := .int n tn) (by rfl)) (a := Str.ofString "state") (va := .int (run i).st t3) mst) (a := Str.ofString "value") mvl) (a := Str.ofString "name") mnm) (a := Str.ofString "row") mrw) (a := Str.ofString "pairs") mps) (a := Str.ofString "lists") mls
    clear F2
    refine cut1 (s₀ := s) rw (run i) n sg (b32 || b9) (b32 || b9 || b3) t1 t2 t3 F3 N2 ?pre ?post
    case pre =>
      cases hsy with
      | A c e h1 h2 h3 h4 h5 h6 =>
        subst e h5
        rcases h6 with rfl | ⟨rfl, rfl⟩ | ⟨rfl, rfl⟩
        · walk_at "go"
          all_goals (rename Fr _ _ _ _ => F7; rename News _ _ _ _ => N7; exact R1.mk F7 (fun q hq => N7 q (led1 hq)) rfl rfl rfl rfl rfl rfl rfl rfl rfl rfl)
        · walk_at "go"
          all_goals (rename Fr _ _ _ _ => F7; rename News _ _ _ _ => N7; exact R1.mk F7 (fun q hq => N7 q (led1 hq)) rfl rfl rfl rfl rfl rfl rfl rfl rfl rfl)
        · walk_at "go"
          all_goals (rename Fr _ _ _ _ => F7; rename News _ _ _ _ => N7; exact R1.mk F7 (fun q hq => N7 q (.tail _ (led1 hq))) rfl rfl rfl rfl rfl rfl rfl rfl rfl rfl)
      | B c k t e h1 h2 h3 h4 h5 h6 h7 h8 =>
        subst e h5 h6
        rcases h8 with rfl | rfl
        · walk_at "go"
          all_goals (rename Fr _ _ _ _ => F7; rename News _ _ _ _ => N7; exact R1.mk F7 (fun q hq => N7 q (.tail _ (led1 hq))) rfl rfl rfl rfl rfl rfl rfl rfl rfl rfl)
        · walk_at "go"
          all_goals (rename Fr _ _ _ _ => F7; rename News _ _ _ _ => N7; exact R1.mk F7 (fun q hq => N7 q (.tail _ (led1 hq))) rfl rfl rfl rfl rfl rfl rfl rfl rfl rfl)
      | C e h1 h5 h6 h7 =>
        subst e h5 h6 h7 h1
        walk_at "go"
        all_goals (rename Fr _ _ _ _ => F7; rename News _ _ _ _ => N7; exact R1.mk F7 (fun q hq => N7 q (.tail _ (led1 hq))) rfl rfl rfl rfl rfl rfl rfl rfl rfl rfl)
    case post =>
      intro f s' hR
      cases hR with
      | mk F4 N4 k1 k2 k3 k4 k5 k6 k7 k8 k9 k10 =>
      rename_i h4 tk4 m4 ts4 tn4
      clear F3 N2 hrun hsy
      dsimp only at F4 N4 k1 k2 k3 k4 k5 k6 k7 k8 k9 k10 ⊢
      have hIown := hIm
      have hK : KeptT (own ++ [(65, tabObj tab)]) (fun x => x ≠ I ∧ x ≠ 65) news r p rest := by
        have hr := hoff (r, listOf vr.toArray nr) (.tail _ (.head _))
        have hp := hoff (p, listOf vp.toArray np) (.head _)
        refine ⟨hrp, ⟨hr, hT1⟩, ⟨hp, hT2⟩, fun q hq => ?_, fun q hq => ⟨(hrsA q hq).1, (hrsA q hq).2.1, hoff q (.tail _ (.tail _ (.tail _ hq))), (hrsA q hq).2.2⟩, hbase⟩
        rcases List.mem_append.mp hq with hq | hq
        · rcases hown q hq with e | e
          · exact ⟨fun e' => hr (e' ▸ e ▸ rfl), fun e' => hp (e' ▸ e ▸ rfl)⟩
          · exact ⟨fun e' => (hrsA _ (hbase _ hsym)).1 (e ▸ e'), fun e' => (hrsA _ (hbase _ hsym)).2.1 (e ▸ e')⟩
        · exact howA q hq
      have hOkD : ∀ d, AllLt d ((own ++ [(65, tabObj tab)]) ++ rest) → d ≠ I ∧ d ≠ 65 := fun d hd => ⟨Nat.ne_of_gt (allLt_mem hd _ (List.mem_append_left _ (List.mem_append_left _ hIm))), Nat.ne_of_gt (allLt_mem hd (65, tabObj tab) (List.mem_append_left _ (List.mem_append_right _ (.head _))))⟩
      have h65I : (65 : Nat) ≠ I := hoff (65, tabObj tab) (.tail _ (.tail _ (.head _)))
      refine execs_split 1 ?_
      simp only [List.take_succ_cons, List.take_zero, List.drop_succ_cons, List.drop_zero]
      have hwe : (b32 || b9) = true → (b32 || b9 || b3) = true := fun e => by rw [e]; rfl
      generalize (b32 || b9 || b3) = en at *
      generalize (b32 || b9) = wh at *
      generalize run i = ms at *
      obtain ⟨ls, ps, nm, vl, st⟩ := ms
      dsimp only at *
      refine cut2 (s₀ := s) (own ++ [(65, tabObj tab)]) (fun x => x ≠ I ∧ x ≠ 65) rw news (i + 1) (midB ⟨ls, ps, nm, vl, st⟩ sg wh en b34 b92 b223) n F4 ?chain ?last
      case chain =>
        have z1 : vl.length ≤ 1000 := by omega
        have z2 : nm.length ≤ 1000 := by omega
        have z3 : sg.length ≤ 1000 := by omega
        have zr : vp.length ≤ 1000 := by have := hDp.length; simp only [List.length_map] at this; omega
        have hst' : st = 0 ∨ st = 1 ∨ st = 2 ∨ st = 3 ∨ st = 4 ∨ st = 5 ∨ st = 6 := by omega
        refine wpAny_execs_cons ?_
        refine env_know ?_ rfl rfl rfl rfl rfl rfl
        intro hkf hl_state hl_sign hl_white hl_ends hl_symbol
        rcases hst' with rfl | rfl | rfl | rfl | rfl | rfl | rfl
        · have h : (wh = true ∧ en = true) ∨ (wh = false ∧ en = true) ∨ (wh = false ∧ en = false ∧ b223 = true) ∨ (wh = false ∧ en = false ∧ b223 = false) := by cases wh <;> cases en <;> cases b223 <;> simp at hwe ⊢
          rcases h with ⟨rfl, rfl⟩ | ⟨rfl, rfl⟩ | ⟨rfl, rfl, rfl⟩ | ⟨rfl, rfl, rfl⟩
          · refine if_no F4 N4 (tst_eq k6 rfl hkf hl_state hd_state) ?_
            intro h4 tk4 F4 N4
            refine if_no F4 N4 (tst_andF (tst_eq k6 rfl hkf hl_state hd_state)) ?_
            intro h4 tk4 F4 N4
            refine if_no F4 N4 (tst_andF (tst_eq k6 rfl hkf hl_state hd_state)) ?_
            intro h4 tk4 F4 N4
            refine if_no F4 N4 (tst_eq k6 rfl hkf hl_state hd_state) ?_
            intro h4 tk4 F4 N4
            refine if_no F4 N4 (tst_andF (tst_eq k6 rfl hkf hl_state hd_state)) ?_
            intro h4 tk4 F4 N4
            refine if_no F4 N4 (tst_andT (tst_name k9 hkf hl_white hd_white) (tst_in k6 rfl hkf hl_state hd_state (by with_unfolding_all rfl))) ?_
            intro h4 tk4 F4 N4
            refine if_no F4 N4 (tst_andT (tst_name k9 hkf hl_white hd_white) (tst_eq k6 rfl hkf hl_state hd_state)) ?_
            intro h4 tk4 F4 N4
            refine if_no F4 N4 (tst_andF (tst_in k6 rfl hkf hl_state hd_state (by with_unfolding_all rfl))) ?_
            intro h4 tk4 F4 N4
            refine if_no F4 N4 (tst_in k6 rfl hkf hl_state hd_state (by with_unfolding_all rfl)) ?_
            intro h4 tk4 F4 N4
            refine if_no F4 N4 (tst_andF (tst_in k6 rfl hkf hl_state hd_state (by with_unfolding_all rfl))) ?_
            intro h4 tk4 F4 N4
            refine if_else F4 N4 (tst_andF (tst_eq k6 rfl hkf hl_state hd_state)) ?_
            intro h4 tk4 F4 N4
            have F5 := fr1 (fr1 (fr1 (fr1 (fr1 (fr1 (fr1 (fr1 (fr1 (fr1 F4 (a := Str.ofString "ends") k10) (a := Str.ofString "white") k9) (a := Str.ofString "sign") k8) (a := Str.ofString "symbol") k7) (a := Str.ofString "state") k6) (a := Str.ofString "value") k5) (a := Str.ofString "name") k4) (a := Str.ofString "row") k3) (a := Str.ofString "pairs") k2) (a := Str.ofString "lists") k1
            clear F4
            walk_at "go"
            rename Fr _ _ _ _ => F7
            rename News _ _ _ _ => N7
            exact R2_same (ls := ls) (ps := ps) (nm := nm) (vl := vl) (st := 0) hK hDr hDp F7 (fun q hq => N7 q (by first | exact hq | exact .tail _ hq | exact .tail _ (.tail _ hq))) rfl rfl rfl rfl rfl rfl rfl (by omega) (by omega) (by first | omega | (simp only [List.length_append, List.length_cons, List.length_nil]; omega)) (by first | omega | (simp only [List.length_append, List.length_cons, List.length_nil]; omega)) (by first | omega | (simp only [List.length_append, List.length_cons, List.length_nil]; omega))
          · refine if_no F4 N4 (tst_eq k6 rfl hkf hl_state hd_state) ?_
            intro h4 tk4 F4 N4
            refine if_no F4 N4 (tst_andF (tst_eq k6 rfl hkf hl_state hd_state)) ?_
            intro h4 tk4 F4 N4
            refine if_no F4 N4 (tst_andF (tst_eq k6 rfl hkf hl_state hd_state)) ?_
            intro h4 tk4 F4 N4
            refine if_no F4 N4 (tst_eq k6 rfl hkf hl_state hd_state) ?_
            intro h4 tk4 F4 N4
            refine if_no F4 N4 (tst_andF (tst_eq k6 rfl hkf hl_state hd_state)) ?_
            intro h4 tk4 F4 N4
            refine if_no F4 N4 (tst_andF (tst_name k9 hkf hl_white hd_white)) ?_
            intro h4 tk4 F4 N4
            refine if_no F4 N4 (tst_andF (tst_name k9 hkf hl_white hd_white)) ?_
            intro h4 tk4 F4 N4
            refine if_no F4 N4 (tst_andF (tst_in k6 rfl hkf hl_state hd_state (by with_unfolding_all rfl))) ?_
            intro h4 tk4 F4 N4
            refine if_no F4 N4 (tst_in k6 rfl hkf hl_state hd_state (by with_unfolding_all rfl)) ?_
            intro h4 tk4 F4 N4
            refine if_no F4 N4 (tst_andF (tst_in k6 rfl hkf hl_state hd_state (by with_unfolding_all rfl))) ?_
            intro h4 tk4 F4 N4
            refine if_else F4 N4 (tst_andF (tst_eq k6 rfl hkf hl_state hd_state)) ?_
            intro h4 tk4 F4 N4
            have F5 := fr1 (fr1 (fr1 (fr1 (fr1 (fr1 (fr1 (fr1 (fr1 (fr1 F4 (a := Str.ofString "ends") k10) (a := Str.ofString "white") k9) (a := Str.ofString "sign") k8) (a := Str.ofString "symbol") k7) (a := Str.ofString "state") k6) (a := Str.ofString "value") k5) (a := Str.ofString "name") k4) (a := Str.ofString "row") k3) (a := Str.ofString "pairs") k2) (a := Str.ofString "lists") k1
            clear F4
            walk_at "go"
            rename Fr _ _ _ _ => F7
            rename News _ _ _ _ => N7
            exact R2_same (ls := ls) (ps := ps) (nm := nm) (vl := vl) (st := 0) hK hDr hDp F7 (fun q hq => N7 q (by first | exact hq | exact .tail _ hq | exact .tail _ (.tail _ hq))) rfl rfl rfl rfl rfl rfl rfl (by omega) (by omega) (by first | omega | (simp only [List.length_append, List.length_cons, List.length_nil]; omega)) (by first | omega | (simp only [List.length_append, List.length_cons, List.length_nil]; omega)) (by first | omega | (simp only [List.length_append, List.length_cons, List.length_nil]; omega))
          · refine if_no F4 N4 (tst_eq k6 rfl hkf hl_state hd_state) ?_
            intro h4 tk4 F4 N4
            refine if_no F4 N4 (tst_andF (tst_eq k6 rfl hkf hl_state hd_state)) ?_
            intro h4 tk4 F4 N4
            refine if_no F4 N4 (tst_andF (tst_eq k6 rfl hkf hl_state hd_state)) ?_
            intro h4 tk4 F4 N4
            refine if_no F4 N4 (tst_eq k6 rfl hkf hl_state hd_state) ?_
            intro h4 tk4 F4 N4
            refine if_no F4 N4 (tst_andF (tst_eq k6 rfl hkf hl_state hd_state)) ?_
            intro h4 tk4 F4 N4
            refine if_no F4 N4 (tst_andF (tst_name k9 hkf hl_white hd_white)) ?_
            intro h4 tk4 F4 N4
            refine if_no F4 N4 (tst_andF (tst_name k9 hkf hl_white hd_white)) ?_
            intro h4 tk4 F4 N4
            refine if_no F4 N4 (tst_andF (tst_in k6 rfl hkf hl_state hd_state (by with_unfolding_all rfl))) ?_
            intro h4 tk4 F4 N4
            refine if_no F4 N4 (tst_in k6 rfl hkf hl_state hd_state (by with_unfolding_all rfl)) ?_
            intro h4 tk4 F4 N4
            refine if_no F4 N4 (tst_andF (tst_in k6 rfl hkf hl_state hd_state (by with_unfolding_all rfl))) ?_
            intro h4 tk4 F4 N4
            refine if_else F4 N4 (tst_andF (tst_eq k6 rfl hkf hl_state hd_state)) ?_
            intro h4 tk4 F4 N4
            have F5 := fr1 (fr1 (fr1 (fr1 (fr1 (fr1 (fr1 (fr1 (fr1 (fr1 F4 (a := Str.ofString "ends") k10) (a := Str.ofString "white") k9) (a := Str.ofString "sign") k8) (a := Str.ofString "symbol") k7) (a := Str.ofString "state") k6) (a := Str.ofString "value") k5) (a := Str.ofString "name") k4) (a := Str.ofString "row") k3) (a := Str.ofString "pairs") k2) (a := Str.ofString "lists") k1
            clear F4
            walk_at "go"
            rename Fr _ _ _ _ => F7
            rename News _ _ _ _ => N7
            exact R2_same (ls := ls) (ps := ps) (nm := nm) (vl := vl) (st := 0) hK hDr hDp F7 (fun q hq => N7 q (by first | exact hq | exact .tail _ hq | exact .tail _ (.tail _ hq))) rfl rfl rfl rfl rfl rfl rfl (by omega) (by omega) (by first | omega | (simp only [List.length_append, List.length_cons, List.length_nil]; omega)) (by first | omega | (simp only [List.length_append, List.length_cons, List.length_nil]; omega)) (by first | omega | (simp only [List.length_append, List.length_cons, List.length_nil]; omega))
          · refine if_no F4 N4 (tst_eq k6 rfl hkf hl_state hd_state) ?_
            intro h4 tk4 F4 N4
            refine if_no F4 N4 (tst_andF (tst_eq k6 rfl hkf hl_state hd_state)) ?_
            intro h4 tk4 F4 N4
            refine if_no F4 N4 (tst_andF (tst_eq k6 rfl hkf hl_state hd_state)) ?_
            intro h4 tk4 F4 N4
            refine if_no F4 N4 (tst_eq k6 rfl hkf hl_state hd_state) ?_
            intro h4 tk4 F4 N4
            refine if_no F4 N4 (tst_andF (tst_eq k6 rfl hkf hl_state hd_state)) ?_
            intro h4 tk4 F4 N4
            refine if_no F4 N4 (tst_andF (tst_name k9 hkf hl_white hd_white)) ?_
            intro h4 tk4 F4 N4
            refine if_no F4 N4 (tst_andF (tst_name k9 hkf hl_white hd_white)) ?_
            intro h4 tk4 F4 N4
            refine if_no F4 N4 (tst_andF (tst_in k6 rfl hkf hl_state hd_state (by with_unfolding_all rfl))) ?_
            intro h4 tk4 F4 N4
            refine if_no F4 N4 (tst_in k6 rfl hkf hl_state hd_state (by with_unfolding_all rfl)) ?_
            intro h4 tk4 F4 N4
            refine if_no F4 N4 (tst_andF (tst_in k6 rfl hkf hl_state hd_state (by with_unfolding_all rfl))) ?_
            intro h4 tk4 F4 N4
            refine if_else F4 N4 (tst_andF (tst_eq k6 rfl hkf hl_state hd_state)) ?_
            intro h4 tk4 F4 N4
            have F5 := fr1 (fr1 (fr1 (fr1 (fr1 (fr1 (fr1 (fr1 (fr1 (fr1 F4 (a := Str.ofString "ends") k10) (a := Str.ofString "white") k9) (a := Str.ofString "sign") k8) (a := Str.ofString "symbol") k7) (a := Str.ofString "state") k6) (a := Str.ofString "value") k5) (a := Str.ofString "name") k4) (a := Str.ofString "row") k3) (a := Str.ofString "pairs") k2) (a := Str.ofString "lists") k1
            clear F4
            walk_at "go"
            rename Fr _ _ _ _ => F7
            rename News _ _ _ _ => N7
            exact R2_same (ls := ls) (ps := ps) (nm := sg) (vl := vl) (st := 1) hK hDr hDp F7 (fun q hq => N7 q (by first | exact hq | exact .tail _ hq | exact .tail _ (.tail _ hq))) rfl rfl rfl rfl rfl rfl rfl (by omega) (by omega) (by first | omega | (simp only [List.length_append, List.length_cons, List.length_nil]; omega)) (by first | omega | (simp only [List.length_append, List.length_cons, List.length_nil]; omega)) (by first | omega | (simp only [List.length_append, List.length_cons, List.length_nil]; omega))
        · have h : (wh = true ∧ en = true) ∨ (wh = false ∧ b223 = true) ∨ (wh = false ∧ b223 = false ∧ en = true) ∨ (wh = false ∧ b223 = false ∧ en = false) := by cases wh <;> cases en <;> cases b223 <;> simp at hwe ⊢
          rcases h with ⟨rfl, rfl⟩ | ⟨rfl, rfl⟩ | ⟨rfl, rfl, rfl⟩ | ⟨rfl, rfl, rfl⟩
          · refine if_no F4 N4 (tst_eq k6 rfl hkf hl_state hd_state) ?_
            intro h4 tk4 F4 N4
            refine if_no F4 N4 (tst_andF (tst_eq k6 rfl hkf hl_state hd_state)) ?_
            intro h4 tk4 F4 N4
            refine if_no F4 N4 (tst_andF (tst_eq k6 rfl hkf hl_state hd_state)) ?_
            intro h4 tk4 F4 N4
            refine if_no F4 N4 (tst_eq k6 rfl hkf hl_state hd_state) ?_
            intro h4 tk4 F4 N4
            refine if_no F4 N4 (tst_andF (tst_eq k6 rfl hkf hl_state hd_state)) ?_
            intro h4 tk4 F4 N4
            refine if_yes F4 N4 (tst_andT (tst_name k9 hkf hl_white hd_white) (tst_in k6 rfl hkf hl_state hd_state (by with_unfolding_all rfl))) ?_
            intro h4 tk4 F4 N4
            have F5 := fr1 (fr1 (fr1 (fr1 (fr1 (fr1 (fr1 (fr1 (fr1 (fr1 F4 (a := Str.ofString "ends") k10) (a := Str.ofString "white") k9) (a := Str.ofString "sign") k8) (a := Str.ofString "symbol") k7) (a := Str.ofString "state") k6) (a := Str.ofString "value") k5) (a := Str.ofString "name") k4) (a := Str.ofString "row") k3) (a := Str.ofString "pairs") k2) (a := Str.ofString "lists") k1
            clear F4
            walk_at "go"
            rename Fr _ _ _ _ => F7
            rename News _ _ _ _ => N7
            exact R2_same (ls := ls) (ps := ps) (nm := nm) (vl := vl) (st := 2) hK hDr hDp F7 (fun q hq => N7 q (by first | exact hq | exact .tail _ hq | exact .tail _ (.tail _ hq))) rfl rfl rfl rfl rfl rfl rfl (by omega) (by omega) (by first | omega | (simp only [List.length_append, List.length_cons, List.length_nil]; omega)) (by first | omega | (simp only [List.length_append, List.length_cons, List.length_nil]; omega)) (by first | omega | (simp only [List.length_append, List.length_cons, List.length_nil]; omega))
          · refine if_no F4 N4 (tst_eq k6 rfl hkf hl_state hd_state) ?_
            intro h4 tk4 F4 N4
            refine if_no F4 N4 (tst_andF (tst_eq k6 rfl hkf hl_state hd_state)) ?_
            intro h4 tk4 F4 N4
            refine if_no F4 N4 (tst_andF (tst_eq k6 rfl hkf hl_state hd_state)) ?_
            intro h4 tk4 F4 N4
            refine if_no F4 N4 (tst_eq k6 rfl hkf hl_state hd_state) ?_
            intro h4 tk4 F4 N4
            refine if_no F4 N4 (tst_andF (tst_eq k6 rfl hkf hl_state hd_state)) ?_
            intro h4 tk4 F4 N4
            refine if_no F4 N4 (tst_andF (tst_name k9 hkf hl_white hd_white)) ?_
            intro h4 tk4 F4 N4
            refine if_no F4 N4 (tst_andF (tst_name k9 hkf hl_white hd_white)) ?_
            intro h4 tk4 F4 N4
            refine if_no F4 N4 (tst_andF (tst_in k6 rfl hkf hl_state hd_state (by with_unfolding_all rfl))) ?_
            intro h4 tk4 F4 N4
            refine if_no F4 N4 (tst_in k6 rfl hkf hl_state hd_state (by with_unfolding_all rfl)) ?_
            intro h4 tk4 F4 N4
            refine if_yes F4 N4 (tst_andT (tst_in k6 rfl hkf hl_state hd_state (by with_unfolding_all rfl)) (tst_eq k7 h223 hkf hl_symbol hd_symbol)) ?_
            intro h4 tk4 F4 N4
            have F5 := fr1 (fr1 (fr1 (fr1 (fr1 (fr1 (fr1 (fr1 (fr1 (fr1 F4 (a := Str.ofString "ends") k10) (a := Str.ofString "white") k9) (a := Str.ofString "sign") k8) (a := Str.ofString "symbol") k7) (a := Str.ofString "state") k6) (a := Str.ofString "value") k5) (a := Str.ofString "name") k4) (a := Str.ofString "row") k3) (a := Str.ofString "pairs") k2) (a := Str.ofString "lists") k1
            clear F4
            walk_at "go"
            rename Fr _ _ _ _ => F7
            rename News _ _ _ _ => N7
            exact R2_same (ls := ls) (ps := ps) (nm := nm) (vl := []) (st := 3) hK hDr hDp F7 (fun q hq => N7 q (by first | exact hq | exact .tail _ hq | exact .tail _ (.tail _ hq))) rfl rfl rfl rfl rfl rfl rfl (by omega) (by omega) (by first | omega | (simp only [List.length_append, List.length_cons, List.length_nil]; omega)) (by first | omega | (simp only [List.length_append, List.length_cons, List.length_nil]; omega)) (by first | omega | (simp only [List.length_append, List.length_cons, List.length_nil]; omega))
          · refine if_no F4 N4 (tst_eq k6 rfl hkf hl_state hd_state) ?_
            intro h4 tk4 F4 N4
            refine if_no F4 N4 (tst_andF (tst_eq k6 rfl hkf hl_state hd_state)) ?_
            intro h4 tk4 F4 N4
            refine if_no F4 N4 (tst_andF (tst_eq k6 rfl hkf hl_state hd_state)) ?_
            intro h4 tk4 F4 N4
            refine if_no F4 N4 (tst_eq k6 rfl hkf hl_state hd_state) ?_
            intro h4 tk4 F4 N4
            refine if_no F4 N4 (tst_andF (tst_eq k6 rfl hkf hl_state hd_state)) ?_
            intro h4 tk4 F4 N4
            refine if_no F4 N4 (tst_andF (tst_name k9 hkf hl_white hd_white)) ?_
            intro h4 tk4 F4 N4
            refine if_no F4 N4 (tst_andF (tst_name k9 hkf hl_white hd_white)) ?_
            intro h4 tk4 F4 N4
            refine if_no F4 N4 (tst_andF (tst_in k6 rfl hkf hl_state hd_state (by with_unfolding_all rfl))) ?_
            intro h4 tk4 F4 N4
            refine if_no F4 N4 (tst_in k6 rfl hkf hl_state hd_state (by with_unfolding_all rfl)) ?_
            intro h4 tk4 F4 N4
            refine if_no F4 N4 (tst_andT (tst_in k6 rfl hkf hl_state hd_state (by with_unfolding_all rfl)) (tst_eq k7 h223 hkf hl_symbol hd_symbol)) ?_
            intro h4 tk4 F4 N4
            refine if_else F4 N4 (tst_andT (tst_eq k6 rfl hkf hl_state hd_state) (tst_not (tst_name k10 hkf hl_ends hd_ends))) ?_
            intro h4 tk4 F4 N4
            have F5 := fr1 (fr1 (fr1 (fr1 (fr1 (fr1 (fr1 (fr1 (fr1 (fr1 F4 (a := Str.ofString "ends") k10) (a := Str.ofString "white") k9) (a := Str.ofString "sign") k8) (a := Str.ofString "symbol") k7) (a := Str.ofString "state") k6) (a := Str.ofString "value") k5) (a := Str.ofString "name") k4) (a := Str.ofString "row") k3) (a := Str.ofString "pairs") k2) (a := Str.ofString "lists") k1
            clear F4
            walk_at "go"
            rename Fr _ _ _ _ => F7
            rename News _ _ _ _ => N7
            rename _ ∧ _ => lt7
            refine append_any F7 N7 (by first | exact .tail _ (.head _) | exact .tail _ (.tail _ (.head _)) | exact .tail _ (.tail _ (.tail _ (.head _)))) zr ?_
            intro h8 F8 Nn
            obtain ⟨N8, hK8, Dr8, Dp8⟩ := app_step hK hDr hDp (.inr ⟨rfl, rfl⟩) hOkD Nn (.head _) (fun q hq => by first | exact .tail _ hq | exact .tail _ (.tail _ hq) | exact .tail _ (.tail _ (.tail _ hq))) (by first | exact lt7 | exact lt7.2 | exact lt7.2.2)
            clear Nn F7 N7
            walk_at "go"
            rename Fr _ _ _ _ => F7
            rename News _ _ _ _ => N7
            exact R2_same (ls := ls) (ps := ps ++ [(nm, none)]) (nm := nm) (vl := vl) (st := 0) hK8 Dr8 Dp8 F7 (fun q hq => N7 q (by first | exact hq | exact .tail _ hq | exact .tail _ (.tail _ hq))) rfl rfl rfl rfl rfl rfl rfl (by omega) (by omega) (by first | omega | (simp only [List.length_append, List.length_cons, List.length_nil]; omega)) (by first | omega | (simp only [List.length_append, List.length_cons, List.length_nil]; omega)) (by first | omega | (simp only [List.length_append, List.length_cons, List.length_nil]; omega))
          · refine if_no F4 N4 (tst_eq k6 rfl hkf hl_state hd_state) ?_
            intro h4 tk4 F4 N4
            refine if_no F4 N4 (tst_andF (tst_eq k6 rfl hkf hl_state hd_state)) ?_
            intro h4 tk4 F4 N4
            refine if_no F4 N4 (tst_andF (tst_eq k6 rfl hkf hl_state hd_state)) ?_
            intro h4 tk4 F4 N4
            refine if_no F4 N4 (tst_eq k6 rfl hkf hl_state hd_state) ?_
            intro h4 tk4 F4 N4
            refine if_no F4 N4 (tst_andF (tst_eq k6 rfl hkf hl_state hd_state)) ?_
            intro h4 tk4 F4 N4
            refine if_no F4 N4 (tst_andF (tst_name k9 hkf hl_white hd_white)) ?_
            intro h4 tk4 F4 N4
            refine if_no F4 N4 (tst_andF (tst_name k9 hkf hl_white hd_white)) ?_
            intro h4 tk4 F4 N4
            refine if_no F4 N4 (tst_andF (tst_in k6 rfl hkf hl_state hd_state (by with_unfolding_all rfl))) ?_
            intro h4 tk4 F4 N4
            refine if_no F4 N4 (tst_in k6 rfl hkf hl_state hd_state (by with_unfolding_all rfl)) ?_
            intro h4 tk4 F4 N4
            refine if_no F4 N4 (tst_andT (tst_in k6 rfl hkf hl_state hd_state (by with_unfolding_all rfl)) (tst_eq k7 h223 hkf hl_symbol hd_symbol)) ?_
            intro h4 tk4 F4 N4
            refine if_yes F4 N4 (tst_andT (tst_eq k6 rfl hkf hl_state hd_state) (tst_not (tst_name k10 hkf hl_ends hd_ends))) ?_
            intro h4 tk4 F4 N4
            have F5 := fr1 (fr1 (fr1 (fr1 (fr1 (fr1 (fr1 (fr1 (fr1 (fr1 F4 (a := Str.ofString "ends") k10) (a := Str.ofString "white") k9) (a := Str.ofString "sign") k8) (a := Str.ofString "symbol") k7) (a := Str.ofString "state") k6) (a := Str.ofString "value") k5) (a := Str.ofString "name") k4) (a := Str.ofString "row") k3) (a := Str.ofString "pairs") k2) (a := Str.ofString "lists") k1
            clear F4
            walk_at "go"
            rename Fr _ _ _ _ => F7
            rename News _ _ _ _ => N7
            exact R2_same (ls := ls) (ps := ps) (nm := nm ++ sg) (vl := vl) (st := 1) hK hDr hDp F7 (fun q hq => N7 q (by first | exact hq | exact .tail _ hq | exact .tail _ (.tail _ hq))) rfl rfl rfl rfl rfl rfl rfl (by omega) (by omega) (by first | omega | (simp only [List.length_append, List.length_cons, List.length_nil]; omega)) (by first | omega | (simp only [List.length_append, List.length_cons, List.length_nil]; omega)) (by first | omega | (simp only [List.length_append, List.length_cons, List.length_nil]; omega))
        · have h : (wh = true ∧ en = true) ∨ (wh = false ∧ b223 = true) ∨ (wh = false ∧ b223 = false ∧ en = true) ∨ (wh = false ∧ b223 = false ∧ en = false) := by cases wh <;> cases en <;> cases b223 <;> simp at hwe ⊢
          rcases h with ⟨rfl, rfl⟩ | ⟨rfl, rfl⟩ | ⟨rfl, rfl, rfl⟩ | ⟨rfl, rfl, rfl⟩
          · refine if_no F4 N4 (tst_eq k6 rfl hkf hl_state hd_state) ?_
            intro h4 tk4 F4 N4
            refine if_no F4 N4 (tst_andF (tst_eq k6 rfl hkf hl_state hd_state)) ?_
            intro h4 tk4 F4 N4
            refine if_no F4 N4 (tst_andF (tst_eq k6 rfl hkf hl_state hd_state)) ?_
            intro h4 tk4 F4 N4
            refine if_no F4 N4 (tst_eq k6 rfl hkf hl_state hd_state) ?_
            intro h4 tk4 F4 N4
            refine if_no F4 N4 (tst_andF (tst_eq k6 rfl hkf hl_state hd_state)) ?_
            intro h4 tk4 F4 N4
            refine if_yes F4 N4 (tst_andT (tst_name k9 hkf hl_white hd_white) (tst_in k6 rfl hkf hl_state hd_state (by with_unfolding_all rfl))) ?_
            intro h4 tk4 F4 N4
            have F5 := fr1 (fr1 (fr1 (fr1 (fr1 (fr1 (fr1 (fr1 (fr1 (fr1 F4 (a := Str.ofString "ends") k10) (a := Str.ofString "white") k9) (a := Str.ofString "sign") k8) (a := Str.ofString "symbol") k7) (a := Str.ofString "state") k6) (a := Str.ofString "value") k5) (a := Str.ofString "name") k4) (a := Str.ofString "row") k3) (a := Str.ofString "pairs") k2) (a := Str.ofString "lists") k1
            clear F4
            walk_at "go"
            rename Fr _ _ _ _ => F7
            rename News _ _ _ _ => N7
            exact R2_same (ls := ls) (ps := ps) (nm := nm) (vl := vl) (st := 2) hK hDr hDp F7 (fun q hq => N7 q (by first | exact hq | exact .tail _ hq | exact .tail _ (.tail _ hq))) rfl rfl rfl rfl rfl rfl rfl (by omega) (by omega) (by first | omega | (simp only [List.length_append, List.length_cons, List.length_nil]; omega)) (by first | omega | (simp only [List.length_append, List.length_cons, List.length_nil]; omega)) (by first | omega | (simp only [List.length_append, List.length_cons, List.length_nil]; omega))
          · refine if_no F4 N4 (tst_eq k6 rfl hkf hl_state hd_state) ?_
            intro h4 tk4 F4 N4
            refine if_no F4 N4 (tst_andF (tst_eq k6 rfl hkf hl_state hd_state)) ?_
            intro h4 tk4 F4 N4
            refine if_no F4 N4 (tst_andF (tst_eq k6 rfl hkf hl_state hd_state)) ?_
            intro h4 tk4 F4 N4
            refine if_no F4 N4 (tst_eq k6 rfl hkf hl_state hd_state) ?_
            intro h4 tk4 F4 N4
            refine if_no F4 N4 (tst_andF (tst_eq k6 rfl hkf hl_state hd_state)) ?_
            intro h4 tk4 F4 N4
            refine if_no F4 N4 (tst_andF (tst_name k9 hkf hl_white hd_white)) ?_
            intro h4 tk4 F4 N4
            refine if_no F4 N4 (tst_andF (tst_name k9 hkf hl_white hd_white)) ?_
            intro h4 tk4 F4 N4
            refine if_no F4 N4 (tst_andF (tst_in k6 rfl hkf hl_state hd_state (by with_unfolding_all rfl))) ?_
            intro h4 tk4 F4 N4
            refine if_no F4 N4 (tst_in k6 rfl hkf hl_state hd_state (by with_unfolding_all rfl)) ?_
            intro h4 tk4 F4 N4
            refine if_yes F4 N4 (tst_andT (tst_in k6 rfl hkf hl_state hd_state (by with_unfolding_all rfl)) (tst_eq k7 h223 hkf hl_symbol hd_symbol)) ?_
            intro h4 tk4 F4 N4
            have F5 := fr1 (fr1 (fr1 (fr1 (fr1 (fr1 (fr1 (fr1 (fr1 (fr1 F4 (a := Str.ofString "ends") k10) (a := Str.ofString "white") k9) (a := Str.ofString "sign") k8) (a := Str.ofString "symbol") k7) (a := Str.ofString "state") k6) (a := Str.ofString "value") k5) (a := Str.ofString "name") k4) (a := Str.ofString "row") k3) (a := Str.ofString "pairs") k2) (a := Str.ofString "lists") k1
            clear F4
            walk_at "go"
            rename Fr _ _ _ _ => F7
            rename News _ _ _ _ => N7
            exact R2_same (ls := ls) (ps := ps) (nm := nm) (vl := []) (st := 3) hK hDr hDp F7 (fun q hq => N7 q (by first | exact hq | exact .tail _ hq | exact .tail _ (.tail _ hq))) rfl rfl rfl rfl rfl rfl rfl (by omega) (by omega) (by first | omega | (simp only [List.length_append, List.length_cons, List.length_nil]; omega)) (by first | omega | (simp only [List.length_append, List.length_cons, List.length_nil]; omega)) (by first | omega | (simp only [List.length_append, List.length_cons, List.length_nil]; omega))
          · refine if_no F4 N4 (tst_eq k6 rfl hkf hl_state hd_state) ?_
            intro h4 tk4 F4 N4
            refine if_no F4 N4 (tst_andF (tst_eq k6 rfl hkf hl_state hd_state)) ?_
            intro h4 tk4 F4 N4
            refine if_no F4 N4 (tst_andF (tst_eq k6 rfl hkf hl_state hd_state)) ?_
            intro h4 tk4 F4 N4
            refine if_no F4 N4 (tst_eq k6 rfl hkf hl_state hd_state) ?_
            intro h4 tk4 F4 N4
            refine if_no F4 N4 (tst_andF (tst_eq k6 rfl hkf hl_state hd_state)) ?_
            intro h4 tk4 F4 N4
            refine if_no F4 N4 (tst_andF (tst_name k9 hkf hl_white hd_white)) ?_
            intro h4 tk4 F4 N4
            refine if_no F4 N4 (tst_andF (tst_name k9 hkf hl_white hd_white)) ?_
            intro h4 tk4 F4 N4
            refine if_no F4 N4 (tst_andF (tst_in k6 rfl hkf hl_state hd_state (by with_unfolding_all rfl))) ?_
            intro h4 tk4 F4 N4
            refine if_no F4 N4 (tst_in k6 rfl hkf hl_state hd_state (by with_unfolding_all rfl)) ?_
            intro h4 tk4 F4 N4
            refine if_no F4 N4 (tst_andT (tst_in k6 rfl hkf hl_state hd_state (by with_unfolding_all rfl)) (tst_eq k7 h223 hkf hl_symbol hd_symbol)) ?_
            intro h4 tk4 F4 N4
            refine if_else F4 N4 (tst_andF (tst_eq k6 rfl hkf hl_state hd_state)) ?_
            intro h4 tk4 F4 N4
            have F5 := fr1 (fr1 (fr1 (fr1 (fr1 (fr1 (fr1 (fr1 (fr1 (fr1 F4 (a := Str.ofString "ends") k10) (a := Str.ofString "white") k9) (a := Str.ofString "sign") k8) (a := Str.ofString "symbol") k7) (a := Str.ofString "state") k6) (a := Str.ofString "value") k5) (a := Str.ofString "name") k4) (a := Str.ofString "row") k3) (a := Str.ofString "pairs") k2) (a := Str.ofString "lists") k1
            clear F4
            walk_at "go"
            rename Fr _ _ _ _ => F7
            rename News _ _ _ _ => N7
            rename _ ∧ _ => lt7
            refine append_any F7 N7 (by first | exact .tail _ (.head _) | exact .tail _ (.tail _ (.head _)) | exact .tail _ (.tail _ (.tail _ (.head _)))) zr ?_
            intro h8 F8 Nn
            obtain ⟨N8, hK8, Dr8, Dp8⟩ := app_step hK hDr hDp (.inr ⟨rfl, rfl⟩) hOkD Nn (.head _) (fun q hq => by first | exact .tail _ hq | exact .tail _ (.tail _ hq) | exact .tail _ (.tail _ (.tail _ hq))) (by first | exact lt7 | exact lt7.2 | exact lt7.2.2)
            clear Nn F7 N7
            walk_at "go"
            rename Fr _ _ _ _ => F7
            rename News _ _ _ _ => N7
            exact R2_same (ls := ls) (ps := ps ++ [(nm, none)]) (nm := nm) (vl := vl) (st := 0) hK8 Dr8 Dp8 F7 (fun q hq => N7 q (by first | exact hq | exact .tail _ hq | exact .tail _ (.tail _ hq))) rfl rfl rfl rfl rfl rfl rfl (by omega) (by omega) (by first | omega | (simp only [List.length_append, List.length_cons, List.length_nil]; omega)) (by first | omega | (simp only [List.length_append, List.length_cons, List.length_nil]; omega)) (by first | omega | (simp only [List.length_append, List.length_cons, List.length_nil]; omega))
          · refine if_no F4 N4 (tst_eq k6 rfl hkf hl_state hd_state) ?_
            intro h4 tk4 F4 N4
            refine if_no F4 N4 (tst_andF (tst_eq k6 rfl hkf hl_state hd_state)) ?_
            intro h4 tk4 F4 N4
            refine if_no F4 N4 (tst_andF (tst_eq k6 rfl hkf hl_state hd_state)) ?_
            intro h4 tk4 F4 N4
            refine if_no F4 N4 (tst_eq k6 rfl hkf hl_state hd_state) ?_
            intro h4 tk4 F4 N4
            refine if_no F4 N4 (tst_andF (tst_eq k6 rfl hkf hl_state hd_state)) ?_
            intro h4 tk4 F4 N4
            refine if_no F4 N4 (tst_andF (tst_name k9 hkf hl_white hd_white)) ?_
            intro h4 tk4 F4 N4
            refine if_no F4 N4 (tst_andF (tst_name k9 hkf hl_white hd_white)) ?_
            intro h4 tk4 F4 N4
            refine if_no F4 N4 (tst_andF (tst_in k6 rfl hkf hl_state hd_state (by with_unfolding_all rfl))) ?_
            intro h4 tk4 F4 N4
            refine if_no F4 N4 (tst_in k6 rfl hkf hl_state hd_state (by with_unfolding_all rfl)) ?_
            intro h4 tk4 F4 N4
            refine if_no F4 N4 (tst_andT (tst_in k6 rfl hkf hl_state hd_state (by with_unfolding_all rfl)) (tst_eq k7 h223 hkf hl_symbol hd_symbol)) ?_
            intro h4 tk4 F4 N4
            refine if_else F4 N4 (tst_andF (tst_eq k6 rfl hkf hl_state hd_state)) ?_
            intro h4 tk4 F4 N4
            have F5 := fr1 (fr1 (fr1 (fr1 (fr1 (fr1 (fr1 (fr1 (fr1 (fr1 F4 (a := Str.ofString "ends") k10) (a := Str.ofString "white") k9) (a := Str.ofString "sign") k8) (a := Str.ofString "symbol") k7) (a := Str.ofString "state") k6) (a := Str.ofString "value") k5) (a := Str.ofString "name") k4) (a := Str.ofString "row") k3) (a := Str.ofString "pairs") k2) (a := Str.ofString "lists") k1
            clear F4
            walk_at "go"
            rename Fr _ _ _ _ => F7
            rename News _ _ _ _ => N7
            rename _ ∧ _ => lt7
            refine append_any F7 N7 (by first | exact .tail _ (.head _) | exact .tail _ (.tail _ (.head _)) | exact .tail _ (.tail _ (.tail _ (.head _)))) zr ?_
            intro h8 F8 Nn
            obtain ⟨N8, hK8, Dr8, Dp8⟩ := app_step hK hDr hDp (.inr ⟨rfl, rfl⟩) hOkD Nn (.head _) (fun q hq => by first | exact .tail _ hq | exact .tail _ (.tail _ hq) | exact .tail _ (.tail _ (.tail _ hq))) (by first | exact lt7 | exact lt7.2 | exact lt7.2.2)
            clear Nn F7 N7
            walk_at "go"
            rename Fr _ _ _ _ => F7
            rename News _ _ _ _ => N7
            exact R2_same (ls := ls) (ps := ps ++ [(nm, none)]) (nm := sg) (vl := vl) (st := 1) hK8 Dr8 Dp8 F7 (fun q hq => N7 q (by first | exact hq | exact .tail _ hq | exact .tail _ (.tail _ hq))) rfl rfl rfl rfl rfl rfl rfl (by omega) (by omega) (by first | omega | (simp only [List.length_append, List.length_cons, List.length_nil]; omega)) (by first | omega | (simp only [List.length_append, List.length_cons, List.length_nil]; omega)) (by first | omega | (simp only [List.length_append, List.length_cons, List.length_nil]; omega))
        · have h : (b34 = true) ∨ (b34 = false ∧ wh = true ∧ en = true) ∨ (b34 = false ∧ wh = false ∧ en = true) ∨ (b34 = false ∧ wh = false ∧ en = false) := by cases wh <;> cases en <;> cases b34 <;> simp at hwe ⊢
          rcases h with rfl | ⟨rfl, rfl, rfl⟩ | ⟨rfl, rfl, rfl⟩ | ⟨rfl, rfl, rfl⟩
          · refine if_no F4 N4 (tst_eq k6 rfl hkf hl_state hd_state) ?_
            intro h4 tk4 F4 N4
            refine if_no F4 N4 (tst_andF (tst_eq k6 rfl hkf hl_state hd_state)) ?_
            intro h4 tk4 F4 N4
            refine if_no F4 N4 (tst_andF (tst_eq k6 rfl hkf hl_state hd_state)) ?_
            intro h4 tk4 F4 N4
            refine if_no F4 N4 (tst_eq k6 rfl hkf hl_state hd_state) ?_
            intro h4 tk4 F4 N4
            refine if_yes F4 N4 (tst_andT (tst_eq k6 rfl hkf hl_state hd_state) (tst_str k8 h34 hkf hl_sign hd_sign)) ?_
            intro h4 tk4 F4 N4
            have F5 := fr1 (fr1 (fr1 (fr1 (fr1 (fr1 (fr1 (fr1 (fr1 (fr1 F4 (a := Str.ofString "ends") k10) (a := Str.ofString "white") k9) (a := Str.ofString "sign") k8) (a := Str.ofString "symbol") k7) (a := Str.ofString "state") k6) (a := Str.ofString "value") k5) (a := Str.ofString "name") k4) (a := Str.ofString "row") k3) (a := Str.ofString "pairs") k2) (a := Str.ofString "lists") k1
            clear F4
            walk_at "go"
            rename Fr _ _ _ _ => F7
            rename News _ _ _ _ => N7
            exact R2_same (ls := ls) (ps := ps) (nm := nm) (vl := vl) (st := 5) hK hDr hDp F7 (fun q hq => N7 q (by first | exact hq | exact .tail _ hq | exact .tail _ (.tail _ hq))) rfl rfl rfl rfl rfl rfl rfl (by omega) (by omega) (by first | omega | (simp only [List.length_append, List.length_cons, List.length_nil]; omega)) (by first | omega | (simp only [List.length_append, List.length_cons, List.length_nil]; omega)) (by first | omega | (simp only [List.length_append, List.length_cons, List.length_nil]; omega))
          · refine if_no F4 N4 (tst_eq k6 rfl hkf hl_state hd_state) ?_
            intro h4 tk4 F4 N4
            refine if_no F4 N4 (tst_andF (tst_eq k6 rfl hkf hl_state hd_state)) ?_
            intro h4 tk4 F4 N4
            refine if_no F4 N4 (tst_andF (tst_eq k6 rfl hkf hl_state hd_state)) ?_
            intro h4 tk4 F4 N4
            refine if_no F4 N4 (tst_eq k6 rfl hkf hl_state hd_state) ?_
            intro h4 tk4 F4 N4
            refine if_no F4 N4 (tst_andT (tst_eq k6 rfl hkf hl_state hd_state) (tst_str k8 h34 hkf hl_sign hd_sign)) ?_
            intro h4 tk4 F4 N4
            refine if_no F4 N4 (tst_andT (tst_name k9 hkf hl_white hd_white) (tst_in k6 rfl hkf hl_state hd_state (by with_unfolding_all rfl))) ?_
            intro h4 tk4 F4 N4
            refine if_yes F4 N4 (tst_andT (tst_name k9 hkf hl_white hd_white) (tst_eq k6 rfl hkf hl_state hd_state)) ?_
            intro h4 tk4 F4 N4
            have F5 := fr1 (fr1 (fr1 (fr1 (fr1 (fr1 (fr1 (fr1 (fr1 (fr1 F4 (a := Str.ofString "ends") k10) (a := Str.ofString "white") k9) (a := Str.ofString "sign") k8) (a := Str.ofString "symbol") k7) (a := Str.ofString "state") k6) (a := Str.ofString "value") k5) (a := Str.ofString "name") k4) (a := Str.ofString "row") k3) (a := Str.ofString "pairs") k2) (a := Str.ofString "lists") k1
            clear F4
            walk_at "go"
            rename Fr _ _ _ _ => F7
            rename News _ _ _ _ => N7
            exact R2_same (ls := ls) (ps := ps) (nm := nm) (vl := vl) (st := 3) hK hDr hDp F7 (fun q hq => N7 q (by first | exact hq | exact .tail _ hq | exact .tail _ (.tail _ hq))) rfl rfl rfl rfl rfl rfl rfl (by omega) (by omega) (by first | omega | (simp only [List.length_append, List.length_cons, List.length_nil]; omega)) (by first | omega | (simp only [List.length_append, List.length_cons, List.length_nil]; omega)) (by first | omega | (simp only [List.length_append, List.length_cons, List.length_nil]; omega))
          · refine if_no F4 N4 (tst_eq k6 rfl hkf hl_state hd_state) ?_
            intro h4 tk4 F4 N4
            refine if_no F4 N4 (tst_andF (tst_eq k6 rfl hkf hl_state hd_state)) ?_
            intro h4 tk4 F4 N4
            refine if_no F4 N4 (tst_andF (tst_eq k6 rfl hkf hl_state hd_state)) ?_
            intro h4 tk4 F4 N4
            refine if_no F4 N4 (tst_eq k6 rfl hkf hl_state hd_state) ?_
            intro h4 tk4 F4 N4
            refine if_no F4 N4 (tst_andT (tst_eq k6 rfl hkf hl_state hd_state) (tst_str k8 h34 hkf hl_sign hd_sign)) ?_
            intro h4 tk4 F4 N4
            refine if_no F4 N4 (tst_andF (tst_name k9 hkf hl_white hd_white)) ?_
            intro h4 tk4 F4 N4
            refine if_no F4 N4 (tst_andF (tst_name k9 hkf hl_white hd_white)) ?_
            intro h4 tk4 F4 N4
            refine if_no F4 N4 (tst_andT (tst_in k6 rfl hkf hl_state hd_state (by with_unfolding_all rfl)) (tst_not (tst_name k10 hkf hl_ends hd_ends))) ?_
            intro h4 tk4 F4 N4
            refine if_yes F4 N4 (tst_in k6 rfl hkf hl_state hd_state (by with_unfolding_all rfl)) ?_
            intro h4 tk4 F4 N4
            have F5 := fr1 (fr1 (fr1 (fr1 (fr1 (fr1 (fr1 (fr1 (fr1 (fr1 F4 (a := Str.ofString "ends") k10) (a := Str.ofString "white") k9) (a := Str.ofString "sign") k8) (a := Str.ofString "symbol") k7) (a := Str.ofString "state") k6) (a := Str.ofString "value") k5) (a := Str.ofString "name") k4) (a := Str.ofString "row") k3) (a := Str.ofString "pairs") k2) (a := Str.ofString "lists") k1
            clear F4
            walk_at "go"
            rename Fr _ _ _ _ => F7
            rename News _ _ _ _ => N7
            rename _ ∧ _ => lt7
            refine append_any F7 N7 (by first | exact .tail _ (.head _) | exact .tail _ (.tail _ (.head _)) | exact .tail _ (.tail _ (.tail _ (.head _)))) zr ?_
            intro h8 F8 Nn
            obtain ⟨N8, hK8, Dr8, Dp8⟩ := app_step hK hDr hDp (.inl ⟨_, _, rfl, rfl⟩) hOkD Nn (.head _) (fun q hq => by first | exact .tail _ hq | exact .tail _ (.tail _ hq) | exact .tail _ (.tail _ (.tail _ hq))) (by first | exact lt7 | exact lt7.2 | exact lt7.2.2)
            clear Nn F7 N7
            walk_at "go"
            rename Fr _ _ _ _ => F7
            rename News _ _ _ _ => N7
            exact R2_same (ls := ls) (ps := ps ++ [(nm, some vl)]) (nm := nm) (vl := vl) (st := 0) hK8 Dr8 Dp8 F7 (fun q hq => N7 q (by first | exact hq | exact .tail _ hq | exact .tail _ (.tail _ hq))) rfl rfl rfl rfl rfl rfl rfl (by omega) (by omega) (by first | omega | (simp only [List.length_append, List.length_cons, List.length_nil]; omega)) (by first | omega | (simp only [List.length_append, List.length_cons, List.length_nil]; omega)) (by first | omega | (simp only [List.length_append, List.length_cons, List.length_nil]; omega))
          · refine if_no F4 N4 (tst_eq k6 rfl hkf hl_state hd_state) ?_
            intro h4 tk4 F4 N4
            refine if_no F4 N4 (tst_andF (tst_eq k6 rfl hkf hl_state hd_state)) ?_
            intro h4 tk4 F4 N4
            refine if_no F4 N4 (tst_andF (tst_eq k6 rfl hkf hl_state hd_state)) ?_
            intro h4 tk4 F4 N4
            refine if_no F4 N4 (tst_eq k6 rfl hkf hl_state hd_state) ?_
            intro h4 tk4 F4 N4
            refine if_no F4 N4 (tst_andT (tst_eq k6 rfl hkf hl_state hd_state) (tst_str k8 h34 hkf hl_sign hd_sign)) ?_
            intro h4 tk4 F4 N4
            refine if_no F4 N4 (tst_andF (tst_name k9 hkf hl_white hd_white)) ?_
            intro h4 tk4 F4 N4
            refine if_no F4 N4 (tst_andF (tst_name k9 hkf hl_white hd_white)) ?_
            intro h4 tk4 F4 N4
            refine if_yes F4 N4 (tst_andT (tst_in k6 rfl hkf hl_state hd_state (by with_unfolding_all rfl)) (tst_not (tst_name k10 hkf hl_ends hd_ends))) ?_
            intro h4 tk4 F4 N4
            have F5 := fr1 (fr1 (fr1 (fr1 (fr1 (fr1 (fr1 (fr1 (fr1 (fr1 F4 (a := Str.ofString "ends") k10) (a := Str.ofString "white") k9) (a := Str.ofString "sign") k8) (a := Str.ofString "symbol") k7) (a := Str.ofString "state") k6) (a := Str.ofString "value") k5) (a := Str.ofString "name") k4) (a := Str.ofString "row") k3) (a := Str.ofString "pairs") k2) (a := Str.ofString "lists") k1
            clear F4
            walk_at "go"
            rename Fr _ _ _ _ => F7
            rename News _ _ _ _ => N7
            exact R2_same (ls := ls) (ps := ps) (nm := nm) (vl := vl ++ sg) (st := 4) hK hDr hDp F7 (fun q hq => N7 q (by first | exact hq | exact .tail _ hq | exact .tail _ (.tail _ hq))) rfl rfl rfl rfl rfl rfl rfl (by omega) (by omega) (by first | omega | (simp only [List.length_append, List.length_cons, List.length_nil]; omega)) (by first | omega | (simp only [List.length_append, List.length_cons, List.length_nil]; omega)) (by first | omega | (simp only [List.length_append, List.length_cons, List.length_nil]; omega))
        · have h : (wh = true ∧ en = true) ∨ (wh = false ∧ en = true) ∨ (wh = false ∧ en = false) := by cases wh <;> cases en <;> simp at hwe ⊢
          rcases h with ⟨rfl, rfl⟩ | ⟨rfl, rfl⟩ | ⟨rfl, rfl⟩
          · refine if_no F4 N4 (tst_eq k6 rfl hkf hl_state hd_state) ?_
            intro h4 tk4 F4 N4
            refine if_no F4 N4 (tst_andF (tst_eq k6 rfl hkf hl_state hd_state)) ?_
            intro h4 tk4 F4 N4
            refine if_no F4 N4 (tst_andF (tst_eq k6 rfl hkf hl_state hd_state)) ?_
            intro h4 tk4 F4 N4
            refine if_no F4 N4 (tst_eq k6 rfl hkf hl_state hd_state) ?_
            intro h4 tk4 F4 N4
            refine if_no F4 N4 (tst_andF (tst_eq k6 rfl hkf hl_state hd_state)) ?_
            intro h4 tk4 F4 N4
            refine if_no F4 N4 (tst_andT (tst_name k9 hkf hl_white hd_white) (tst_in k6 rfl hkf hl_state hd_state (by with_unfolding_all rfl))) ?_
            intro h4 tk4 F4 N4
            refine if_no F4 N4 (tst_andT (tst_name k9 hkf hl_white hd_white) (tst_eq k6 rfl hkf hl_state hd_state)) ?_
            intro h4 tk4 F4 N4
            refine if_no F4 N4 (tst_andT (tst_in k6 rfl hkf hl_state hd_state (by with_unfolding_all rfl)) (tst_not (tst_name k10 hkf hl_ends hd_ends))) ?_
            intro h4 tk4 F4 N4
            refine if_yes F4 N4 (tst_in k6 rfl hkf hl_state hd_state (by with_unfolding_all rfl)) ?_
            intro h4 tk4 F4 N4
            have F5 := fr1 (fr1 (fr1 (fr1 (fr1 (fr1 (fr1 (fr1 (fr1 (fr1 F4 (a := Str.ofString "ends") k10) (a := Str.ofString "white") k9) (a := Str.ofString "sign") k8) (a := Str.ofString "symbol") k7) (a := Str.ofString "state") k6) (a := Str.ofString "value") k5) (a := Str.ofString "name") k4) (a := Str.ofString "row") k3) (a := Str.ofString "pairs") k2) (a := Str.ofString "lists") k1
            clear F4
            walk_at "go"
            rename Fr _ _ _ _ => F7
            rename News _ _ _ _ => N7
            rename _ ∧ _ => lt7
            refine append_any F7 N7 (by first | exact .tail _ (.head _) | exact .tail _ (.tail _ (.head _)) | exact .tail _ (.tail _ (.tail _ (.head _)))) zr ?_
            intro h8 F8 Nn
            obtain ⟨N8, hK8, Dr8, Dp8⟩ := app_step hK hDr hDp (.inl ⟨_, _, rfl, rfl⟩) hOkD Nn (.head _) (fun q hq => by first | exact .tail _ hq | exact .tail _ (.tail _ hq) | exact .tail _ (.tail _ (.tail _ hq))) (by first | exact lt7 | exact lt7.2 | exact lt7.2.2)
            clear Nn F7 N7
            walk_at "go"
            rename Fr _ _ _ _ => F7
            rename News _ _ _ _ => N7
            exact R2_same (ls := ls) (ps := ps ++ [(nm, some vl)]) (nm := nm) (vl := vl) (st := 0) hK8 Dr8 Dp8 F7 (fun q hq => N7 q (by first | exact hq | exact .tail _ hq | exact .tail _ (.tail _ hq))) rfl rfl rfl rfl rfl rfl rfl (by omega) (by omega) (by first | omega | (simp only [List.length_append, List.length_cons, List.length_nil]; omega)) (by first | omega | (simp only [List.length_append, List.length_cons, List.length_nil]; omega)) (by first | omega | (simp only [List.length_append, List.length_cons, List.length_nil]; omega))
          · refine if_no F4 N4 (tst_eq k6 rfl hkf hl_state hd_state) ?_
            intro h4 tk4 F4 N4
            refine if_no F4 N4 (tst_andF (tst_eq k6 rfl hkf hl_state hd_state)) ?_
            intro h4 tk4 F4 N4
            refine if_no F4 N4 (tst_andF (tst_eq k6 rfl hkf hl_state hd_state)) ?_
            intro h4 tk4 F4 N4
            refine if_no F4 N4 (tst_eq k6 rfl hkf hl_state hd_state) ?_
            intro h4 tk4 F4 N4
            refine if_no F4 N4 (tst_andF (tst_eq k6 rfl hkf hl_state hd_state)) ?_
            intro h4 tk4 F4 N4
            refine if_no F4 N4 (tst_andF (tst_name k9 hkf hl_white hd_white)) ?_
            intro h4 tk4 F4 N4
            refine if_no F4 N4 (tst_andF (tst_name k9 hkf hl_white hd_white)) ?_
            intro h4 tk4 F4 N4
            refine if_no F4 N4 (tst_andT (tst_in k6 rfl hkf hl_state hd_state (by with_unfolding_all rfl)) (tst_not (tst_name k10 hkf hl_ends hd_ends))) ?_
            intro h4 tk4 F4 N4
            refine if_yes F4 N4 (tst_in k6 rfl hkf hl_state hd_state (by with_unfolding_all rfl)) ?_
            intro h4 tk4 F4 N4
            have F5 := fr1 (fr1 (fr1 (fr1 (fr1 (fr1 (fr1 (fr1 (fr1 (fr1 F4 (a := Str.ofString "ends") k10) (a := Str.ofString "white") k9) (a := Str.ofString "sign") k8) (a := Str.ofString "symbol") k7) (a := Str.ofString "state") k6) (a := Str.ofString "value") k5) (a := Str.ofString "name") k4) (a := Str.ofString "row") k3) (a := Str.ofString "pairs") k2) (a := Str.ofString "lists") k1
            clear F4
            walk_at "go"
            rename Fr _ _ _ _ => F7
            rename News _ _ _ _ => N7
            rename _ ∧ _ => lt7
            refine append_any F7 N7 (by first | exact .tail _ (.head _) | exact .tail _ (.tail _ (.head _)) | exact .tail _ (.tail _ (.tail _ (.head _)))) zr ?_
            intro h8 F8 Nn
            obtain ⟨N8, hK8, Dr8, Dp8⟩ := app_step hK hDr hDp (.inl ⟨_, _, rfl, rfl⟩) hOkD Nn (.head _) (fun q hq => by first | exact .tail _ hq | exact .tail _ (.tail _ hq) | exact .tail _ (.tail _ (.tail _ hq))) (by first | exact lt7 | exact lt7.2 | exact lt7.2.2)
            clear Nn F7 N7
            walk_at "go"
            rename Fr _ _ _ _ => F7
            rename News _ _ _ _ => N7
            exact R2_same (ls := ls) (ps := ps ++ [(nm, some vl)]) (nm := nm) (vl := vl) (st := 0) hK8 Dr8 Dp8 F7 (fun q hq => N7 q (by first | exact hq | exact .tail _ hq | exact .tail _ (.tail _ hq))) rfl rfl rfl rfl rfl rfl rfl (by omega) (by omega) (by first | omega | (simp only [List.length_append, List.length_cons, List.length_nil]; omega)) (by first | omega | (simp only [List.length_append, List.length_cons, List.length_nil]; omega)) (by first | omega | (simp only [List.length_append, List.length_cons, List.length_nil]; omega))
          · refine if_no F4 N4 (tst_eq k6 rfl hkf hl_state hd_state) ?_
            intro h4 tk4 F4 N4
            refine if_no F4 N4 (tst_andF (tst_eq k6 rfl hkf hl_state hd_state)) ?_
            intro h4 tk4 F4 N4
            refine if_no F4 N4 (tst_andF (tst_eq k6 rfl hkf hl_state hd_state)) ?_
            intro h4 tk4 F4 N4
            refine if_no F4 N4 (tst_eq k6 rfl hkf hl_state hd_state) ?_
            intro h4 tk4 F4 N4
            refine if_no F4 N4 (tst_andF (tst_eq k6 rfl hkf hl_state hd_state)) ?_
            intro h4 tk4 F4 N4
            refine if_no F4 N4 (tst_andF (tst_name k9 hkf hl_white hd_white)) ?_
            intro h4 tk4 F4 N4
            refine if_no F4 N4 (tst_andF (tst_name k9 hkf hl_white hd_white)) ?_
            intro h4 tk4 F4 N4
            refine if_yes F4 N4 (tst_andT (tst_in k6 rfl hkf hl_state hd_state (by with_unfolding_all rfl)) (tst_not (tst_name k10 hkf hl_ends hd_ends))) ?_
            intro h4 tk4 F4 N4
            have F5 := fr1 (fr1 (fr1 (fr1 (fr1 (fr1 (fr1 (fr1 (fr1 (fr1 F4 (a := Str.ofString "ends") k10) (a := Str.ofString "white") k9) (a := Str.ofString "sign") k8) (a := Str.ofString "symbol") k7) (a := Str.ofString "state") k6) (a := Str.ofString "value") k5) (a := Str.ofString "name") k4) (a := Str.ofString "row") k3) (a := Str.ofString "pairs") k2) (a := Str.ofString "lists") k1
            clear F4
            walk_at "go"
            rename Fr _ _ _ _ => F7
            rename News _ _ _ _ => N7
            exact R2_same (ls := ls) (ps := ps) (nm := nm) (vl := vl ++ sg) (st := 4) hK hDr hDp F7 (fun q hq => N7 q (by first | exact hq | exact .tail _ hq | exact .tail _ (.tail _ hq))) rfl rfl rfl rfl rfl rfl rfl (by omega) (by omega) (by first | omega | (simp only [List.length_append, List.length_cons, List.length_nil]; omega)) (by first | omega | (simp only [List.length_append, List.length_cons, List.length_nil]; omega)) (by first | omega | (simp only [List.length_append, List.length_cons, List.length_nil]; omega))
        · have h : (b92 = true) ∨ (b92 = false ∧ b34 = true) ∨ (b92 = false ∧ b34 = false) := by cases b92 <;> cases b34 <;> simp
          rcases h with rfl | ⟨rfl, rfl⟩ | ⟨rfl, rfl⟩
          · refine if_no F4 N4 (tst_eq k6 rfl hkf hl_state hd_state) ?_
            intro h4 tk4 F4 N4
            refine if_yes F4 N4 (tst_andT (tst_eq k6 rfl hkf hl_state hd_state) (tst_str k8 h92 hkf hl_sign hd_sign)) ?_
            intro h4 tk4 F4 N4
            have F5 := fr1 (fr1 (fr1 (fr1 (fr1 (fr1 (fr1 (fr1 (fr1 (fr1 F4 (a := Str.ofString "ends") k10) (a := Str.ofString "white") k9) (a := Str.ofString "sign") k8) (a := Str.ofString "symbol") k7) (a := Str.ofString "state") k6) (a := Str.ofString "value") k5) (a := Str.ofString "name") k4) (a := Str.ofString "row") k3) (a := Str.ofString "pairs") k2) (a := Str.ofString "lists") k1
            clear F4
            walk_at "go"
            rename Fr _ _ _ _ => F7
            rename News _ _ _ _ => N7
            exact R2_same (ls := ls) (ps := ps) (nm := nm) (vl := vl) (st := 6) hK hDr hDp F7 (fun q hq => N7 q (by first | exact hq | exact .tail _ hq | exact .tail _ (.tail _ hq))) rfl rfl rfl rfl rfl rfl rfl (by omega) (by omega) (by first | omega | (simp only [List.length_append, List.length_cons, List.length_nil]; omega)) (by first | omega | (simp only [List.length_append, List.length_cons, List.length_nil]; omega)) (by first | omega | (simp only [List.length_append, List.length_cons, List.length_nil]; omega))
          · refine if_no F4 N4 (tst_eq k6 rfl hkf hl_state hd_state) ?_
            intro h4 tk4 F4 N4
            refine if_no F4 N4 (tst_andT (tst_eq k6 rfl hkf hl_state hd_state) (tst_str k8 h92 hkf hl_sign hd_sign)) ?_
            intro h4 tk4 F4 N4
            refine if_yes F4 N4 (tst_andT (tst_eq k6 rfl hkf hl_state hd_state) (tst_str k8 h34 hkf hl_sign hd_sign)) ?_
            intro h4 tk4 F4 N4
            have F5 := fr1 (fr1 (fr1 (fr1 (fr1 (fr1 (fr1 (fr1 (fr1 (fr1 F4 (a := Str.ofString "ends") k10) (a := Str.ofString "white") k9) (a := Str.ofString "sign") k8) (a := Str.ofString "symbol") k7) (a := Str.ofString "state") k6) (a := Str.ofString "value") k5) (a := Str.ofString "name") k4) (a := Str.ofString "row") k3) (a := Str.ofString "pairs") k2) (a := Str.ofString "lists") k1
            clear F4
            walk_at "go"
            rename Fr _ _ _ _ => F7
            rename News _ _ _ _ => N7
            rename _ ∧ _ => lt7
            refine append_any F7 N7 (by first | exact .tail _ (.head _) | exact .tail _ (.tail _ (.head _)) | exact .tail _ (.tail _ (.tail _ (.head _)))) zr ?_
            intro h8 F8 Nn
            obtain ⟨N8, hK8, Dr8, Dp8⟩ := app_step hK hDr hDp (.inl ⟨_, _, rfl, rfl⟩) hOkD Nn (.head _) (fun q hq => by first | exact .tail _ hq | exact .tail _ (.tail _ hq) | exact .tail _ (.tail _ (.tail _ hq))) (by first | exact lt7 | exact lt7.2 | exact lt7.2.2)
            clear Nn F7 N7
            walk_at "go"
            rename Fr _ _ _ _ => F7
            rename News _ _ _ _ => N7
            exact R2_same (ls := ls) (ps := ps ++ [(nm, some vl)]) (nm := nm) (vl := vl) (st := 0) hK8 Dr8 Dp8 F7 (fun q hq => N7 q (by first | exact hq | exact .tail _ hq | exact .tail _ (.tail _ hq))) rfl rfl rfl rfl rfl rfl rfl (by omega) (by omega) (by first | omega | (simp only [List.length_append, List.length_cons, List.length_nil]; omega)) (by first | omega | (simp only [List.length_append, List.length_cons, List.length_nil]; omega)) (by first | omega | (simp only [List.length_append, List.length_cons, List.length_nil]; omega))
          · refine if_no F4 N4 (tst_eq k6 rfl hkf hl_state hd_state) ?_
            intro h4 tk4 F4 N4
            refine if_no F4 N4 (tst_andT (tst_eq k6 rfl hkf hl_state hd_state) (tst_str k8 h92 hkf hl_sign hd_sign)) ?_
            intro h4 tk4 F4 N4
            refine if_no F4 N4 (tst_andT (tst_eq k6 rfl hkf hl_state hd_state) (tst_str k8 h34 hkf hl_sign hd_sign)) ?_
            intro h4 tk4 F4 N4
            refine if_yes F4 N4 (tst_eq k6 rfl hkf hl_state hd_state) ?_
            intro h4 tk4 F4 N4
            have F5 := fr1 (fr1 (fr1 (fr1 (fr1 (fr1 (fr1 (fr1 (fr1 (fr1 F4 (a := Str.ofString "ends") k10) (a := Str.ofString "white") k9) (a := Str.ofString "sign") k8) (a := Str.ofString "symbol") k7) (a := Str.ofString "state") k6) (a := Str.ofString "value") k5) (a := Str.ofString "name") k4) (a := Str.ofString "row") k3) (a := Str.ofString "pairs") k2) (a := Str.ofString "lists") k1
            clear F4
            walk_at "go"
            rename Fr _ _ _ _ => F7
            rename News _ _ _ _ => N7
            exact R2_same (ls := ls) (ps := ps) (nm := nm) (vl := vl ++ sg) (st := 5) hK hDr hDp F7 (fun q hq => N7 q (by first | exact hq | exact .tail _ hq | exact .tail _ (.tail _ hq))) rfl rfl rfl rfl rfl rfl rfl (by omega) (by omega) (by first | omega | (simp only [List.length_append, List.length_cons, List.length_nil]; omega)) (by first | omega | (simp only [List.length_append, List.length_cons, List.length_nil]; omega)) (by first | omega | (simp only [List.length_append, List.length_cons, List.length_nil]; omega))
        · refine if_yes F4 N4 (tst_eq k6 rfl hkf hl_state hd_state) ?_
          intro h4 tk4 F4 N4
          have F5 := fr1 (fr1 (fr1 (fr1 (fr1 (fr1 (fr1 (fr1 (fr1 (fr1 F4 (a := Str.ofString "ends") k10) (a := Str.ofString "white") k9) (a := Str.ofString "sign") k8) (a := Str.ofString "symbol") k7) (a := Str.ofString "state") k6) (a := Str.ofString "value") k5) (a := Str.ofString "name") k4) (a := Str.ofString "row") k3) (a := Str.ofString "pairs") k2) (a := Str.ofString "lists") k1
          clear F4
          walk_at "go"
          rename Fr _ _ _ _ => F7
          rename News _ _ _ _ => N7
          exact R2_same (ls := ls) (ps := ps) (nm := nm) (vl := vl ++ sg) (st := 5) hK hDr hDp F7 (fun q hq => N7 q (by first | exact hq | exact .tail _ hq | exact .tail _ (.tail _ hq))) rfl rfl rfl rfl rfl rfl rfl (by omega) (by omega) (by first | omega | (simp only [List.length_append, List.length_cons, List.length_nil]; omega)) (by first | omega | (simp only [List.length_append, List.length_cons, List.length_nil]; omega)) (by first | omega | (simp only [List.length_append, List.length_cons, List.length_nil]; omega))
      case last =>
        intro f s' hR
        have hls : (midB ⟨ls, ps, nm, vl, st⟩ sg wh en b34 b92 b223).ls.length ≤ i := by rw [midB_ls]; exact hsz1
        clear F4 N4 k1 k2 k3 k4 k5 k6 k7 k8 k9 k10 hK hOkD hDr hDp hrp hT1 hT2 howA hrsA hbase hst hsz1 hsz2 hsz3 hsz4 mls mps mrw mnm mvl mst hoff hrwm
        cases hR with
        | mk F4 N4 hJ k7 =>
        generalize midB ⟨ls, ps, nm, vl, st⟩ sg wh en b34 b92 b223 = ms' at *
        cases hJ with
        | mk k1 k2 k3 k4 k5 k6 hst hsz1 hsz2 hsz3 hsz4 hDr hDp hrp hO1 hO2 howA hrsA hbase =>
        rename_i r p nr np vr vp rest t1 t2 t3
        obtain ⟨ls', ps', nm', vl', st'⟩ := ms'
        dsimp only at *
        refine wpAny_execs_cons ?_
        refine env_know2 ?_ rfl rfl rfl rfl
        intro hkf hl_state hl_symbol hl_pairs
        have hoffN : ∀ q ∈ (p, listOf vp.toArray np) :: (r, listOf vr.toArray nr) :: ([(65, tabObj tab)] ++ rest), q.1 ≠ I := by
          intro q hq
          rcases List.mem_cons.mp hq with rfl | hq
          · exact hO2.1
          rcases List.mem_cons.mp hq with rfl | hq
          · exact hO1.1
          rcases List.mem_append.mp hq with hq | hq
          · rw [List.mem_singleton.mp hq]; exact h65I
          · exact (hrsA q hq).2.2.1
        by_cases hs0 : st' = 0
        · subst hs0
          cases b0 with
          | false =>
            refine if_else F4 N4 (tst_andC (tst_eq k6 rfl hkf hl_state hd_state) (tst_andF (tst_in k7 hi2 hkf hl_symbol hd_symbol (by with_unfolding_all rfl)))) ?_
            intro h9 tk9 F9 N9
            refine wpAny_execs_nil ?_
            refine wpAny_execs_nil ?_
            refine ⟨h9, tk9, _, (p, listOf vp.toArray np) :: (r, listOf vr.toArray nr) :: ([(65, tabObj tab)] ++ rest), rfl, F9, fun q hq => N9 q (led2 hq), hoffN, ?_⟩
            show RJ [(65, tabObj tab)] (fun x => x ≠ 65) rw news (i + 1) (run (i + 1)) _ _
            rw [hnext, finB, if_neg (by simp)]
            exact RJ.mk k1 k2 k3 k4 k5 k6 hst hsz1 hsz2 hsz3 hsz4 hDr hDp hrp hO1.2 hO2.2 (fun q hq => howA q (List.mem_append_right _ hq)) (fun q hq => ⟨(hrsA q hq).1, (hrsA q hq).2.1, (hrsA q hq).2.2.2⟩) hbase
          | true =>
            by_cases hps : ps' = []
            · subst hps
              refine if_else F4 N4 (tst_andC (tst_eq k6 rfl hkf hl_state hd_state) (tst_andC (tst_in k7 hi2 hkf hl_symbol hd_symbol (by with_unfolding_all rfl)) (tst_andF (tst_nel k2 (.head _) hDp (fun q hq => .tail _ (.tail _ (List.mem_append_right _ hq))) (by simp) (by dsimp only [ktrTop, Around.deeper]; omega) (by simp) hkf hl_pairs hd_pairs)))) ?_
              intro h9 tk9 F9 N9
              refine wpAny_execs_nil ?_
              refine wpAny_execs_nil ?_
              refine ⟨h9, tk9, _, (p, listOf vp.toArray np) :: (r, listOf vr.toArray nr) :: ([(65, tabObj tab)] ++ rest), rfl, F9, fun q hq => N9 q (led2 hq), hoffN, ?_⟩
              show RJ [(65, tabObj tab)] (fun x => x ≠ 65) rw news (i + 1) (run (i + 1)) _ _
              rw [hnext, finB, if_neg (by simp)]
              exact RJ.mk k1 k2 k3 k4 k5 k6 hst hsz1 hsz2 hsz3 hsz4 hDr hDp hrp hO1.2 hO2.2 (fun q hq => howA q (List.mem_append_right _ hq)) (fun q hq => ⟨(hrsA q hq).1, (hrsA q hq).2.1, (hrsA q hq).2.2.2⟩) hbase
            · refine if_yes F4 N4 (tst_andC (tst_eq k6 rfl hkf hl_state hd_state) (tst_andT (tst_in k7 hi2 hkf hl_symbol hd_symbol (by with_unfolding_all rfl)) (tst_nel k2 (.head _) hDp (fun q hq => .tail _ (.tail _ (List.mem_append_right _ hq))) (fun d hd => by obtain ⟨q, hq, rfl⟩ := List.mem_map.mp hd; exact hOk q hq) (by dsimp only [ktrTop, Around.deeper]; omega) (by simpa using hps) hkf hl_pairs hd_pairs))) ?_
              intro h4 tk4 F4 N4
              have F5 := fr1 (fr1 (fr1 (fr1 (fr1 (fr1 F4 (a := Str.ofString "state") k6) (a := Str.ofString "value") k5) (a := Str.ofString "name") k4) (a := Str.ofString "row") k3) (a := Str.ofString "pairs") k2) (a := Str.ofString "lists") k1
              clear F4
              have zr : vr.length ≤ 1000 := by have := hDr.length; simp only [List.length_map] at this; omega
              walk_at "go"
              refine append_any F5 N4 (.tail _ (.head _)) zr ?_
              intro h8 F8 Nn
              have N8 := Nn ((own ++ [(65, tabObj tab)]) ++ ((p, listOf vp.toArray np) :: rest)) (fun q hq => by
                rcases List.mem_append.mp hq with hq | hq
                · exact ⟨.tail _ (.tail _ (List.mem_append_left _ hq)), (howA q hq).1⟩
                rcases List.mem_cons.mp hq with rfl | hq
                · exact ⟨.head _, Ne.symm hrp⟩
                · exact ⟨.tail _ (.tail _ (List.mem_append_right _ hq)), (hrsA q hq).1⟩)
              clear Nn N4 F5
              walk_at "go"
              rename Fr _ _ _ _ => F9
              rename News _ _ _ _ => N9
              rename _ ∧ _ => lt9
              obtain ⟨lt1', lt2'⟩ := lt9
              refine ⟨_, _, _, (_, listOf [].toArray 0) :: (r, listOf (vr ++ [Value.ref p]).toArray (nr + 1)) :: ([(65, tabObj tab)] ++ ((p, listOf vp.toArray np) :: rest)), rfl, F9, fun q hq => N9 q (led2 hq), ?_, ?_⟩
              · intro q hq
                rcases List.mem_cons.mp hq with rfl | hq
                · exact Nat.ne_of_gt (allLt_mem lt2' _ (List.mem_append_left _ (List.mem_append_left _ hIm)))
                rcases List.mem_cons.mp hq with rfl | hq
                · exact hO1.1
                rcases List.mem_append.mp hq with hq | hq
                · rw [List.mem_singleton.mp hq]; exact h65I
                rcases List.mem_cons.mp hq with rfl | hq
                · exact hO2.1
                · exact (hrsA q hq).2.2.1
              · show RJ [(65, tabObj tab)] (fun x => x ≠ 65) rw news (i + 1) (run (i + 1)) _ _
                rw [hnext, finB, if_pos (by simp [hps])]
                refine RJ.mk (vr := vr ++ [Value.ref p]) (vp := []) (rest := (p, listOf vp.toArray np) :: rest) rfl rfl rfl rfl rfl rfl hst (by simp only [List.length_append, List.length_cons, List.length_nil]; omega) (by simp) hsz3 hsz4 ?_ .nil (Nat.ne_of_lt lt1') hO1.2 ?_ ?_ ?_ fun q hq => .tail _ (hbase q hq)
                · rw [List.map_append]
                  exact DatAll.append (hDr.mono fun q hq => .tail _ hq) (.one (.list (.head _) (hDp.mono fun q hq => .tail _ hq)))
                · exact Nat.ne_of_gt (allLt_mem lt2' (65, tabObj tab) (List.mem_append_left _ (List.mem_append_right _ (.head _))))
                · intro q hq
                  exact ⟨(howA q (List.mem_append_right _ hq)).1, Nat.ne_of_lt (allLt_mem lt2' q (List.mem_append_left _ (List.mem_append_right _ hq)))⟩
                · intro q hq
                  rcases List.mem_cons.mp hq with rfl | hq
                  · exact ⟨Ne.symm hrp, Nat.ne_of_lt (allLt_mem lt2' _ (List.mem_append_right _ (.head _))), hO2.2⟩
                  · exact ⟨(hrsA q hq).1, Nat.ne_of_lt (allLt_mem lt2' q (List.mem_append_right _ (.tail _ hq))), (hrsA q hq).2.2.2⟩
        · have hs1 : (((st' : Nat) : Int) == 0) = false := by simpa using hs0
          refine if_else F4 N4 (tst_andF (tst_eq k6 hs1 hkf hl_state hd_state)) ?_
          intro h9 tk9 F9 N9
          refine wpAny_execs_nil ?_
          refine wpAny_execs_nil ?_
          refine ⟨h9, tk9, _, (p, listOf vp.toArray np) :: (r, listOf vr.toArray nr) :: ([(65, tabObj tab)] ++ rest), rfl, F9, fun q hq => N9 q (led2 hq), hoffN, ?_⟩
          show RJ [(65, tabObj tab)] (fun x => x ≠ 65) rw news (i + 1) (run (i + 1)) _ _
          rw [hnext, finB, if_neg (by simp [hs0])]
          exact RJ.mk k1 k2 k3 k4 k5 k6 hst hsz1 hsz2 hsz3 hsz4 hDr hDp hrp hO1.2 hO2.2 (fun q hq => howA q (List.mem_append_right _ hq)) (fun q hq => ⟨(hrsA q hq).1, (hrsA q hq).2.1, (hrsA q hq).2.2.2⟩) hbase
end

end Mine
namespace Mine
/-! the machine over signs, and split_header_words' loop -/
def stp (ms : MS) (c : Nat) : MS := finB (midB ms [c] (c == 32 || c == 9) (c == 32 || c == 9 || (c == 44 || c == 59)) (c == 34) (c == 92) (c == 61)) (c == 44)
def fin (ms : MS) : MS := finB (midB ms [] false true false false false) true
def go (ms : MS) (l : List Nat) : MS := l.foldl stp ms
theorem go_nil (ms : MS) : go ms [] = ms := rfl
theorem go_cons (ms : MS) (c : Nat) (l : List Nat) : go ms (c :: l) = go (stp ms c) l := rfl
theorem go_app (ms : MS) (a b : List Nat) : go ms (a ++ b) = go (go ms a) b := List.foldl_append
/-- what holds of a text's signs -/
structure Sg (c : Nat) : Prop where
  sp : isSp c = (c == 32 || c == 9)
  nm : isNm c = !(c == 32 || c == 9 || (c == 44 || c == 59) || c == 61)
  vl : isVl c = !(c == 32 || c == 9 || (c == 44 || c == 59))
  jk : isJk c = (c == 32 || c == 9 || c == 59 || c == 61)
  lf : c ≠ 10
  lt : c < 128
theorem sg_alpha : ∀ c ∈ alpha, Sg c := by
  have h : ∀ c ∈ alpha, isSp c = (c == 32 || c == 9) ∧ isNm c = !(c == 32 || c == 9 || (c == 44 || c == 59) || c == 61) ∧ isVl c = !(c == 32 || c == 9 || (c == 44 || c == 59)) ∧ isJk c = (c == 32 || c == 9 || c == 59 || c == 61) ∧ c ≠ 10 ∧ c < 128 := by decide
  intro c hc
  obtain ⟨a, b, c, d, e, f⟩ := h c hc
  exact ⟨a, b, c, d, e, f⟩
/-- the list's head, if it has one, isn't of this kind -/
def HN (f : Nat → Bool) (l : List Nat) : Prop := ∀ c r, l = c :: r → f c = false
theorem HN.nil {f : Nat → Bool} : HN f [] := fun _ _ e => by cases e
theorem HN.cons {f : Nat → Bool} {c : Nat} {r : List Nat} (h : f c = false) : HN f (c :: r) := fun _ _ e => by cases e; exact h
theorem cut_run (f : Nat → Bool) : ∀ l : List Nat, ∃ a b, l = a ++ b ∧ (∀ c ∈ a, f c = true) ∧ HN f b := by
  intro l
  induction l with
  | nil => exact ⟨[], [], rfl, fun _ h => (List.not_mem_nil h).elim, .nil⟩
  | cons c l ih =>
    cases hc : f c with
    | false => exact ⟨[], c :: l, rfl, fun _ h => (List.not_mem_nil h).elim, .cons hc⟩
    | true =>
      obtain ⟨a, b, rfl, h1, h2⟩ := ih
      refine ⟨c :: a, b, rfl, fun d hd => ?_, h2⟩
      rcases List.mem_cons.mp hd with rfl | hd
      · exact hc
      · exact h1 d hd
theorem tw_len {f : Nat → Bool} : ∀ {b r : List Nat}, (∀ c ∈ b, f c = true) → HN f r → ((b ++ r).takeWhile f).length = b.length
  | [], [], _, _ => rfl
  | [], c :: r, _, h => by simp [List.takeWhile, h c r rfl]
  | c :: b, r, hb, h => by
    have := tw_len (b := b) (r := r) (fun d hd => hb d (.tail _ hd)) h
    rw [List.cons_append, List.takeWhile_cons_of_pos (hb c (.head _)), List.length_cons, this, List.length_cons]
theorem run_at {f : Nat → Bool} {a b r l : List Nat} {p : Nat} (hl : l = a ++ (b ++ r)) (hp : p = a.length) (hb : ∀ c ∈ b, f c = true) (hr : HN f r) : runLen f l p = b.length := by
  subst hl hp
  unfold runLen
  rw [List.drop_left]
  exact tw_len hb hr
theorem getD_at {a r l : List Nat} {c p : Nat} (hl : l = a ++ c :: r) (hp : p = a.length) : l.toArray.getD p 0 = c := by
  subst hl hp
  simp [Array.getD]
theorem spLen_at {a r l : List Nat} (hl : l = a ++ r) (ha : ∀ c ∈ a, isSp c = true) (hr : HN isSp r) : spLen l = a.length := run_at (a := []) (b := a) (r := r) hl rfl ha hr
theorem nm_not_sp2 {c : Nat} (h : isNm c = true) : isSp c = false := by
  unfold isNm at h
  cases e : Unicode.isSpace c
  · exact e
  · rw [e] at h; simp at h
theorem qb_sp {c : Nat} : c = 34 → isSp c = false := fun h => by subst h; decide
/-- a text that opens with a name -/
structure Nm (l a b r : List Nat) : Prop where
  e : l = a ++ (b ++ r)
  ha : ∀ c ∈ a, isSp c = true
  hb : ∀ c ∈ b, isNm c = true
  hb0 : b ≠ []
  hr : HN isNm r
theorem Nm.sp {l a b r : List Nat} (h : Nm l a b r) : spLen l = a.length := by
  refine spLen_at h.e h.ha ?_
  obtain ⟨c, b', e⟩ := List.exists_cons_of_ne_nil h.hb0
  rw [e]
  exact .cons (nm_not_sp2 (h.hb c (by rw [e]; exact .head _)))
theorem Nm.len {l a b r : List Nat} (h : Nm l a b r) : nmLen l = b.length := by
  show runLen isNm l (spLen l) = _
  exact run_at h.e h.sp h.hb h.hr
theorem Nm.pos {l a b r : List Nat} (h : Nm l a b r) : 0 < nmLen l := by rw [h.len]; exact List.length_pos_iff.mpr h.hb0
theorem Nm.nm {l a b r : List Nat} (h : Nm l a b r) : nmOf l = b := by
  show (l.drop (spLen l)).take (spLen l + nmLen l - spLen l) = b
  rw [h.len, h.sp, h.e, List.drop_left, Nat.add_sub_cancel_left, List.take_left]
theorem Nm.rest {l a b r : List Nat} (h : Nm l a b r) : restOf l = r := by
  show l.drop (spLen l + nmLen l) = r
  rw [h.len, h.sp, h.e, ← List.append_assoc, ← List.length_append, List.drop_left]
section
variable {l a b r s1 s2 v q : List Nat} {ps ps' : List Pr} {rs rs' : List (List Pr)}
theorem loop_none (h : Nm l a b r) (hs : r = s1 ++ q) (h1 : ∀ c ∈ s1, isSp c = true) (hq : HN isSp q) (hq' : HN (· == 61) q) (k : Loop r (ps ++ [(b, none)]) rs ps' rs') : Loop l ps rs ps' rs' := by
  refine .none h.pos ?_ (by rw [h.rest, h.nm]; exact k)
  rw [h.rest]
  rintro ⟨h2, h3⟩
  rw [spLen_at hs h1 hq] at h2 h3
  cases q with
  | nil => rw [hs, List.append_nil] at h2; exact Nat.lt_irrefl _ h2
  | cons c q =>
    rw [getD_at hs rfl] at h3
    subst h3
    exact absurd (hq' 61 q rfl) (by decide)
theorem eq_sp (hs : r = s1 ++ 61 :: q) (h1 : ∀ c ∈ s1, isSp c = true) : spLen r = s1.length ∧ eqAt r := by
  have e := spLen_at hs h1 (.cons (by decide))
  refine ⟨e, ?_, ?_⟩
  · rw [e, hs, List.length_append, List.length_cons]; omega
  · rw [e]; exact getD_at hs rfl
theorem sp2_at {q' : List Nat} (hs : r = s1 ++ 61 :: q) (h1 : ∀ c ∈ s1, isSp c = true) (hq : q = s2 ++ q') (h2 : ∀ c ∈ s2, isSp c = true) (h3 : HN isSp q') : sp2 r = s2.length := by
  unfold sp2
  rw [(eq_sp hs h1).1]
  exact run_at (a := s1 ++ [61]) (b := s2) (r := q') (by rw [hs, hq]; simp) (by simp) h2 h3
theorem loop_val (h : Nm l a b r) (hs : r = s1 ++ 61 :: (s2 ++ (v ++ q))) (h1 : ∀ c ∈ s1, isSp c = true) (h2 : ∀ c ∈ s2, isSp c = true) (h3 : HN isSp (v ++ q)) (hv : ∀ c ∈ v, isVl c = true) (hq : HN isVl q)
    (h34 : HN (· == 34) (v ++ q) ∨ r = [61, 34]) (k : Loop q (ps ++ [(b, some v)]) rs ps' rs') : Loop l ps rs ps' rs' := by
  have e1 := eq_sp hs h1
  have e2 := sp2_at hs h1 rfl h2 h3
  have ea : vlAt r = (s1 ++ 61 :: s2).length := by show spLen r + 1 + sp2 r = _; rw [e1.1, e2]; simp; omega
  have hs' : r = (s1 ++ 61 :: s2) ++ (v ++ q) := by rw [hs]; simp
  have er : runLen isVl r (vlAt r) = v.length := run_at hs' ea hv hq
  have ee : vlEnd r = (s1 ++ 61 :: s2 ++ v).length := by show vlAt r + runLen isVl r (vlAt r) = _; rw [er, ea]; simp <;> omega
  refine .val h.pos (by rw [h.rest]; exact e1.2) ?_ ?_
  · rw [h.rest]
    rcases h34 with h34 | h34
    · refine .inl ?_
      rintro ⟨h5, h6⟩
      rw [show spLen r + 1 + sp2 r = (s1 ++ 61 :: s2).length from ea] at h5 h6
      cases hvq : v ++ q with
      | nil => rw [hs', hvq, List.append_nil] at h5; exact Nat.lt_irrefl _ h5
      | cons c t =>
        rw [hvq] at hs' h34
        rw [getD_at hs' rfl] at h6
        subst h6
        exact absurd (h34 34 t rfl) (by decide)
    · exact .inr h34
  · rw [h.rest, h.nm, ee, ea]
    have e3 : r.drop (s1 ++ 61 :: s2 ++ v).length = q := by rw [hs', ← List.append_assoc, List.drop_left]
    have e4 : (r.drop (s1 ++ 61 :: s2).length).take ((s1 ++ 61 :: s2 ++ v).length - (s1 ++ 61 :: s2).length) = v := by
      rw [hs', List.drop_left, List.length_append (as := s1 ++ 61 :: s2), Nat.add_sub_cancel_left, List.take_left]
    rw [e3, e4]; exact k
/-- a quotation's inside -/
inductive Bd : List Nat → List Nat → Prop
  | nil : Bd [] []
  | chr {c : Nat} {b v : List Nat} : c ≠ 34 → c ≠ 92 → Bd b v → Bd (c :: b) (c :: v)
  | esc {c : Nat} {b v : List Nat} : c ≠ 10 → Bd b v → Bd (92 :: c :: b) (c :: v)
theorem run_zero {f : Nat → Bool} {c : Nat} {p : Nat} (hl : l = a ++ c :: r) (hp : p = a.length) (hc : f c = false) : runLen f l p = 0 := run_at (b := []) hl hp (fun _ h => (List.not_mem_nil h).elim) (.cons hc)
theorem run_succ {f : Nat → Bool} {c : Nat} {p : Nat} (hl : l = a ++ c :: r) (hp : p = a.length) (hc : f c = true) : runLen f l p = 1 + runLen f l (p + 1) := by
  subst hl hp
  unfold runLen
  rw [List.drop_left, show a.length + 1 = (a ++ [c]).length by simp, show a ++ c :: r = (a ++ [c]) ++ r by simp, List.drop_left, List.takeWhile_cons_of_pos hc, List.length_cons, Nat.add_comm]
theorem Bd.body {body v : List Nat} (h : Bd body v) : ∀ {a q l : List Nat}, l = a ++ (body ++ 34 :: q) → Body l (a.length + runLen isQb l a.length) (a.length + body.length) := by
  induction h with
  | nil =>
    intro a q l hl
    rw [run_zero hl rfl (by decide)]
    exact .stop (by rw [hl]; simp) (getD_at hl rfl)
  | @chr c b v h1 h2 h3 ih =>
    intro a q l hl
    have := ih (a := a ++ [c]) (q := q) (l := l) (by rw [hl]; simp)
    rw [run_succ hl rfl (by simp [isQb, h1, h2])]
    rw [List.length_append] at this
    have e1 : a.length + (1 + runLen isQb l (a.length + 1)) = a.length + [c].length + runLen isQb l (a.length + [c].length) := by simp; omega
    have e2 : a.length + (c :: b).length = a.length + [c].length + b.length := by simp; omega
    rw [e1, e2]; exact this
  | @esc c b v h1 h3 ih =>
    intro a q l hl
    have := ih (a := a ++ [92, c]) (q := q) (l := l) (by rw [hl]; simp)
    rw [run_zero hl rfl (by decide)]
    rw [List.length_append] at this
    have e2 : a.length + (92 :: c :: b).length = a.length + [92, c].length + b.length := by simp; omega
    rw [e2]
    refine .esc ?_ (getD_at hl rfl) ?_ this
    · rw [hl]; simp
    · rw [getD_at (a := a ++ [92]) (c := c) (r := b ++ 34 :: q) (by rw [hl]; simp) (by simp)]; exact h1
theorem Bd.escs {body v : List Nat} (h : Bd body v) : ∀ {a pl l : List Nat}, l = a ++ (pl ++ body) → (∀ c ∈ pl, c ≠ 92) → Esc l a.length (pl ++ v) := by
  have plain : ∀ {a pl r l : List Nat} {i : Nat}, l = a ++ (pl ++ r) → (∀ c ∈ pl, c ≠ 92) → a.length ≤ i → i < a.length + pl.length → l.toArray.getD i 0 ≠ 92 := by
    intro a pl r l i hl hp h1 h2
    have : l.toArray.getD i 0 = pl.getD (i - a.length) 0 := by
      subst hl
      simp only [List.getElem?_toArray, Array.getD_eq_getD_getElem?, List.getD_eq_getElem?_getD]
      rw [List.getElem?_append_right h1, List.getElem?_append_left (by omega)]
    rw [this, List.getD_eq_getElem?_getD, List.getElem?_eq_getElem (by omega)]
    exact hp _ (List.getElem_mem _)
  induction h with
  | nil =>
    intro a pl l hl hp
    have e : pl ++ [] = l.drop a.length := by rw [hl, List.drop_left]
    rw [e]
    exact .stop (by rw [hl]; simp) fun i h1 h2 => plain hl hp h1 (by rw [hl] at h2; simpa using h2)
  | @chr c b v h1 h2 h3 ih =>
    intro a pl l hl hp
    have := ih (a := a) (pl := pl ++ [c]) (l := l) (by rw [hl]; simp) (fun d hd => by
      rcases List.mem_append.mp hd with hd | hd
      · exact hp d hd
      · rw [List.mem_singleton.mp hd]; exact h2)
    rw [show pl ++ c :: v = pl ++ [c] ++ v by simp]; exact this
  | @esc c b v h1 h3 ih =>
    intro a pl l hl hp
    have := ih (a := a ++ pl ++ [92, c]) (pl := []) (l := l) (by rw [hl]; simp) (fun _ hd => (List.not_mem_nil hd).elim)
    have e : pl ++ c :: v = (l.drop a.length).take (a.length + pl.length - a.length) ++ (l.drop (a.length + pl.length + 1)).take 1 ++ v := by
      have e1 : (l.drop a.length).take (a.length + pl.length - a.length) = pl := by rw [hl, List.drop_left, Nat.add_sub_cancel_left, List.take_left]
      have e2 : l.drop (a.length + pl.length + 1) = c :: b := by
        rw [show a.length + pl.length + 1 = (a ++ pl ++ [92]).length by simp <;> omega, show l = (a ++ pl ++ [92]) ++ (c :: b) by rw [hl]; simp, List.drop_left]
      rw [e1, e2]; simp
    rw [e]
    refine .esc (by omega) ?_ (fun i h4 h5 => plain hl hp h4 h5) (getD_at (a := a ++ pl) (c := 92) (r := c :: b) (by rw [hl]; simp) (by simp)) ?_ ?_
    · rw [hl]; simp; omega
    · rw [getD_at (a := a ++ pl ++ [92]) (c := c) (r := b) (by rw [hl]; simp) (by simp <;> omega)]; exact h1
    · rw [show (a ++ pl ++ [92, c]).length = a.length + pl.length + 2 by simp <;> omega] at this; exact this
theorem loop_quo {body : List Nat} (h : Nm l a b r) (hs : r = s1 ++ 61 :: (s2 ++ 34 :: (body ++ 34 :: q))) (h1 : ∀ c ∈ s1, isSp c = true) (h2 : ∀ c ∈ s2, isSp c = true) (hb : Bd body v) (k : Loop q (ps ++ [(b, some v)]) rs ps' rs') : Loop l ps rs ps' rs' := by
  have e1 := eq_sp hs h1
  have e2 := sp2_at hs h1 rfl h2 (.cons (by decide))
  have ea : vlAt r = (s1 ++ 61 :: s2).length := by show spLen r + 1 + sp2 r = _; rw [e1.1, e2]; simp; omega
  have hs' : r = (s1 ++ 61 :: s2) ++ 34 :: (body ++ 34 :: q) := by rw [hs]; simp
  have hs2 : r = (s1 ++ 61 :: s2 ++ [34]) ++ (body ++ 34 :: q) := by rw [hs]; simp
  have eb : qbAt r = (s1 ++ 61 :: s2 ++ [34]).length := by show vlAt r + 1 = _; rw [ea]; simp <;> omega
  have bd := hb.body hs2
  rw [← eb] at bd
  have qa : qAt r := by
    refine ⟨?_, ?_⟩
    · show vlAt r < _; rw [ea, hs']; simp
    · show r.toArray.getD (vlAt r) 0 = 34; rw [ea]; exact getD_at hs' rfl
  have es : ((r.drop (qbAt r)).take (qbAt r + body.length - qbAt r)) = body := by rw [eb, hs2, List.drop_left, Nat.add_sub_cancel_left, List.take_left]
  refine .quo (e := qbAt r + body.length) (v := v) h.pos (by rw [h.rest]; exact e1.2) (by rw [h.rest]; exact qa) (by rw [h.rest]; exact bd) ?_ ?_
  · rw [h.rest, es]; exact hb.escs (a := []) (pl := []) rfl (fun _ hd => (List.not_mem_nil hd).elim)
  · rw [h.rest, h.nm]
    have : r.drop (qbAt r + body.length + 1) = q := by
      have e9 : qbAt r + body.length + 1 = (s1 ++ 61 :: s2 ++ [34] ++ body ++ [34]).length := by rw [eb]; simp <;> omega
      rw [e9, show r = (s1 ++ 61 :: s2 ++ [34] ++ body ++ [34]) ++ q by rw [hs]; simp, List.drop_left]
    rw [this]; exact k
theorem nm_zero (hl : l = a ++ r) (ha : ∀ c ∈ a, isSp c = true) (hr : HN isSp r) (hr2 : HN isNm r) : nmLen l = 0 := by
  show runLen isNm l (spLen l) = _
  exact run_at (b := []) hl (spLen_at hl ha hr) (fun _ h => (List.not_mem_nil h).elim) hr2
theorem loop_comma (hl : l = a ++ 44 :: q) (ha : ∀ c ∈ a, isSp c = true) (k : Loop q [] (if ps = [] then rs else rs ++ [ps]) ps' rs') : Loop l ps rs ps' rs' := by
  have e := spLen_at hl ha (.cons (by decide))
  refine .comma (nm_zero hl ha (.cons (by decide)) (.cons (by decide))) ⟨?_, ?_⟩ ?_
  · rw [e, hl]; simp
  · rw [e]; exact getD_at hl rfl
  · rw [e, hl, show a.length + 1 = (a ++ [44]).length by simp, show a ++ 44 :: q = (a ++ [44]) ++ q by simp, List.drop_left]; exact k
theorem loop_junk {j : List Nat} (hl : l = a ++ r) (ha : ∀ c ∈ a, isSp c = true) (hr : HN isSp r) (hr2 : HN isNm r) (hr3 : HN (· == 44) r) (hj : l = j ++ q) (hj0 : j ≠ []) (hjk : ∀ c ∈ j, isJk c = true) (hq : HN isJk q) (k : Loop q ps rs ps' rs') : Loop l ps rs ps' rs' := by
  have e : jkLen l = j.length := run_at (a := []) hj rfl hjk hq
  refine .junk (nm_zero hl ha hr hr2) ?_ ?_ (by rw [e]; exact List.length_pos_iff.mpr hj0) (by rw [e, hj, List.drop_left]; exact k)
  · rw [hj]; simp [hj0]
  · rintro ⟨h1, h2⟩
    rw [spLen_at hl ha hr] at h1 h2
    cases r with
    | nil => rw [hl, List.append_nil] at h1; exact Nat.lt_irrefl _ h1
    | cons c r =>
      rw [getD_at hl rfl] at h2
      subst h2
      exact absurd (hr3 44 r rfl) (by decide)
end
section
variable {ls : List (List Pr)} {ps : List Pr} {nm vl : List Nat} {k c : Nat}
theorem stp0_jk (h : isJk c = true) (g : Sg c) : stp ⟨ls, ps, nm, vl, 0⟩ c = ⟨ls, ps, nm, vl, 0⟩ := by
  rw [g.jk] at h
  have h44 : c ≠ 44 := by rintro rfl; exact absurd h (by decide)
  simp only [Bool.or_eq_true, beq_iff_eq] at h
  rcases h with ((rfl | rfl) | rfl) | rfl <;> simp [stp, midB, finB]
theorem stp0_sp (h : isSp c = true) (g : Sg c) : stp ⟨ls, ps, nm, vl, 0⟩ c = ⟨ls, ps, nm, vl, 0⟩ := by
  rw [g.sp] at h
  simp only [Bool.or_eq_true, beq_iff_eq] at h
  rcases h with rfl | rfl <;> simp [stp, midB, finB]
theorem stp0_comma : stp ⟨ls, ps, nm, vl, 0⟩ 44 = ⟨if ps = [] then ls else ls ++ [ps], [], nm, vl, 0⟩ := by
  by_cases h : ps = [] <;> simp [stp, midB, finB, h]
theorem nm_cases (h : isNm c = true) (g : Sg c) : c ≠ 32 ∧ c ≠ 9 ∧ c ≠ 44 ∧ c ≠ 59 ∧ c ≠ 61 := by
  rw [g.nm] at h
  simp only [Bool.not_eq_true', Bool.or_eq_false_iff, beq_eq_false_iff_ne] at h
  exact ⟨h.1.1.1, h.1.1.2, h.1.2.1, h.1.2.2, h.2⟩
theorem vl_cases (h : isVl c = true) (g : Sg c) : c ≠ 32 ∧ c ≠ 9 ∧ c ≠ 44 ∧ c ≠ 59 := by
  rw [g.vl] at h
  simp only [Bool.not_eq_true', Bool.or_eq_false_iff, beq_eq_false_iff_ne] at h
  exact ⟨h.1.1, h.1.2, h.2.1, h.2.2⟩
theorem novl_cases (h : isVl c = false) (g : Sg c) : c = 32 ∨ c = 9 ∨ c = 44 ∨ c = 59 := by
  rw [g.vl] at h
  simp only [Bool.not_eq_false', Bool.or_eq_true, beq_iff_eq] at h
  rcases h with (h | h) | h | h <;> simp [h]
theorem sp_cases (h : isSp c = true) (g : Sg c) : c = 32 ∨ c = 9 := by
  rw [g.sp] at h
  simpa only [Bool.or_eq_true, beq_iff_eq] using h
theorem nosp_cases (h : isSp c = false) (g : Sg c) : c ≠ 32 ∧ c ≠ 9 := by
  rw [g.sp] at h
  simpa only [Bool.or_eq_false_iff, beq_eq_false_iff_ne] using h
theorem stp0_nm (h : isNm c = true) (g : Sg c) : stp ⟨ls, ps, nm, vl, 0⟩ c = ⟨ls, ps, [c], vl, 1⟩ := by
  obtain ⟨h1, h2, h3, h4, h5⟩ := nm_cases h g
  simp [stp, midB, finB, h1, h2, h3, h4, h5]
theorem stp1_nm (h : isNm c = true) (g : Sg c) : stp ⟨ls, ps, nm, vl, 1⟩ c = ⟨ls, ps, nm ++ [c], vl, 1⟩ := by
  obtain ⟨h1, h2, h3, h4, h5⟩ := nm_cases h g
  simp [stp, midB, finB, h1, h2, h3, h4, h5]
theorem stp12_sp (hk : k = 1 ∨ k = 2) (h : isSp c = true) (g : Sg c) : stp ⟨ls, ps, nm, vl, k⟩ c = ⟨ls, ps, nm, vl, 2⟩ := by
  rcases sp_cases h g with rfl | rfl <;> rcases hk with rfl | rfl <;> simp [stp, midB, finB]
theorem stp12_eq (hk : k = 1 ∨ k = 2) : stp ⟨ls, ps, nm, vl, k⟩ 61 = ⟨ls, ps, nm, [], 3⟩ := by
  rcases hk with rfl | rfl <;> simp [stp, midB, finB]
theorem stp12_else (hk : k = 1 ∧ isNm c = false ∨ k = 2) (h : isSp c = false) (h' : c ≠ 61) (g : Sg c) : stp ⟨ls, ps, nm, vl, k⟩ c = stp ⟨ls, ps ++ [(nm, none)], nm, vl, 0⟩ c := by
  obtain ⟨h1, h2⟩ := nosp_cases h g
  rcases hk with ⟨rfl, hk⟩ | rfl
  · rw [g.nm] at hk
    have h3 : c = 44 ∨ c = 59 := by
      simp only [Bool.not_eq_false', Bool.or_eq_true, beq_iff_eq, h1, h2, h', false_or, or_false] at hk
      exact hk
    rcases h3 with rfl | rfl <;> simp [stp, midB, finB]
  · by_cases h3 : c = 44 <;> by_cases h4 : c = 59 <;> simp [stp, midB, finB, h1, h2, h', h3, h4]
theorem fin12 (hk : k = 1 ∨ k = 2) : fin ⟨ls, ps, nm, vl, k⟩ = fin ⟨ls, ps ++ [(nm, none)], nm, vl, 0⟩ := by
  rcases hk with rfl | rfl <;> simp [fin, midB, finB]
theorem fin34 (hk : k = 3 ∨ k = 4) : fin ⟨ls, ps, nm, vl, k⟩ = fin ⟨ls, ps ++ [(nm, some vl)], nm, vl, 0⟩ := by
  rcases hk with rfl | rfl <;> simp [fin, midB, finB]
theorem stp3_sp (h : isSp c = true) (g : Sg c) : stp ⟨ls, ps, nm, vl, 3⟩ c = ⟨ls, ps, nm, vl, 3⟩ := by
  rcases sp_cases h g with rfl | rfl <;> simp [stp, midB, finB]
theorem stp3_q : stp ⟨ls, ps, nm, vl, 3⟩ 34 = ⟨ls, ps, nm, vl, 5⟩ := by simp [stp, midB, finB]
theorem stp34_vl (hk : k = 3 ∧ c ≠ 34 ∨ k = 4) (h : isVl c = true) (g : Sg c) : stp ⟨ls, ps, nm, vl, k⟩ c = ⟨ls, ps, nm, vl ++ [c], 4⟩ := by
  obtain ⟨h1, h2, h3, h4⟩ := vl_cases h g
  rcases hk with ⟨rfl, hk⟩ | rfl
  · simp [stp, midB, finB, h1, h2, h3, h4, hk]
  · simp [stp, midB, finB, h1, h2, h3, h4]
theorem stp34_else (hk : k = 3 ∧ isSp c = false ∨ k = 4) (h : isVl c = false) (g : Sg c) : stp ⟨ls, ps, nm, vl, k⟩ c = stp ⟨ls, ps ++ [(nm, some vl)], nm, vl, 0⟩ c := by
  rcases hk with ⟨rfl, hk⟩ | rfl
  · obtain ⟨h1, h2⟩ := nosp_cases hk g
    rcases novl_cases h g with rfl | rfl | rfl | rfl <;> first | (exact absurd rfl h1) | (exact absurd rfl h2) | simp [stp, midB, finB]
  · rcases novl_cases h g with rfl | rfl | rfl | rfl <;> simp [stp, midB, finB]
theorem stp5_q : stp ⟨ls, ps, nm, vl, 5⟩ 34 = ⟨ls, ps ++ [(nm, some vl)], nm, vl, 0⟩ := by simp [stp, midB, finB]
theorem stp5_b : stp ⟨ls, ps, nm, vl, 5⟩ 92 = ⟨ls, ps, nm, vl, 6⟩ := by simp [stp, midB, finB]
theorem stp5_c (h : c ≠ 34) (h' : c ≠ 92) : stp ⟨ls, ps, nm, vl, 5⟩ c = ⟨ls, ps, nm, vl ++ [c], 5⟩ := by simp [stp, midB, finB, h, h']
theorem stp6 : stp ⟨ls, ps, nm, vl, 6⟩ c = ⟨ls, ps, nm, vl ++ [c], 5⟩ := by simp [stp, midB, finB]
theorem go0_jk : ∀ {j : List Nat}, (∀ c ∈ j, isJk c = true) → (∀ c ∈ j, Sg c) → go ⟨ls, ps, nm, vl, 0⟩ j = ⟨ls, ps, nm, vl, 0⟩
  | [], _, _ => rfl
  | c :: j, h, g => by rw [go_cons, stp0_jk (h c (.head _)) (g c (.head _)), go0_jk (fun d hd => h d (.tail _ hd)) fun d hd => g d (.tail _ hd)]
theorem go0_sp : ∀ {j : List Nat}, (∀ c ∈ j, isSp c = true) → (∀ c ∈ j, Sg c) → go ⟨ls, ps, nm, vl, 0⟩ j = ⟨ls, ps, nm, vl, 0⟩
  | [], _, _ => rfl
  | c :: j, h, g => by rw [go_cons, stp0_sp (h c (.head _)) (g c (.head _)), go0_sp (fun d hd => h d (.tail _ hd)) fun d hd => g d (.tail _ hd)]
theorem go3_sp : ∀ {j : List Nat}, (∀ c ∈ j, isSp c = true) → (∀ c ∈ j, Sg c) → go ⟨ls, ps, nm, vl, 3⟩ j = ⟨ls, ps, nm, vl, 3⟩
  | [], _, _ => rfl
  | c :: j, h, g => by rw [go_cons, stp3_sp (h c (.head _)) (g c (.head _)), go3_sp (fun d hd => h d (.tail _ hd)) fun d hd => g d (.tail _ hd)]
theorem go2_sp : ∀ {j : List Nat}, (∀ c ∈ j, isSp c = true) → (∀ c ∈ j, Sg c) → go ⟨ls, ps, nm, vl, 2⟩ j = ⟨ls, ps, nm, vl, 2⟩
  | [], _, _ => rfl
  | c :: j, h, g => by rw [go_cons, stp12_sp (.inr rfl) (h c (.head _)) (g c (.head _)), go2_sp (fun d hd => h d (.tail _ hd)) fun d hd => g d (.tail _ hd)]
theorem go1_sp {j : List Nat} (h : ∀ c ∈ j, isSp c = true) (g : ∀ c ∈ j, Sg c) : go ⟨ls, ps, nm, vl, 1⟩ j = ⟨ls, ps, nm, vl, if j = [] then 1 else 2⟩ := by
  cases j with
  | nil => rfl
  | cons c j => rw [go_cons, stp12_sp (.inl rfl) (h c (.head _)) (g c (.head _)), go2_sp (fun d hd => h d (.tail _ hd)) fun d hd => g d (.tail _ hd), if_neg (by simp)]
theorem go1_nm : ∀ {j nm : List Nat}, (∀ c ∈ j, isNm c = true) → (∀ c ∈ j, Sg c) → go ⟨ls, ps, nm, vl, 1⟩ j = ⟨ls, ps, nm ++ j, vl, 1⟩
  | [], _, _, _ => by simp [go_nil]
  | c :: j, nm, h, g => by rw [go_cons, stp1_nm (h c (.head _)) (g c (.head _)), go1_nm (fun d hd => h d (.tail _ hd)) (fun d hd => g d (.tail _ hd)), List.append_assoc]; rfl
theorem go0_nm {j : List Nat} (h0 : j ≠ []) (h : ∀ c ∈ j, isNm c = true) (g : ∀ c ∈ j, Sg c) : go ⟨ls, ps, nm, vl, 0⟩ j = ⟨ls, ps, j, vl, 1⟩ := by
  cases j with
  | nil => exact absurd rfl h0
  | cons c j => rw [go_cons, stp0_nm (h c (.head _)) (g c (.head _)), go1_nm (fun d hd => h d (.tail _ hd)) fun d hd => g d (.tail _ hd)]; rfl
theorem go4_vl : ∀ {j vl : List Nat}, (∀ c ∈ j, isVl c = true) → (∀ c ∈ j, Sg c) → go ⟨ls, ps, nm, vl, 4⟩ j = ⟨ls, ps, nm, vl ++ j, 4⟩
  | [], _, _, _ => by simp [go_nil]
  | c :: j, vl, h, g => by rw [go_cons, stp34_vl (.inr rfl) (h c (.head _)) (g c (.head _)), go4_vl (fun d hd => h d (.tail _ hd)) (fun d hd => g d (.tail _ hd)), List.append_assoc]; rfl
theorem go3_vl {j : List Nat} (h34 : HN (· == 34) j) (h : ∀ c ∈ j, isVl c = true) (g : ∀ c ∈ j, Sg c) : go ⟨ls, ps, nm, [], 3⟩ j = ⟨ls, ps, nm, j, if j = [] then 3 else 4⟩ := by
  cases j with
  | nil => rfl
  | cons c j => rw [go_cons, stp34_vl (.inl ⟨rfl, by simpa using h34 c j rfl⟩) (h c (.head _)) (g c (.head _)), go4_vl (fun d hd => h d (.tail _ hd)) (fun d hd => g d (.tail _ hd)), if_neg (by simp)]; rfl
theorem go5 : ∀ (n : Nat) {l vl : List Nat}, l.length ≤ n → (∀ c ∈ l, Sg c) → (go ⟨ls, ps, nm, vl, 5⟩ l).st < 5 → ∃ body v q, l = body ++ 34 :: q ∧ Bd body v ∧ go ⟨ls, ps, nm, vl, 5⟩ l = go ⟨ls, ps ++ [(nm, some (vl ++ v))], nm, vl ++ v, 0⟩ q := by
  intro n
  induction n with
  | zero =>
    intro l vl hl _ h
    rw [List.length_eq_zero_iff.mp (Nat.le_zero.mp hl), go_nil] at h
    exact absurd h (by simp)
  | succ n ih =>
    intro l vl hl g h
    cases l with
    | nil => rw [go_nil] at h; exact absurd h (by simp)
    | cons c l =>
      by_cases h34 : c = 34
      · subst h34
        exact ⟨[], [], l, rfl, .nil, by rw [go_cons, stp5_q, List.append_nil]⟩
      by_cases h92 : c = 92
      · subst h92
        cases l with
        | nil => rw [go_cons, stp5_b, go_nil] at h; exact absurd h (by simp)
        | cons d l =>
          rw [go_cons, stp5_b, go_cons, stp6] at h
          obtain ⟨body, v, q, e, hb, hg⟩ := ih (l := l) (vl := vl ++ [d]) (by simp at hl; omega) (fun x hx => g x (.tail _ (.tail _ hx))) h
          refine ⟨92 :: d :: body, d :: v, q, by rw [e]; rfl, .esc (g d (.tail _ (.head _))).lf hb, ?_⟩
          rw [go_cons, stp5_b, go_cons, stp6, hg, List.append_assoc]; rfl
      · rw [go_cons, stp5_c h34 h92] at h
        obtain ⟨body, v, q, e, hb, hg⟩ := ih (l := l) (vl := vl ++ [c]) (by simp at hl; omega) (fun x hx => g x (.tail _ hx)) h
        refine ⟨c :: body, c :: v, q, by rw [e]; rfl, .chr h34 h92 hb, ?_⟩
        rw [go_cons, stp5_c h34 h92, hg, List.append_assoc]; rfl
end
theorem mach_loop : ∀ (n : Nat) {t : List Nat}, t.length ≤ n → (∀ c ∈ t, Sg c) → ∀ (ps : List Pr) (rs : List (List Pr)) (nm vl : List Nat), (go ⟨rs, ps, nm, vl, 0⟩ t).st < 5 →
    ∃ ps' rs', Loop t ps rs ps' rs' ∧ (fin (go ⟨rs, ps, nm, vl, 0⟩ t)).ls = if ps' = [] then rs' else rs' ++ [ps'] := by
  intro n
  induction n with
  | zero =>
    intro t ht _ ps rs nm vl _
    rw [List.length_eq_zero_iff.mp (Nat.le_zero.mp ht)]
    refine ⟨ps, rs, .nil, ?_⟩
    by_cases h : ps = [] <;> simp [go, fin, midB, finB, h]
  | succ n ih =>
    intro t ht hg ps rs nm vl hst
    obtain ⟨a, u, rfl, ha, hu⟩ := cut_run isSp t
    have hga : ∀ c ∈ a, Sg c := fun c hc => hg c (List.mem_append_left _ hc)
    have hgu : ∀ c ∈ u, Sg c := fun c hc => hg c (List.mem_append_right _ hc)
    have spjk : ∀ c ∈ a, isJk c = true := fun c hc => by have := hga c hc; have h2 := ha c hc; rw [this.sp] at h2; rw [this.jk]; simp only [Bool.or_eq_true] at h2 ⊢; exact .inl (.inl h2)
    cases u with
    | nil =>
      cases a with
      | nil =>
        refine ⟨ps, rs, .nil, ?_⟩
        by_cases h : ps = [] <;> simp [go, fin, midB, finB, h]
      | cons c a =>
        obtain ⟨ps', rs', h1, h2⟩ := ih (t := []) (Nat.zero_le _) (fun _ h => (List.not_mem_nil h).elim) ps rs nm vl (by rw [go_nil]; simp)
        refine ⟨ps', rs', loop_junk (a := c :: a) (r := []) (j := c :: a) (q := []) rfl ha .nil .nil .nil rfl (by simp) spjk .nil h1, ?_⟩
        rw [List.append_nil, go0_sp ha hga]; exact h2
    | cons c u =>
      have gc := hgu c (.head _)
      have hcs : isSp c = false := hu c u rfl
      by_cases h44 : c = 44
      · subst h44
        rw [go_app, go0_sp ha hga, go_cons, stp0_comma] at hst ⊢
        obtain ⟨ps', rs', h1, h2⟩ := ih (t := u) (by simp at ht; omega) (fun d hd => hgu d (.tail _ hd)) [] (if ps = [] then rs else rs ++ [ps]) nm vl hst
        exact ⟨ps', rs', loop_comma rfl ha h1, h2⟩
      cases hjk : isJk c with
      | true =>
        obtain ⟨j, q, e, hj, hq⟩ := cut_run isJk (c :: u)
        have hj0 : j ≠ [] := by
          rintro rfl
          rw [hq c u (by rw [e]; rfl)] at hjk
          cases hjk
        have hgj : ∀ d ∈ a ++ j, Sg d := fun d hd => by
          rcases List.mem_append.mp hd with hd | hd
          · exact hga d hd
          · exact hgu d (by rw [e]; exact List.mem_append_left _ hd)
        have hjj : ∀ d ∈ a ++ j, isJk d = true := fun d hd => by
          rcases List.mem_append.mp hd with hd | hd
          · exact spjk d hd
          · exact hj d hd
        have hcn : isNm c = false := by
          rw [gc.jk] at hjk; rw [gc.nm]
          simp only [Bool.or_eq_true, beq_iff_eq] at hjk
          rcases hjk with ((rfl | rfl) | rfl) | rfl <;> decide
        have e' : a ++ c :: u = (a ++ j) ++ q := by rw [e, List.append_assoc]
        rw [e', go_app, go0_jk hjj hgj] at hst
        have hlen : (a ++ c :: u).length = (a ++ j ++ q).length := by rw [e']
        obtain ⟨ps', rs', h1, h2⟩ := ih (t := q) (by have := List.length_pos_iff.mpr hj0; simp only [List.length_append] at hlen ht; omega) (fun d hd => hgu d (by rw [e]; exact List.mem_append_right _ hd)) ps rs nm vl hst
        refine ⟨ps', rs', loop_junk (a := a) (r := c :: u) (j := a ++ j) (q := q) rfl ha hu (.cons hcn) (.cons (by simpa using h44)) e' (by simp [hj0]) hjj hq h1, ?_⟩
        rw [e', go_app, go0_jk hjj hgj]; exact h2
      | false =>
        have hcn : isNm c = true := by
          rw [gc.jk] at hjk; rw [gc.nm]
          simp only [Bool.or_eq_false_iff] at hjk
          simp [hjk, h44]
        obtain ⟨b, r, e, hb, hr⟩ := cut_run isNm (c :: u)
        have hb0 : b ≠ [] := by
          rintro rfl
          rw [hr c u (by rw [e]; rfl)] at hcn
          cases hcn
        have hgb : ∀ d ∈ b, Sg d := fun d hd => hgu d (by rw [e]; exact List.mem_append_left _ hd)
        have hgr : ∀ d ∈ r, Sg d := fun d hd => hgu d (by rw [e]; exact List.mem_append_right _ hd)
        have N : Nm (a ++ c :: u) a b r := ⟨by rw [e], ha, hb, hb0, hr⟩
        have hlr : r.length ≤ n := by
          have := List.length_pos_iff.mpr hb0
          have h9 : (a ++ c :: u).length = (a ++ (b ++ r)).length := by rw [e]
          simp only [List.length_append] at h9 ht; omega
        clear ht
        have eg : go ⟨rs, ps, nm, vl, 0⟩ (a ++ c :: u) = go ⟨rs, ps, b, vl, 1⟩ r := by rw [e, go_app, go0_sp ha hga, go_app, go0_nm hb0 hb hgb]
        rw [eg] at hst ⊢
        clear eg
        obtain ⟨s1, r1, er, hs1, hr1⟩ := cut_run isSp r
        have hgs1 : ∀ d ∈ s1, Sg d := fun d hd => hgr d (by rw [er]; exact List.mem_append_left _ hd)
        have hgr1 : ∀ d ∈ r1, Sg d := fun d hd => hgr d (by rw [er]; exact List.mem_append_right _ hd)
        have eg : go ⟨rs, ps, b, vl, 1⟩ r = go ⟨rs, ps, b, vl, if s1 = [] then 1 else 2⟩ r1 := by rw [er, go_app, go1_sp hs1 hgs1]
        have hk12 : (if s1 = [] then 1 else 2) = 1 ∨ (if s1 = [] then 1 else 2) = 2 := by by_cases h : s1 = [] <;> simp [h]
        cases r1 with
        | nil =>
          rw [eg] at hst ⊢
          rw [go_nil, fin12 hk12]
          rw [List.append_nil] at er
          obtain ⟨ps', rs', h1, h2⟩ := ih (t := r) hlr hgr (ps ++ [(b, none)]) rs b vl (by rw [er, go0_sp hs1 hgs1]; simp)
          refine ⟨ps', rs', loop_none N (s1 := s1) (q := []) (by rw [er, List.append_nil]) hs1 .nil .nil h1, ?_⟩
          rw [← h2, er, go0_sp hs1 hgs1]
        | cons d r2 =>
          have gd := hgr1 d (.head _)
          have hds := hr1 d r2 rfl
          by_cases h61 : d = 61
          · subst h61
            rw [eg, go_cons, stp12_eq hk12] at hst ⊢
            clear eg
            obtain ⟨s2, r3, er2, hs2, hr3⟩ := cut_run isSp r2
            have hgs2 : ∀ d ∈ s2, Sg d := fun d hd => hgr1 d (.tail _ (by rw [er2]; exact List.mem_append_left _ hd))
            have hgr3 : ∀ d ∈ r3, Sg d := fun d hd => hgr1 d (.tail _ (by rw [er2]; exact List.mem_append_right _ hd))
            have hl3 : r3.length ≤ n := by have h8 := congrArg List.length er; rw [er2] at h8; simp only [List.length_append, List.length_cons] at h8; omega
            rw [er2, go_app, go3_sp hs2 hgs2] at hst ⊢
            have hs : r = s1 ++ 61 :: (s2 ++ r3) := by rw [er, er2]
            by_cases h34 : HN (· == 34) r3
            · obtain ⟨v, q, e3, hv, hq⟩ := cut_run isVl r3
              have hgv : ∀ d ∈ v, Sg d := fun d hd => hgr3 d (by rw [e3]; exact List.mem_append_left _ hd)
              have hgq : ∀ d ∈ q, Sg d := fun d hd => hgr3 d (by rw [e3]; exact List.mem_append_right _ hd)
              have hv34 : HN (· == 34) v := fun d v' ev => h34 d (v' ++ q) (by rw [e3, ev]; rfl)
              have hlq : q.length ≤ n := by have h8 := congrArg List.length e3; simp only [List.length_append] at h8; omega
              have hk34 : (if v = [] then 3 else 4) = 3 ∨ (if v = [] then 3 else 4) = 4 := by by_cases h : v = [] <;> simp [h]
              rw [e3, go_app, go3_vl hv34 hv hgv] at hst ⊢
              rw [e3] at hs h34 hr3
              cases q with
              | nil =>
                rw [go_nil, fin34 hk34]
                obtain ⟨ps', rs', h1, h2⟩ := ih (t := []) (Nat.zero_le _) (fun _ h => (List.not_mem_nil h).elim) (ps ++ [(b, some v)]) rs b v (by rw [go_nil]; simp)
                exact ⟨ps', rs', loop_val N hs hs1 hs2 hr3 hv hq (.inl h34) h1, h2⟩
              | cons f q =>
                have h12 : (if v = [] then 3 else 4) = 3 ∧ isSp f = false ∨ (if v = [] then 3 else 4) = 4 := by
                  by_cases h : v = []
                  · refine .inl ⟨by simp [h], ?_⟩
                    subst h
                    exact hr3 f q rfl
                  · exact .inr (by simp [h])
                rw [go_cons, stp34_else h12 (hq f q rfl) (hgq f (.head _)), ← go_cons] at hst ⊢
                obtain ⟨ps', rs', h1, h2⟩ := ih (t := f :: q) hlq hgq (ps ++ [(b, some v)]) rs b v hst
                exact ⟨ps', rs', loop_val N hs hs1 hs2 hr3 hv hq (.inl h34) h1, h2⟩
            · have : ∃ r4, r3 = 34 :: r4 := by
                cases r3 with
                | nil => exact absurd .nil h34
                | cons f r4 =>
                  by_cases hf : f = 34
                  · subst hf; exact ⟨r4, rfl⟩
                  · exact absurd (.cons (by simpa using hf)) h34
              obtain ⟨r4, rfl⟩ := this
              rw [go_cons, stp3_q] at hst ⊢
              obtain ⟨body, v, q, e4, hb4, hg4⟩ := go5 r4.length (Nat.le_refl _) (fun d hd => hgr3 d (.tail _ hd)) hst
              rw [hg4] at hst ⊢
              rw [e4] at hs
              have hlq : q.length ≤ n := by have h8 := congrArg List.length e4; simp only [List.length_append, List.length_cons] at h8 hl3; omega
              obtain ⟨ps', rs', h1, h2⟩ := ih (t := q) hlq (fun d hd => hgr3 d (.tail _ (by rw [e4]; exact List.mem_append_right _ (.tail _ hd)))) _ rs b _ hst
              exact ⟨ps', rs', loop_quo N hs hs1 hs2 hb4 h1, h2⟩
          · have eg2 : go ⟨rs, ps, b, vl, 1⟩ r = go ⟨rs, ps ++ [(b, none)], b, vl, 0⟩ r := by
              have h12 : (if s1 = [] then 1 else 2) = 1 ∧ isNm d = false ∨ (if s1 = [] then 1 else 2) = 2 := by
                by_cases h : s1 = []
                · refine .inl ⟨by simp [h], ?_⟩
                  subst h
                  exact hr d r2 er
                · exact .inr (by simp [h])
              rw [eg, go_cons, stp12_else h12 hds h61 gd, er, go_app, go0_sp hs1 hgs1, go_cons]
            rw [eg2] at hst ⊢
            obtain ⟨ps', rs', h1, h2⟩ := ih (t := r) hlr hgr (ps ++ [(b, none)]) rs b vl hst
            exact ⟨ps', rs', loop_none N er hs1 hr1 (.cons (by simpa using h61)) h1, h2⟩
def M0 : MS := ⟨[], [], [], [], 0⟩
def sigma (k c : Nat) : Nat := (stp ⟨[], [], [], [], k⟩ c).st
theorem finB_st (m : MS) (b : Bool) : (finB m b).st = m.st := by unfold finB; split <;> rfl
theorem midB_st (m : MS) (sg : List Nat) (wh en b34 b92 b223 : Bool) : (midB m sg wh en b34 b92 b223).st = (midB ⟨[], [], [], [], m.st⟩ sg wh en b34 b92 b223).st := by
  obtain ⟨ls, ps, nm, vl, st⟩ := m
  unfold midB
  dsimp only
  split <;> (repeat' split) <;> rfl
theorem stp_st (m : MS) (c : Nat) : (stp m c).st = sigma m.st c := by unfold sigma stp; rw [finB_st, finB_st, midB_st]
theorem go_st : ∀ (l : List Nat) (m : MS), (go m l).st = l.foldl sigma m.st
  | [], _ => rfl
  | c :: l, m => by rw [go_cons, go_st l, stp_st, List.foldl_cons]
theorem sigma_le {k c : Nat} (h : k < 7) : sigma k c < 7 := by
  unfold sigma stp
  rw [finB_st]
  unfold midB
  dsimp only
  split <;> (repeat' split) <;> simp_all <;> omega
theorem sigmas_le : ∀ (l : List Nat) {k : Nat}, k < 7 → l.foldl sigma k < 7
  | [], _, h => h
  | c :: l, _, h => sigmas_le l (sigma_le h)
theorem fin_comma {m : MS} (h : m.st < 5) : stp m 44 = fin m := by
  obtain ⟨ls, ps, nm, vl, st⟩ := m
  have h' : st < 5 := h
  match st, h' with
  | 0, _ | 1, _ | 2, _ | 3, _ | 4, _ => simp [stp, fin, midB]
theorem fin_form {m : MS} (h : m.st < 5) : (fin m).st = 0 ∧ (fin m).ps = [] := by
  obtain ⟨ls, ps, nm, vl, st⟩ := m
  have h' : st < 5 := h
  match st, h' with
  | 0, _ => by_cases hp : ps = [] <;> simp [fin, midB, finB, hp]
  | 1, _ | 2, _ | 3, _ | 4, _ => simp [fin, midB, finB]
theorem MS_form {m : MS} (h : m.st = 0 ∧ m.ps = []) : m = ⟨m.ls, [], m.nm, m.vl, 0⟩ := by
  obtain ⟨ls, ps, nm, vl, st⟩ := m
  obtain ⟨h1, h2⟩ := h
  cases h1; cases h2; rfl
def Good (t : List Nat) : Prop := t.foldl sigma 0 < 5 ∧ ∀ c ∈ t, c ∈ alpha
theorem split_cons {t : List Nat} {ts : List (List Nat)} {m : MS} {R : List (List Pr)} (hm : m.st = 0 ∧ m.ps = []) (g : Good t) (k : SplitAll ts (fin (go m t)).ls R) : SplitAll (t :: ts) m.ls R := by
  rw [MS_form hm] at k ⊢
  obtain ⟨ps', rs', h1, h2⟩ := mach_loop t.length (Nat.le_refl _) (fun c hc => sg_alpha c (g.2 c hc)) [] m.ls m.nm m.vl (by rw [go_st]; exact g.1)
  rw [h2] at k
  exact .cons h1 k
theorem go_good {t : List Nat} {m : MS} (hm : m.st = 0 ∧ m.ps = []) (g : Good t) : (go m t).st < 5 ∧ (fin (go m t)).st = 0 ∧ (fin (go m t)).ps = [] := by
  have h : (go m t).st < 5 := by rw [go_st, hm.1]; exact g.1
  exact ⟨h, fin_form h⟩
theorem go_comma {t u : List Nat} {m : MS} (hm : m.st = 0 ∧ m.ps = []) (g : Good t) : go m (t ++ 44 :: u) = go (fin (go m t)) u := by
  rw [go_app, go_cons, fin_comma (go_good hm g).1]
theorem good_comma {t u : List Nat} (g : Good t) (g' : Good u) : Good (t ++ 44 :: u) := by
  refine ⟨?_, fun c hc => ?_⟩
  · rw [List.foldl_append, List.foldl_cons]
    have : sigma (t.foldl sigma 0) 44 = 0 := by
      have h := g.1
      generalize t.foldl sigma 0 = k at h
      match k, h with
      | 0, _ | 1, _ | 2, _ | 3, _ | 4, _ => decide
    rw [this]; exact g'.1
  · rcases List.mem_append.mp hc with hc | hc
    · exact g.2 c hc
    rcases List.mem_cons.mp hc with rfl | hc
    · decide
    · exact g'.2 c hc
def M0_ok : M0.st = 0 ∧ M0.ps = [] := ⟨rfl, rfl⟩
theorem split_one {t : List Nat} (g : Good t) : SplitAll [t] [] (fin (go M0 t)).ls := split_cons (m := M0) M0_ok g .nil
theorem split_two {t u : List Nat} (g : Good t) (g' : Good u) : SplitAll [t, u] [] (fin (go M0 (t ++ 44 :: u))).ls := by
  rw [go_comma M0_ok g]
  exact split_cons (m := M0) M0_ok g (split_cons (go_good M0_ok g).2 g' .nil)
theorem split_four {a b c d : List Nat} (ga : Good a) (gb : Good b) (gc : Good c) (gd : Good d) : SplitAll [a, b, c, d] [] (fin (go M0 (a ++ 44 :: (b ++ 44 :: (c ++ 44 :: d))))).ls := by
  have h1 := (go_good M0_ok ga).2
  have h2 := (go_good h1 gb).2
  rw [go_comma M0_ok ga, go_comma h1 gb, go_comma h2 gc]
  exact split_cons (m := M0) M0_ok ga (split_cons h1 gb (split_cons h2 gc (split_cons (go_good h2 gc).2 gd .nil)))
/-- the operators -/
def ops : List (List Nat) := [[40], [41], [91], [93], [58], [44], [59], [43], [45], [42], [47], [124], [38], [60], [62], [61], [46], [37], [123], [125], [61, 61], [33, 61], [60, 61], [62, 61], [126], [94], [60, 60], [62, 62], [42, 42], [43, 61], [45, 61], [42, 61], [47, 61], [37, 61], [38, 61], [124, 61], [94, 61], [60, 60, 61], [62, 62, 61], [42, 42, 61], [47, 47], [47, 47, 61], [64], [64, 61], [45, 62], [46, 46, 46], [58, 61], [33]]
def parts (op : List Nat) : Bool := op.getLast? == some 61 && !(op == [61, 61])
def marks (op : List Nat) : List Nat := if parts op then [34, 34] else [34]
theorem ops_state : ∀ op ∈ ops, ∀ k, k < 7 → (op ++ marks op).foldl sigma k < 5 := by decide
theorem ops_alpha : ∀ op ∈ ops, ∀ c ∈ op ++ marks op, c ∈ alpha := by decide
theorem text_good {b op : List Nat} (hb : ∀ c ∈ b, c ∈ alpha) (ho : op ∈ ops) : Good (b ++ op ++ marks op) := by
  rw [List.append_assoc]
  refine ⟨?_, fun c hc => ?_⟩
  · rw [List.foldl_append]
    exact ops_state op ho _ (sigmas_le b (by omega))
  · rcases List.mem_append.mp hc with hc | hc
    · exact hb c hc
    · exact ops_alpha op ho c hc
theorem nil_good : Good [] := ⟨by decide, fun _ h => (List.not_mem_nil h).elim⟩
/-- the second part -/
abbrev fst2 (op : List Nat) : List Nat := 97 :: (op ++ [34])
abbrev bc : List Nat := [98, 61, 34, 99, 34]
theorem ops_joined : ∀ op ∈ ops, (fst2 op ++ 44 :: bc).foldl sigma 0 < 5 := by decide
theorem ops_first : ∀ op ∈ ops, parts op = false → (fst2 op).foldl sigma 0 < 5 := by decide
theorem ops_parts : ∀ op ∈ ops, parts op = true → op = op.dropLast ++ [61] ∧ (∀ c ∈ 97 :: op.dropLast, isNm c = true) := by decide
theorem joined_good {op : List Nat} (ho : op ∈ ops) : Good (fst2 op ++ 44 :: bc) := by
  refine ⟨ops_joined op ho, fun c hc => ?_⟩
  rcases List.mem_append.mp hc with hc | hc
  · rcases List.mem_cons.mp hc with rfl | hc
    · decide
    rcases List.mem_append.mp hc with hc | hc
    · exact ops_alpha op ho c (List.mem_append_left _ hc)
    · rw [List.mem_singleton.mp hc]; decide
  · have h9 : ∀ c ∈ 44 :: bc, c ∈ alpha := by decide
    exact h9 c hc
theorem bc_good : Good bc := ⟨by decide, by decide⟩
theorem first_split {op : List Nat} (ho : op ∈ ops) : SplitAll [fst2 op, bc] [] (if parts op then [[(97 :: op.dropLast, some [34])], [([98], some [99])]] else (fin (go M0 (fst2 op ++ 44 :: bc))).ls) := by
  cases h : parts op with
  | false =>
    rw [if_neg (by simp)]
    exact split_two ⟨ops_first op ho h, fun c hc => (joined_good ho).2 c (List.mem_append_left _ hc)⟩ bc_good
  | true =>
    rw [if_pos rfl]
    obtain ⟨e, hn⟩ := ops_parts op ho h
    have N : Nm (fst2 op) [] (97 :: op.dropLast) [61, 34] := ⟨by show 97 :: (op ++ [34]) = _; rw [show op ++ [34] = op.dropLast ++ [61, 34] by rw [e]; simp]; rfl, fun _ h => (List.not_mem_nil h).elim, hn, by simp, .cons (by decide)⟩
    have L1 : Loop (fst2 op) [] [] [(97 :: op.dropLast, some [34])] [] :=
      loop_val N (s1 := []) (s2 := []) (v := [34]) (q := []) rfl (fun _ h => (List.not_mem_nil h).elim) (fun _ h => (List.not_mem_nil h).elim) (.cons (by decide)) (by decide) .nil (.inr rfl) .nil
    have N2 : Nm bc [] [98] [61, 34, 99, 34] := ⟨rfl, fun _ h => (List.not_mem_nil h).elim, by decide, by simp, .cons (by decide)⟩
    have L2 : ∀ rs, Loop bc [] rs [([98], some [99])] rs := fun rs =>
      loop_quo N2 (s1 := []) (s2 := []) (body := [99]) (v := [99]) (q := []) rfl (fun _ h => (List.not_mem_nil h).elim) (fun _ h => (List.not_mem_nil h).elim) (.chr (by decide) (by decide) .nil) .nil
    refine .cons L1 ?_
    rw [if_neg (by simp)]
    refine .cons (L2 _) ?_
    rw [if_neg (by simp)]
    exact .nil
/-- sizes and signs of what the machine holds -/
def PrOk (q : Pr) : Prop := (∀ c ∈ q.1, c < 128) ∧ ∀ v, q.2 = some v → ∀ c ∈ v, c < 128
structure OkM (m : MS) : Prop where
  ls : ∀ p ∈ m.ls, ∀ q ∈ p, PrOk q
  ps : ∀ q ∈ m.ps, PrOk q
  nm : ∀ c ∈ m.nm, c < 128
  vl : ∀ c ∈ m.vl, c < 128
theorem strOk_of {l : List Nat} (h : ∀ c ∈ l, c < 128) : PyData.strOk (S l) = true := by
  unfold PyData.strOk
  show l.toArray.all _ = true
  rw [List.all_toArray, List.all_eq_true]
  intro c hc
  have := h c hc
  exact decide_eq_true (by omega)
theorem PrOk.ok {q : Pr} (h : PrOk q) (n : Nat) : kqdOk (n + 1) (prDat q) = true := by
  obtain ⟨a, b⟩ := q
  have ha := strOk_of h.1
  cases b with
  | none => cases n <;> simp [prDat, kqdOk, ha]
  | some v =>
    have hv := strOk_of (h.2 v rfl)
    cases n <;> simp [prDat, kqdOk, ha, hv]
theorem ls_ok {p : List Pr} (h : ∀ q ∈ p, PrOk q) (n : Nat) : kqdOk (n + 2) (lsDat p) = true := by
  simp only [lsDat, kqdOk, List.all_eq_true, List.mem_map]
  rintro _ ⟨q, hq, rfl⟩
  exact (h q hq).ok n
theorem mem_push {α : Type} {P : α → Prop} {l : List α} {x : α} (h : ∀ y ∈ l, P y) (hx : P x) : ∀ y ∈ l ++ [x], P y := fun y hy => by
  rcases List.mem_append.mp hy with hy | hy
  · exact h y hy
  · rw [List.mem_singleton.mp hy]; exact hx
theorem mem_app2 {P : Nat → Prop} {l l' : List Nat} (h : ∀ y ∈ l, P y) (hx : ∀ y ∈ l', P y) : ∀ y ∈ l ++ l', P y := fun y hy => by
  rcases List.mem_append.mp hy with hy | hy
  · exact h y hy
  · exact hx y hy
theorem midB_ok {m : MS} (h : OkM m) {sg : List Nat} (hs : ∀ c ∈ sg, c < 128) (wh en b34 b92 b223 : Bool) : OkM (midB m sg wh en b34 b92 b223) := by
  obtain ⟨h1, h2, h3, h4⟩ := h
  have hv : PrOk (m.nm, some m.vl) := ⟨h3, fun v e => by cases e; exact h4⟩
  have hn : PrOk (m.nm, none) := ⟨h3, fun v e => by cases e⟩
  have n0 : ∀ c ∈ ([] : List Nat), c < 128 := fun _ h => (List.not_mem_nil h).elim
  unfold midB
  split <;> (repeat' split)
  all_goals first
    | exact ⟨h1, h2, h3, h4⟩
    | exact ⟨h1, mem_push h2 hv, h3, h4⟩
    | exact ⟨h1, mem_push h2 hn, h3, h4⟩
    | exact ⟨h1, mem_push h2 hn, hs, h4⟩
    | exact ⟨h1, h2, h3, mem_app2 h4 hs⟩
    | exact ⟨h1, h2, mem_app2 h3 hs, h4⟩
    | exact ⟨h1, h2, hs, h4⟩
    | exact ⟨h1, h2, h3, n0⟩
theorem finB_ok {m : MS} (h : OkM m) (b : Bool) : OkM (finB m b) := by
  unfold finB
  split
  · exact ⟨mem_push h.1 h.2, fun _ h => (List.not_mem_nil h).elim, h.3, h.4⟩
  · exact h
theorem stp_ok {m : MS} (h : OkM m) {c : Nat} (hc : c < 128) : OkM (stp m c) := finB_ok (midB_ok h (fun d hd => by rw [List.mem_singleton.mp hd]; exact hc) _ _ _ _ _) _
theorem go_ok : ∀ {l : List Nat} {m : MS}, OkM m → (∀ c ∈ l, c ∈ alpha) → OkM (go m l)
  | [], _, h, _ => h
  | c :: l, m, h, hl => by rw [go_cons]; exact go_ok (stp_ok h (sg_alpha c (hl c (.head _))).lt) fun d hd => hl d (.tail _ hd)
theorem M0_okM : OkM M0 := ⟨fun _ h => (List.not_mem_nil h).elim, fun _ h => (List.not_mem_nil h).elim, fun _ h => (List.not_mem_nil h).elim, fun _ h => (List.not_mem_nil h).elim⟩
theorem fin_ok {m : MS} (h : OkM m) : OkM (fin m) := finB_ok (midB_ok h (fun _ h => (List.not_mem_nil h).elim) _ _ _ _ _) _
theorem res_ok {l : List Nat} (hl : ∀ c ∈ l, c ∈ alpha) : ∀ d ∈ (fin (go M0 l)).ls.map lsDat, kqdOk 8 d = true := by
  intro d hd
  obtain ⟨p, hp, rfl⟩ := List.mem_map.mp hd
  exact ls_ok ((fin_ok (go_ok M0_okM hl)).ls p hp) 6
/-- the runs of _law_read -/
def runOf (l : List Nat) (i : Nat) : MS := if i ≤ l.length then go M0 (l.take i) else fin (go M0 l)
theorem runOf_zero (l : List Nat) : runOf l 0 = ⟨[], [], [], [], 0⟩ := rfl
theorem runOf_last (l : List Nat) : runOf l (l.length + 1) = fin (go M0 l) := by unfold runOf; rw [if_neg (by omega)]
theorem runOf_succ {l : List Nat} {i c : Nat} (h : l[i]? = some c) : runOf l (i + 1) = stp (runOf l i) c := by
  have hi := (List.getElem?_eq_some_iff.mp h).1
  unfold runOf
  rw [if_pos (by omega), if_pos (by omega), List.take_add_one, h, go_app]
  rfl
theorem runOf_len (l : List Nat) : runOf l l.length = go M0 l := by unfold runOf; rw [if_pos (Nat.le_refl _), List.take_length]
theorem runOf_ok {l : List Nat} (hl : ∀ c ∈ l, c ∈ alpha) (i : Nat) : OkM (runOf l i) := by
  unfold runOf
  split
  · exact go_ok M0_okM fun c hc => hl c (List.mem_of_mem_take hc)
  · exact fin_ok (go_ok M0_okM hl)
theorem num_none : ∀ c ∈ alpha, opNum c = none → 9 ≤ c ∧ c < 128 ∧ c ≠ 44 ∧ c ≠ 59 ∧ c ≠ 61 := by decide
theorem num_some : ∀ c ∈ alpha, ∀ n ∈ (opNum c).toList, 7 ≤ n ∧ n < 55 ∧ ops[n - 7]? = some [c] ∧ c ≠ 32 ∧ c ≠ 9 ∧ (n = 12 ↔ c = 44) ∧ (n = 13 ↔ c = 59) ∧ (n = 22 ↔ c = 61) := by decide
theorem str_tests : ∀ c ∈ alpha, (S [c] == Str.ofString " ") = (c == 32) ∧ (S [c] == Str.ofString "\t") = (c == 9) ∧ (S [c] == Str.ofString "\"") = (c == 34) ∧ (S [c] == Str.ofString "\\") = (c == 92) := by decide
theorem bool3 {b32 b9 : Bool} : b32 = true ∨ (b32 = false ∧ b9 = true) ∨ (b32 = false ∧ b9 = false) := by cases b32 <;> cases b9 <;> simp
theorem ints_at : ∀ {vs : List Value} {ns : List Int}, IntsAre vs ns → ∀ {i : Nat} {v : Value}, vs[i]? = some v → ∃ n t, ns[i]? = some n ∧ v = .int n t
  | _, _, .cons n t _, 0, v, e => by simp at e; exact ⟨n, t, rfl, e.symm⟩
  | _, _, .cons _ _ h, i + 1, v, e => by
    obtain ⟨n, t, h1, h2⟩ := ints_at h (i := i) (v := v) (by simpa using e)
    exact ⟨n, t, by simpa using h1, h2⟩
theorem beq_iff {a b c d : Nat} {x y : Int} (h : x = y ↔ c = d) : (x == y) = (c == d) := by
  by_cases e : c = d
  · simp [e, h.mpr e]
  · have : x ≠ y := fun e' => e (h.mp e')
    rw [beq_eq_false_iff_ne.mpr this, beq_eq_false_iff_ne.mpr e]
theorem read_runs {l : List Nat} {ws vs : List Value} (hl : ∀ c ∈ l, c ∈ alpha) (hw : StrsAre ws (ops.map S)) (hv : IntsAre vs (symInts l)) : ∀ i v, vs[i]? = some v → ∃ n t sg b32 b9 b3 b34 b92 b223 b0, v = .int n t ∧ SyC ws n sg b32 b9 b3 ∧ sg.length ≤ 1 ∧ (S sg == Str.ofString " ") = b32 ∧ (S sg == Str.ofString "\t") = b9 ∧ (S sg == Str.ofString "\"") = b34 ∧ (S sg == Str.ofString "\\") = b92 ∧ (n == 223) = b223 ∧ ([0, 213, 214] : List Int).any (· == n) = b3 ∧ ([0, 213] : List Int).any (· == n) = b0 ∧ (∀ q ∈ (midB (runOf l i) sg (b32 || b9) (b32 || b9 || b3) b34 b92 b223).ps, kqdOk 8 (prDat q) = true) ∧ runOf l (i + 1) = finB (midB (runOf l i) sg (b32 || b9) (b32 || b9 || b3) b34 b92 b223) b0 := by
  intro i v hi
  obtain ⟨n, t, hn, rfl⟩ := ints_at hv hi
  unfold symInts at hn
  rcases Nat.lt_or_ge i l.length with h | h
  · rw [List.getElem?_append_left (by simpa using h), List.getElem?_map, List.getElem?_eq_getElem h] at hn
    simp only [Option.map_some, Option.some.injEq] at hn
    have hc : l[i]? = some l[i] := List.getElem?_eq_getElem h
    generalize l[i] = c at hn hc
    have hca := hl c (List.mem_of_getElem? hc)
    have hlt := (sg_alpha c hca).lt
    obtain ⟨t1, t2, t3, t4⟩ := str_tests c hca
    have ok : ∀ wh en b34 b92 b223, ∀ q ∈ (midB (runOf l i) [c] wh en b34 b92 b223).ps, kqdOk 8 (prDat q) = true := fun _ _ _ _ _ q hq => ((midB_ok (runOf_ok hl i) (fun d hd => by rw [List.mem_singleton.mp hd]; exact hlt) _ _ _ _ _).ps q hq).ok 7
    refine ⟨n, t, [c], c == 32, c == 9, c == 44 || c == 59, c == 34, c == 92, c == 61, c == 44, rfl, ?_, by simp, t1, t2, t3, t4, ?_, ?_, ?_, ok _ _ _ _ _, runOf_succ hc⟩
    all_goals subst hn
    all_goals cases ho : opNum c with
      | none =>
        obtain ⟨h1, h2, h3, h4, h5⟩ := num_none c hca ho
        have e : symNum c = 247 + c := by unfold symNum; rw [ho]
        first
          | exact .A c rfl (by rw [e]; exact decide_eq_true (by omega)) (by rw [e]; exact decide_eq_false (by omega)) (by rw [e]; omega) hlt (by simp [h3, h4]) bool3
          | (rw [e, beq_eq_false_iff_ne.mpr h5, beq_eq_false_iff_ne]; omega)
          | (rw [e, beq_eq_false_iff_ne.mpr h3]; simp <;> omega)
          | (rw [e, beq_eq_false_iff_ne.mpr h3, beq_eq_false_iff_ne.mpr h4]; simp <;> omega)
      | some n =>
        obtain ⟨h1, h2, h3, h4, h5, h6, h7, h8⟩ := num_some c hca n (by rw [ho]; simp)
        have e : symNum c = 201 + n := by unfold symNum; rw [ho]
        obtain ⟨t', ht'⟩ := hw.at (j := n - 7) (y := S [c]) (by rw [List.getElem?_map, h3]; rfl)
        have q0 : ((0 : Int) == ((201 + n : Nat) : Int)) = false := beq_eq_false_iff_ne.mpr (by omega)
        have q1 : ((213 : Int) == ((201 + n : Nat) : Int)) = (c == 44) := beq_iff (a := 0) (b := 0) (by rw [← h6]; omega)
        have q2 : ((214 : Int) == ((201 + n : Nat) : Int)) = (c == 59) := beq_iff (a := 0) (b := 0) (by rw [← h7]; omega)
        first
          | exact .B c (n - 7) t' rfl (by rw [e]; exact decide_eq_false (by omega)) (by rw [e]; exact decide_eq_true (by omega)) (by rw [e]; omega) ht' (beq_eq_false_iff_ne.mpr h4) (beq_eq_false_iff_ne.mpr h5) (by rw [e, beq_eq_false_iff_ne]; omega) (by cases (c == 44 || c == 59) <;> simp)
          | (rw [e]; exact beq_iff (a := 0) (b := 0) (by rw [← h8]; omega))
          | (rw [e]; simp only [List.any_cons, List.any_nil, q0, q1, q2, Bool.false_or, Bool.or_false])
  · have hi' : i = l.length ∧ n = 0 := by
      rw [List.getElem?_append_right (by simpa using h)] at hn
      simp only [List.length_map] at hn
      have hlt := (List.getElem?_eq_some_iff.mp hn).1
      simp only [List.length_cons, List.length_nil] at hlt
      have : i - l.length = 0 := by omega
      rw [this] at hn
      simp at hn
      exact ⟨by omega, hn.symm⟩
    obtain ⟨rfl, rfl⟩ := hi'
    refine ⟨0, t, [], false, false, true, false, false, false, true, rfl, .C rfl rfl rfl rfl rfl, by simp, by decide, by decide, by decide, by decide, by decide, by decide, by decide, ?_, ?_⟩
    · intro q hq
      exact ((midB_ok (runOf_ok hl _) (fun _ h => (List.not_mem_nil h).elim) _ _ _ _ _).ps q hq).ok 7
    · rw [runOf_last, runOf_len]; rfl
end Mine

namespace Mine
/-! rules for the law's own steps -/
section
variable {prog : Program} {w : World} {A : Around} {E : Value → Shared → Prop} {s : Shared} {h₀ : Heap} {L : Addr} {m : Str → Option Value} {news : List (Addr × Obj)} {Q : Value → Shared → Prop}
theorem sum_my {l : Addr} {its : Array Value} {ns : List Int} {n : Nat} (hh : A.handled = none) (F : Fr h₀ L s.heap m) (N : News h₀ L s.heap news) (hm : (l, listOf its n) ∈ news) (hi : IntsAre its.toList ns)
    (h : ∀ (z : Int) h' tk t', Fr h₀ L h' m → News h₀ L h' news → Q (.int z t') { s with heap := h', toks := tk }) :
    wpAny (model prog w) A (call (.builtin "sum") [.ref l]) Q E s :=
  sumK (vs := its.toList) hh F N (News.isList N hm) hi fun h' tk t' F' N' => h _ h' tk t' F' N'
/-- the row: the list of the operators -/
def RowAt (ws : List Value) : Prop := StrsAre ws (ops.map S)
theorem row_of {vs : List Value} {l : List Str} (h : StrsAre vs l) (e : l = Txt.split (Str.ofString "( ) [ ] : , ; + - * / | & < > = . % { } == != <= >= ~ ^ << >> ** += -= *= /= %= &= |= ^= <<= >>= **= // //= @ @= -> ... := !") (Str.ofString " ")) : RowAt vs := by
  have e2 : l = ops.map S := e.trans (by decide +kernel)
  subst e2; exact h
theorem row_pick {value slice : Expr} {rwa : Addr} {ws : List Value} {nw : Nat} {z : Int} {u : Tok} (N : News h₀ L s.heap news) (hm : (rwa, listOf ws.toArray nw) ∈ news) (hw : RowAt ws) (hq : ∀ op t, op ∈ ops → Q (.str (S op) t) s)
    (hs : subscripted slice false (.ref rwa) (.int (z.fmod 48) u) = operate [.ref rwa, .int (z.fmod 48) u] (getItem (.ref rwa) (.int (z.fmod 48) u))) (hg : ∀ r, letTemporaryGo value (.ref rwa) r = pure ()) :
    wpAny (model prog w) A (subscriptTail value slice (.ref rwa) (.int (z.fmod 48) u)) Q E s := by
  have h0 := Int.fmod_nonneg_of_pos z (b := 48) (by decide)
  have h1 := Int.fmod_lt_of_pos z (b := 48) (by decide)
  have hol : ops.length = 48 := by decide
  generalize z.fmod 48 = n at h0 h1 hs ⊢
  have hk : ops[n.toNat]? = some (ops[n.toNat]'(by omega)) := List.getElem?_eq_getElem _
  obtain ⟨t, ht⟩ := StrsAre.at hw (j := n.toNat) (y := S (ops[n.toNat]'(by omega))) (by rw [List.getElem?_map, hk]; rfl)
  have hwl : ws.length = 48 := by rw [StrsAre.len_eq hw, List.length_map]; exact hol
  exact rowI N hm (by omega) ht (by omega) (hq _ t (List.getElem_mem _)) hs hg
theorem ops_ne : ∀ op ∈ ops, op ≠ [] := by decide
/-- an operator's last sign -/
theorem last_pick {value slice : Expr} {op : List Nat} {t u : Tok} (ho : op ∈ ops) (hq : ∀ t', Q (.str (S [op.getLast?.getD 0]) t') { s with toks := s.toks + 1 })
    (hs : subscripted slice false (.str (S op) t) (.int (-1) u) = operate [.str (S op) t, .int (-1) u] (getItem (.str (S op) t) (.int (-1) u))) (hg : ∀ r, letTemporaryGo value (.str (S op) t) r = pure ()) :
    wpAny (model prog w) A (subscriptTail value slice (.str (S op) t) (.int (-1) u)) Q E s := by
  have hn := ops_ne op ho
  have hl : 0 < op.length := List.length_pos_iff.mpr hn
  have hsl : (S op).length = op.length := S_len op
  refine item_str (by decide) (by omega) (by omega) (fun _ => ?_) hs hg
  have e : Txt.item (S op) (-1) = S [op.getLast?.getD 0] := by
    have : ∀ op ∈ ops, Txt.item (S op) (-1) = S [op.getLast?.getD 0] := by decide
    exact this op ho
  rw [e]; exact hq _
end
section
variable {prog : Program} {w : World} {A : Around} {E : Value → Shared → Prop} {s : Shared} {Q : Value → Shared → Prop} {t u : Tok}
theorem neS {x y : Str} {b : Bool} (h : (x == y) = b) (hq : Q (.bool (!b)) s) : wpAny (model prog w) A (compareOp .NotEq (.str x t) (.str y u)) Q E s := PyProof.Rows.ne_str (by subst h; simpa [bne] using hq)
/-- the marks behind an operator -/
inductive MkAt (s : Shared) (op : List Nat) : Value → Shared → Prop
  | mk (x : Str) (t : Tok) (tk : Nat) (e : x = S (marks op)) : MkAt s op (.str x t) { s with toks := tk }
theorem ops_marks : ∀ op ∈ ops, ∀ b1 b2, (S [op.getLast?.getD 0] == Str.ofString "=") = b1 → (S op == Str.ofString "==") = b2 → parts op = (b1 && !b2) := by
  have : ∀ op ∈ ops, parts op = ((S [op.getLast?.getD 0] == Str.ofString "=") && !(S op == Str.ofString "==")) := by decide
  intro op ho b1 b2 h1 h2
  rw [this op ho, h1, h2]
theorem marks_yes {op : List Nat} {b1 b2 : Bool} (h : parts op = (b1 && !b2)) (e : (b1 && !b2) = true) : Str.ofString "\"\"" = S (marks op) := by unfold marks; rw [h, e]; decide
theorem marks_no {op : List Nat} {b1 b2 : Bool} (h : parts op = (b1 && !b2)) (e : (b1 && !b2) = false) : Str.ofString "\"" = S (marks op) := by unfold marks; rw [h, e]; decide
theorem cut_marks {M : Model} {T : Sem Value} {op : List Nat} (ho : op ∈ ops) (pre : ∀ b1 b2, (S [op.getLast?.getD 0] == Str.ofString "=") = b1 → (S op == Str.ofString "==") = b2 → parts op = (b1 && !b2) → wpAny M A T (MkAt s op) E s)
    (post : ∀ t tk, Q (.str (S (marks op)) t) { s with toks := tk }) : wpAny M A T Q E s :=
  wpAny_mono (pre _ _ rfl rfl (ops_marks op ho _ _ rfl rfl)) (fun v s' h => by cases h with | mk l t tk e => rw [e]; exact post t tk) fun _ _ e => e
/-- whether the operator ends in = and isn't == -/
inductive PtAt (s : Shared) (op : List Nat) : Value → Shared → Prop
  | mk (b : Bool) (tk : Nat) (e : b = parts op) : PtAt s op (.bool b) { s with toks := tk }
theorem cut_parts {M : Model} {T : Sem Value} {op : List Nat} (ho : op ∈ ops) (pre : ∀ b1 b2, (S [op.getLast?.getD 0] == Str.ofString "=") = b1 → (S op == Str.ofString "==") = b2 → parts op = (b1 && !b2) → wpAny M A T (PtAt s op) E s)
    (post : ∀ b tk, b = parts op → Q (.bool b) { s with toks := tk }) : wpAny M A T Q E s :=
  wpAny_mono (pre _ _ rfl rfl (ops_marks op ho _ _ rfl rfl)) (fun v s' h => by cases h with | mk b tk e => exact post b tk e) fun _ _ e => e
end
end Mine

namespace Mine
section
variable {prog : Program} {w : World} {A : Around} {E : Value → Shared → Prop} {s : Shared} {h₀ : Heap} {env : Env} {target : Expr} {body : List Stmt} {Q : Flow → Shared → Prop}
theorem allObj_mono : ∀ {ws : List (Addr × String)} {k k' : List (Addr × Obj) → Prop}, AllObj ws k → (∀ its, Objs ws its → k its → k' its) → AllObj ws k'
  | [], _, _, h, f => f [] trivial h
  | _ :: _, _, _, h, f => fun o ho => allObj_mono (h o ho) fun its hi hk => f _ ⟨⟨rfl, ho⟩, hi⟩ hk
theorem unrPost_mono {L : Addr} {s₁ : Shared} {its : List (Addr × Obj)} {r r' : (Str → Option Value) → List (Addr × Obj) → Prop} {f : Flow} {s₂ : Shared} (hr : ∀ m n, r m n → r' m n) (h : UnrPostW h₀ L s₁ its r Q f s₂) : UnrPostW h₀ L s₁ its r' Q f s₂ := by
  have e : UnrEndW h₀ L s₁ its r s₂ → UnrEndW h₀ L s₁ its r' s₂ := fun ⟨h', tk, m', n', a, b, c, d, e⟩ => ⟨h', tk, m', n', a, b, c, d, hr _ _ e⟩
  cases f with
  | ret v => exact h
  | brk => exact h
  | next => exact e h
  | cont => exact e h
/-- a loop over written items, by what holds between its turns -/
theorem items_inv {ws : List (Addr × String)} {keep : List (Addr × Obj)} {xs : List Itm} (J : Nat → (Str → Option Value) → List (Addr × Obj) → Prop)
    (turn : ∀ i a m news v h tk, xs[i]? = some a → J i m news → a.Is v h → Fr h₀ env.locals h m → AllObj ws (fun its => News h₀ env.locals h (its ++ news) →
      wpAny (model prog w) A (assign target env v) (fun _ s₂ => wpAny (model prog w) A (execs body env) (UnrPostW h₀ env.locals { s with heap := h, toks := tk } its (fun m' n' => SubL keep n' ∧ J (i + 1) m' n') Q) E s₂) E { s with heap := h, toks := tk }))
    (done : ∀ m news h tk, J xs.length m news → Fr h₀ env.locals h m → News h₀ env.locals h news → Q .next { s with heap := h, toks := tk }) :
    ∀ n i m news, i + n = xs.length → J i m news → ItemsRest prog w A E h₀ env target body Q s ws keep (xs.drop i) m news := by
  intro n
  induction n with
  | zero =>
    intro i m news hi hj
    have e : i = xs.length := by omega
    subst e
    rw [List.drop_length]
    exact ItemsRest.zero fun h tk F N => done _ _ h tk hj F N
  | succ n ih =>
    intro i m news hi hj
    have hlt : i < xs.length := by omega
    rw [List.drop_eq_getElem_cons hlt]
    intro v h tk ha F
    refine allObj_mono (turn i _ m news v h tk (List.getElem?_eq_getElem hlt) hj ha F) fun its _ hk N => ?_
    refine wpAny_mono (hk N) (fun _ s₂ h₂ => wpAny_mono h₂ (fun f s₃ h₃ => ?_) fun _ _ e => e) fun _ _ e => e
    exact unrPost_mono (fun m' n' h' => ⟨h'.1, ih (i + 1) m' n' (by omega) h'.2⟩) h₃
end
/-- the menu -/
def menuL : List Nat := [97, 66, 61, 34, 92, 32, 59, 44, 9, 60, 42, 40, 61, 34, 92, 46]
def mnu (k : Int) : Nat := menuL.getD (k.fmod 16).toNat 0
theorem mnu_alpha (k : Int) : mnu k ∈ alpha := by
  have h0 := Int.fmod_nonneg_of_pos k (b := 16) (by decide)
  have h1 := Int.fmod_lt_of_pos k (b := 16) (by decide)
  unfold mnu
  have : ∀ j, j < 16 → menuL.getD j 0 ∈ alpha := by decide
  exact this _ (by omega)
theorem pick_len (ns : List Int) {j : Int} (h0 : 0 ≤ j) : (pickNums ns (some j) (some 15) (some 3)).length ≤ 5 := by
  have hr : ∀ a b : Int, 0 ≤ a → b ≤ 15 → (sliceRange a b 3).length ≤ 5 := by
    intro a b ha hb
    unfold sliceRange
    simp only [List.length_map]
    split
    · split
      · rw [List.length_range]; omega
      · simp
    · rename_i h; exact absurd (by decide) h
  unfold pickNums
  refine Nat.le_trans (List.length_filterMap_le _ _) ?_
  unfold sliceBounds
  simp only [Option.getD_some, show (3 : Int) > 0 by decide, if_true]
  refine hr _ _ ?_ ?_
  · omega
  · omega
theorem ops_len : ∀ op ∈ ops, op.length ≤ 3 ∧ (marks op).length ≤ 2 := by decide
theorem mnu_item (k : Int) : Txt.item (Str.ofString "aB=\"\\ ;,\t<*(=\"\\.") (k.fmod 16) = S [mnu k] := by
  have h0 := Int.fmod_nonneg_of_pos k (b := 16) (by decide)
  have h1 := Int.fmod_lt_of_pos k (b := 16) (by decide)
  unfold mnu
  have : ∀ j : Fin 16, Txt.item (Str.ofString "aB=\"\\ ;,\t<*(=\"\\.") ((j.val : Nat) : Int) = S [menuL.getD j.val 0] := by decide
  have h := this ⟨(k.fmod 16).toNat, by omega⟩
  have e : (((k.fmod 16).toNat : Nat) : Int) = k.fmod 16 := by omega
  rw [← h]
  show _ = Txt.item _ ((((k.fmod 16).toNat : Nat)) : Int)
  rw [e]
section
variable {prog : Program} {w : World} {A : Around} {E : Value → Shared → Prop} {s : Shared} {h₀ : Heap} {L : Addr} {m : Str → Option Value} {news : List (Addr × Obj)} {Q : Value → Shared → Prop}
/-- one of three written ints -/
theorem three_pick {value slice : Expr} {l : Addr} {a b c j : Int} {ta tb tc u : Tok} {n : Nat} (N : News h₀ L s.heap news) (hm : (l, listOf #[.int a ta, .int b tb, .int c tc] n) ∈ news) (h0 : 0 ≤ j) (h1 : j < 3) (h : ∀ z t, Q (.int z t) s)
    (hs : subscripted slice false (.ref l) (.int j u) = operate [.ref l, .int j u] (getItem (.ref l) (.int j u)) := by with_unfolding_all rfl) :
    wpAny (model prog w) A (subscriptTail value slice (.ref l) (.int j u)) Q E s :=
  item_list_intsR (vs := [.int a ta, .int b tb, .int c tc]) (ns := [a, b, c]) (News.isList N hm) (.cons _ _ (.cons _ _ (.cons _ _ .nil))) h0 (by simpa using h1) (by omega) (fun t => h _ t) hs
/-- signs picked from the menu, one for each number -/
theorem comp_menu {elt iter : Expr} {x : Str} {px : Pos} {scope : Scope} {cl : List (Str × Addr)} {pos : Pos} {env : Env} (F₀ : Fr h₀ L s.heap m)
    (hclos : closureFor scope env = pure cl) (hcell : ∀ y ∈ scope.names, y.2 ≠ .cell) (hkind : scope.kind = .function)
    (hnames : ∀ y ∈ scope.names, y.2 = .local → scope.names.lookup y.1 = some .local) (hx : scope.names.lookup x = some .local)
    (h : wpAny (model prog w) A (eval iter env) (fun xv s₁ => ∃ ax its k news ns, xv = .ref ax ∧ A.handled = none ∧ Fr h₀ L s₁.heap m ∧ News h₀ L s₁.heap ((ax, listOf its k) :: news) ∧ IntsAre its.toList ns ∧ ns.length ≤ 60 ∧
      (∀ k t C oC m₂ s₃ E', LCg.NsObj oC m₂ → m₂ x = some (.int k t) → Fr h₀ L s₃.heap m → News h₀ L s₃.heap ((C, oC) :: news) →
        wpAny (model prog w) A (eval elt (compEnvC scope cl C env)) (fun y s₄ => ∃ u tk, y = .str (S [mnu k]) u ∧ s₄ = { s₃ with toks := tk }) E' s₃) ∧
      (∀ D ys n h' tk, Fr h₀ L h' m → News h₀ L h' ((D, listOf (List.toArray ys) n) :: news) → (∀ q ∈ news, q.1 ≠ D) → StrsAre ys (ns.map fun k => S [mnu k]) → Q (.ref D) { s₁ with heap := h', toks := tk })) E s)
    (hs : ∀ x, foldedSetIterable iter env x = pure x) :
    wpAny (model prog w) A (eval (.ListComp elt [⟨.Name x px, iter, [], 0⟩] scope pos) env) Q E s := by
  refine LCg.ListComp_U F₀ hclos hcell hkind hnames hx (wpAny_mono h (fun xv s₁ h₁ => ?_) fun _ _ e => e) hs
  obtain ⟨ax, its, k, news, ns, rfl, hh, F, N, hi, hl, turn, fin⟩ := h₁
  have hsz : its.size = ns.length := by have := hi.length; simpa using this
  refine LCg.CompSrc.ledger (k := k) hh F N (.head _) (by rw [hsz, sizeLine_eq]; omega) fun g => ?_
  rw [hsz]
  refine kct_rest (n := ns.length) (fun k => S [mnu k]) rfl (fun i v hi' hv => ?_) ?_ ?_
  · obtain ⟨k, t, e, hk⟩ := IntsAre.at hi i v (by simpa using hv)
    exact ⟨k, t, hk, e⟩
  · intro k t I oI C oC D m₂ ys h tk E' hk hC hx' F' N' off ne _
    have N2 : News h₀ L h ((C, oC) :: news) := fun q hq => N' q (by
      rcases List.mem_cons.mp hq with rfl | hq
      · exact .tail _ (.head _)
      · exact .tail _ (.tail _ (.tail _ (.tail _ hq))))
    refine wpAny_mono (turn k t C oC m₂ { s₁ with heap := h, toks := tk } E' hC hx' F' N2) (fun y s₄ h₄ => ?_) fun _ _ e => e
    · obtain ⟨u, tk', rfl, rfl⟩ := h₄
      exact LCg.CompEnd.intro F' N' _ (fun _ hp => hp) off (.inr ⟨_, .head _, rfl, _, rfl⟩) ⟨rfl, u, rfl⟩
  · unfold KPfDone
    intro ys hc hn D h tk F' N' off
    have N3 : News h₀ L h ((D, listOf ys.toArray ys.length) :: news) := fun q hq => N' q (by
      rcases List.mem_cons.mp hq with rfl | hq
      · exact .head _
      · exact .tail _ (.tail _ hq))
    refine fin D ys _ h tk F' N3 (fun q hq => ?_) ?_
    · have off1 : ∀ {l : List (Addr × Obj)}, LCg.Off1 D l → ∀ p ∈ l, p.1 ≠ D := by
        intro l
        induction l with
        | nil => intro _ p hp; exact (List.not_mem_nil hp).elim
        | cons a l ih =>
          intro ho p hp
          rcases List.mem_cons.mp hp with rfl | hp
          · exact ho.1
          · exact ih ho.2 p hp
      exact off1 off q (.tail _ hq)
    · refine StrsAre.of_carried ?_
      rw [List.map_map]; exact hc
/-- the signs joined -/
theorem join_menu {D : Addr} {ys : List Value} {n : Nat} {ns : List Int} {t : Tok} (N : News h₀ L s.heap news) (hm : (D, listOf ys.toArray n) ∈ news) (hi : StrsAre ys (ns.map fun k => S [mnu k])) (hl : ns.length ≤ 60)
    (h : ∀ t' tk, Q (.str (S (ns.map mnu)) t') { s with toks := tk }) : wpAny (model prog w) A (call (.builtin "str.join") [.str (Str.ofString "") t, .ref D]) Q E s := by
  have hsum : ∀ l : List Int, ((l.map fun k => S [mnu k]).map (·.length)).sum = l.length := by
    intro l
    induction l with
    | nil => rfl
    | cons a l ih => simp only [List.map_cons, List.sum_cons, List.length_cons]; simp only [List.map_map] at ih ⊢; rw [ih]; simp [Str.length]; omega
  refine join_listW (items := ys.toArray) (News.isList N hm) (by simpa using hi) (by decide) (by rw [hsum, List.length_map]; omega) ?_
  intro t' tk
  have e : Txt.join (Str.ofString "") (ns.map fun k => S [mnu k]) = S (ns.map mnu) := by
    show Builtin.Str.glued (Str.ofString "") _ = _
    rw [StrLaws.glued_eq_join]
    have e1 : (Str.ofString "") = ⟨#[]⟩ := by decide
    have e2 : (ns.map fun k => S [mnu k]) = (ns.map mnu).map fun k => (⟨#[k]⟩ : Str) := by rw [List.map_map]; rfl
    rw [e1, e2]
    exact join_ones _
  rw [e]; exact h t' tk
end
section
variable {prog : Program} {w : World} {A : Around} {E : Value → Shared → Prop} {s : Shared} {h₀ : Heap} {env : Env} {target : Expr} {body : List Stmt} {Q : Flow → Shared → Prop}
theorem items_inv0 {ws : List (Addr × String)} {keep : List (Addr × Obj)} {xs : List Itm} {m : Str → Option Value} {news : List (Addr × Obj)} (J : Nat → (Str → Option Value) → List (Addr × Obj) → Prop) (hj : J 0 m news)
    (turn : ∀ i a m news v h tk, xs[i]? = some a → J i m news → a.Is v h → Fr h₀ env.locals h m → AllObj ws (fun its => News h₀ env.locals h (its ++ news) →
      wpAny (model prog w) A (assign target env v) (fun _ s₂ => wpAny (model prog w) A (execs body env) (UnrPostW h₀ env.locals { s with heap := h, toks := tk } its (fun m' n' => SubL keep n' ∧ J (i + 1) m' n') Q) E s₂) E { s with heap := h, toks := tk }))
    (done : ∀ m news h tk, J xs.length m news → Fr h₀ env.locals h m → News h₀ env.locals h news → Q .next { s with heap := h, toks := tk }) :
    ItemsRest prog w A E h₀ env target body Q s ws keep xs m news := items_inv J turn done xs.length 0 m news (by omega) hj
end
/-- what holds between the turns of the law's loop -/
def LJ (Dt Dr Dd : Addr) (base : List (Addr × Obj)) (i : Nat) (m : Str → Option Value) (news : List (Addr × Obj)) : Prop :=
  ∃ nt vt ts, m (Str.ofString "texts") = some (.ref Dt) ∧ m (Str.ofString "row") = some (.ref Dr) ∧ m (Str.ofString "drawn") = some (.ref Dd) ∧ news = (Dt, listOf (List.toArray vt) nt) :: base ∧ Texts vt ts ∧ ts.length = i ∧ ∀ t ∈ ts, Good t ∧ t.length ≤ 20
def Begun (a : Itm) : Prop := ∃ (j : Int) (bg : List Nat) (tkb : Tok), a = .pair (fun t => Value.int j t) (.str (S bg) tkb) ∧ 0 ≤ j ∧ j < 3 ∧ (∀ c ∈ bg, c ∈ alpha) ∧ bg.length ≤ 5
theorem begun_of {t0 t1 t2 : Tok} {i : Nat} {a : Itm} (h : ([Itm.pair (fun t => Value.int 0 t) (.str (Str.ofString "A=\"B\\") t0), Itm.pair (fun t => Value.int 1 t) (.str (Str.ofString "b\t= ") t1), Itm.pair (fun t => Value.int 2 t) (.str (Str.ofString ";a ") t2)] : List Itm)[i]? = some a) : Begun a := by
  have e0 : Str.ofString "A=\"B\\" = S [65, 61, 34, 66, 92] := by decide
  have e1 : Str.ofString "b\t= " = S [98, 9, 61, 32] := by decide
  have e2 : Str.ofString ";a " = S [59, 97, 32] := by decide
  rw [e0, e1, e2] at h
  match i, h with
  | 0, h => exact ⟨0, _, _, (Option.some.inj h).symm, by decide, by decide, by decide, by decide⟩
  | 1, h => exact ⟨1, _, _, (Option.some.inj h).symm, by decide, by decide, by decide, by decide⟩
  | 2, h => exact ⟨2, _, _, (Option.some.inj h).symm, by decide, by decide, by decide, by decide⟩
  | i + 3, h => simp at h
theorem texts_snoc {vs : List Value} {ts : List (List Nat)} (h : Texts vs ts) (t : List Nat) (tk : Tok) : Texts (vs ++ [.str (S t) tk]) (ts ++ [t]) := by
  induction h with
  | nil => exact .cons .nil
  | cons _ ih => exact .cons ih
section
variable {prog : Program} {w : World} {A : Around} {E : Value → Shared → Prop} {s : Shared} {h₀ : Heap} {env : Env} {target : Expr} {body : List Stmt} {Q : Flow → Shared → Prop}
theorem items_law {ws : List (Addr × String)} {keep : List (Addr × Obj)} {xs : List Itm} {m : Str → Option Value} {Db Dt Dr Dd : Addr} {lb lro ldo : Obj} {rest : List (Addr × Obj)} (h1 : m (Str.ofString "texts") = some (.ref Dt)) (h2 : m (Str.ofString "row") = some (.ref Dr)) (h3 : m (Str.ofString "drawn") = some (.ref Dd))
    (turn : ∀ i a m news v h tk, xs[i]? = some a → LJ Dt Dr Dd ((Db, lb) :: (Dr, lro) :: (Dd, ldo) :: rest) i m news → a.Is v h → Fr h₀ env.locals h m → AllObj ws (fun its => News h₀ env.locals h (its ++ news) →
      wpAny (model prog w) A (assign target env v) (fun _ s₂ => wpAny (model prog w) A (execs body env) (UnrPostW h₀ env.locals { s with heap := h, toks := tk } its (fun m' n' => SubL keep n' ∧ LJ Dt Dr Dd ((Db, lb) :: (Dr, lro) :: (Dd, ldo) :: rest) (i + 1) m' n') Q) E s₂) E { s with heap := h, toks := tk }))
    (done : ∀ m news h tk, LJ Dt Dr Dd ((Db, lb) :: (Dr, lro) :: (Dd, ldo) :: rest) xs.length m news → Fr h₀ env.locals h m → News h₀ env.locals h news → Q .next { s with heap := h, toks := tk }) :
    ItemsRest prog w A E h₀ env target body Q s ws keep xs m ((Db, lb) :: (Dt, listOf #[] 0) :: (Dr, lro) :: (Dd, ldo) :: rest) := by
  refine items_inv0 (fun i m' n' => LJ Dt Dr Dd ((Db, lb) :: (Dr, lro) :: (Dd, ldo) :: rest) i m' n' ∨ (i = 0 ∧ n' = (Db, lb) :: (Dt, listOf #[] 0) :: (Dr, lro) :: (Dd, ldo) :: rest ∧ m' = m)) (.inr ⟨rfl, rfl, rfl⟩) ?_ ?_
  · intro i a m' n' v h tk hx hj hv F
    have hj' : ∃ n₂, LJ Dt Dr Dd ((Db, lb) :: (Dr, lro) :: (Dd, ldo) :: rest) i m' n₂ ∧ ∀ q, q ∈ n' ↔ q ∈ n₂ := by
      rcases hj with hj | ⟨rfl, rfl, rfl⟩
      · exact ⟨_, hj, fun _ => Iff.rfl⟩
      · refine ⟨_, ⟨0, [], [], h1, h2, h3, rfl, .nil, rfl, fun _ h => (List.not_mem_nil h).elim⟩, fun q => ?_⟩
        simp only [List.mem_cons]
        constructor
        · rintro (h | h | h)
          · exact .inr (.inl h)
          · exact .inl h
          · exact .inr (.inr h)
        · rintro (h | h | h)
          · exact .inr (.inl h)
          · exact .inl h
          · exact .inr (.inr h)
    obtain ⟨n₂, hj₂, hq⟩ := hj'
    refine allObj_mono (turn i a m' n₂ v h tk hx hj₂ hv F) fun its _ hk N => ?_
    refine wpAny_mono (hk fun q hm => N q ?_) (fun _ s₂ h₂ => wpAny_mono h₂ (fun f s₃ h₃ => unrPost_mono (fun m' n' h' => ⟨h'.1, .inl h'.2⟩) h₃) fun _ _ e => e) fun _ _ e => e
    rcases List.mem_append.mp hm with hm | hm
    · exact List.mem_append_left _ hm
    · exact List.mem_append_right _ ((hq q).mpr hm)
  · intro m' n' h tk hj F N
    rcases hj with hj | ⟨e, rfl, rfl⟩
    · exact done m' n' h tk hj F N
    · refine done m' ((Dt, listOf #[] 0) :: (Db, lb) :: (Dr, lro) :: (Dd, ldo) :: rest) h tk ?_ F fun q hq => N q ?_
      · rw [e]; exact ⟨0, [], [], h1, h2, h3, rfl, .nil, rfl, fun _ h => (List.not_mem_nil h).elim⟩
      · simp only [List.mem_cons] at hq ⊢
        rcases hq with h | h | h
        · exact .inr (.inl h)
        · exact .inl h
        · exact .inr (.inr h)
end
def NeL (D : Addr) : List (Addr × Obj) → Prop
  | [] => True
  | p :: r => p.1 ≠ D ∧ NeL D r
theorem NeL.mem {D : Addr} : ∀ {l : List (Addr × Obj)}, NeL D l → ∀ p ∈ l, p.1 ≠ D
  | [], _, _, h => nomatch h
  | _ :: _, x, p, h => by
    rcases List.mem_cons.mp h with rfl | h
    · exact x.1
    · exact NeL.mem x.2 p h
theorem turn_end {g h' : Heap} {L Dt : Addr} {X : Obj} {its base news6 : List (Addr × Obj)} (N9 : ∀ nw : List (Addr × Obj), (∀ q ∈ nw, q ∈ news6 ∧ q.1 ≠ Dt) → News g L h' ((Dt, X) :: nw)) (hs1 : SubL its news6) (hs2 : SubL base news6) (hn1 : NeL Dt its) (hn2 : NeL Dt base) : News g L h' (its ++ (Dt, X) :: base) := fun q hq => by
  refine N9 (its ++ base) (fun q hq => ?_) q ?_
  · rcases List.mem_append.mp hq with hq | hq
    · exact ⟨hs1.mem q hq, hn1.mem q hq⟩
    · exact ⟨hs2.mem q hq, hn2.mem q hq⟩
  · rcases List.mem_append.mp hq with hq | hq
    · exact .tail _ (List.mem_append_left _ hq)
    · rcases List.mem_cons.mp hq with rfl | hq
      · exact .head _
      · exact .tail _ (List.mem_append_right _ hq)
theorem off_of {I1 I2 : Addr × Obj} {news : List (Addr × Obj)} (h1 : NeL I1.1 news) (h2 : NeL I2.1 news) : ∀ p ∈ news, ∀ q ∈ [I1, I2], p.1 ≠ q.1 := fun p hp q hq => by
  rcases List.mem_cons.mp hq with rfl | hq
  · exact h1.mem p hp
  · rw [List.mem_singleton.mp hq]; exact h2.mem p hp
theorem law_end {h₀ h' : Heap} {L Dt Dr Dd : Addr} {its keep base : List (Addr × Obj)} {m' : Str → Option Value} {s₁ : Shared} {i nt tk : Nat} {vt : List Value} {ts : List (List Nat)} (F : Fr h₀ L h' m')
    (h1 : m' (Str.ofString "texts") = some (.ref Dt)) (h2 : m' (Str.ofString "row") = some (.ref Dr)) (h3 : m' (Str.ofString "drawn") = some (.ref Dd)) (N : News h₀ L h' (its ++ (Dt, listOf vt.toArray nt) :: base)) (hT : Texts vt ts) (hl : ts.length = i + 1) (hG : ∀ t ∈ ts, Good t ∧ t.length ≤ 20)
    (off : ∀ p ∈ (Dt, listOf vt.toArray nt) :: base, ∀ q ∈ its, p.1 ≠ q.1) (sub : SubL keep ((Dt, listOf vt.toArray nt) :: base)) :
    UnrEndW h₀ L s₁ its (fun m' n' => SubL keep n' ∧ LJ Dt Dr Dd base (i + 1) m' n') { s₁ with heap := h', toks := tk } :=
  ⟨h', tk, m', (Dt, listOf vt.toArray nt) :: base, rfl, F, N, off, sub, nt, vt, ts, h1, h2, h3, rfl, hT, hl, hG⟩
end Mine

namespace Mine
theorem texts_snoc0 {vs : List Value} {ts : List (List Nat)} (h : Texts vs ts) (tk : Tok) : Texts (vs ++ [.str (Str.ofString "") tk]) (ts ++ [[]]) := by
  have e : Str.ofString "" = S [] := by decide
  rw [e]; exact texts_snoc h [] tk
def glue4 (a b c d : List Nat) : List Nat := a ++ 44 :: (b ++ 44 :: (c ++ 44 :: d))
theorem three_of {ts : List (List Nat)} {xs : List Itm} (h : ts.length = xs.length) (h3 : xs.length = 3) : ∃ a b c, ts = [a, b, c] := by
  rw [h3] at h
  match ts, h with
  | [a, b, c], _ => exact ⟨a, b, c, rfl⟩
section
variable {prog : Program} {w : World} {A : Around} {E : Value → Shared → Prop} {s : Shared} {h₀ : Heap} {L : Addr} {m : Str → Option Value} {news : List (Addr × Obj)} {Q : Value → Shared → Prop}
theorem join_comma {D : Addr} {vs : List Value} {n : Nat} {a b c d : List Nat} {t : Tok} (N : News h₀ L s.heap news) (hm : (D, listOf vs.toArray n) ∈ news) (hT : Texts vs [a, b, c, d]) (hl : ∀ t ∈ [a, b, c, d], t.length ≤ 20)
    (h : ∀ t' tk, Q (.str (S (glue4 a b c d)) t') { s with toks := tk }) : wpAny (model prog w) A (call (.builtin "str.join") [.str (Str.ofString ",") t, .ref D]) Q E s := by
  have la := hl a (.head _)
  have lb := hl b (.tail _ (.head _))
  have lc := hl c (.tail _ (.tail _ (.head _)))
  have ld := hl d (.tail _ (.tail _ (.tail _ (.head _))))
  refine join_listW (items := vs.toArray) (ys := [S a, S b, S c, S d]) (News.isList N hm) (by simpa using hT.strs) (by decide) ?_ ?_
  · have := S_len a; have := S_len b; have := S_len c; have := S_len d
    simp only [List.map_cons, List.map_nil, List.sum_cons, List.sum_nil, List.length_cons, List.length_nil]
    omega
  · intro t' tk
    have e : Txt.join (Str.ofString ",") [S a, S b, S c, S d] = S (glue4 a b c d) := by
      show Builtin.Str.glued (Str.ofString ",") _ = _
      rw [StrLaws.glued_eq_join]
      have e1 : (Str.ofString ",") = S [44] := by decide
      rw [e1, join_cons_cons, join_cons_cons, join_cons_cons, join_one]
      show Str.append (Str.append _ _) (Str.append (Str.append _ _) (Str.append (Str.append _ _) _)) = _
      simp [Str.append, glue4]
    rw [e]; exact h t' tk
theorem addS' {x y : List Nat} {X Y : Str} {t u : Tok} (ex : X = S x) (ey : Y = S y) (hx : x.length ≤ 1000) (hy : y.length ≤ 1000) (h : ∀ t' tk, Q (.str (S (x ++ y)) t') { s with toks := tk }) : wpAny (model prog w) A (binaryOp .Add (.str X t) (.str Y u)) Q E s := by
  subst ex ey; exact addS hx hy h
end
section
variable {prog : Program} {w : World} {A : Around} {E : Value → Shared → Prop} {s : Shared} {Q : Value → Shared → Prop} {y : List Nat} {X Y : Str} {t u : Tok}
theorem addA (ex : X = S [97]) (ey : Y = S y) (hy : y.length ≤ 5) (h : ∀ t' tk, Q (.str (S (97 :: y)) t') { s with toks := tk }) : wpAny (model prog w) A (binaryOp .Add (.str X t) (.str Y u)) Q E s := by
  subst ex ey; exact addS (x := [97]) (by decide) (by omega) h
theorem addQ (ey : Y = S [34]) (hy : y.length ≤ 5) (h : ∀ t' tk, Q (.str (S (fst2 y)) t') { s with toks := tk }) : wpAny (model prog w) A (binaryOp .Add (.str (S (97 :: y)) t) (.str Y u)) Q E s := by
  subst ey; exact addS (x := 97 :: y) (by rw [List.length_cons]; omega) (by decide) h
end
theorem first_no {op : List Nat} {n : List (Addr × Obj)} {v : List Value} {A B : List (List Pr)} (h : false = parts op) (D : DatAll n v ((if parts op then A else B).map lsDat)) : DatAll n v (B.map lsDat) := by
  rw [← h, if_neg Bool.false_ne_true] at D; exact D
theorem first_yes {op : List Nat} {n : List (Addr × Obj)} {v : List Value} {A B : List (List Pr)} (h : true = parts op) (D : DatAll n v ((if parts op then A else B).map lsDat)) : DatAll n v (A.map lsDat) := by
  rw [← h, if_pos rfl] at D; exact D
theorem joined_len : ∀ op ∈ ops, (fst2 op ++ 44 :: bc).length ≤ 200 := by decide
theorem fst2_len : ∀ op ∈ ops, (fst2 op).length ≤ 5 := by decide
theorem drop_len : ∀ op ∈ ops, op.dropLast.length ≤ 5 := by decide
theorem drop2 {g h : Heap} {L : Addr} {a b : Addr × Obj} {base : List (Addr × Obj)} (N : News g L h (a :: b :: base)) : News g L h (a :: base) := fun q hq => N q (by
  rcases List.mem_cons.mp hq with rfl | hq
  · exact .head _
  · exact .tail _ (.tail _ hq))
theorem two_texts {l : List Nat} {t u : Tok} : Texts [.str (S l) t, .str (Str.ofString "b=\"c\"") u] [l, bc] := by
  have e : Str.ofString "b=\"c\"" = S bc := by decide
  rw [e]; exact .cons (.cons .nil)
theorem fst2_lens {op : List Nat} (h : op ∈ ops) : ∀ t ∈ [fst2 op, bc], t.length ≤ 200 := fun t ht => by
  rcases List.mem_cons.mp ht with rfl | ht
  · exact Nat.le_trans (fst2_len op h) (by decide)
  · rw [List.mem_singleton.mp ht]; decide
theorem glue_good {a b c : List Nat} (ga : Good a) (gb : Good b) (gc : Good c) : Good (glue4 a b c []) := good_comma ga (good_comma gb (good_comma gc nil_good))
theorem glue_len {a b c : List Nat} (la : a.length ≤ 20) (lb : b.length ≤ 20) (lc : c.length ≤ 20) : (glue4 a b c []).length ≤ 100 := by
  unfold glue4
  simp only [List.length_append, List.length_cons, List.length_nil]
  omega
theorem symInts_length (l : List Nat) : (symInts l).length = l.length + 1 := by unfold symInts; simp
theorem TabOk.mono {a b : List (Addr × Obj)} {tab : Array Value} {p : Pos} {q : Str} (h : TabOk a tab p q) (hs : ∀ x ∈ a, x ∈ b) : TabOk b tab p q := by
  rcases h with h | ⟨c', oc, vs, t, h1, h2, h3⟩
  · exact .inl h
  · exact .inr ⟨c', oc, vs, t, h1, hs _ h2, h3⟩
/-- the call of _law_read upon the symbols of a text -/
theorem rd_w {w : World} {p : Program} {loose : List Str} {mean : ExcName → Option Value} {mg mb : Str → Option Value}
  {dp un : Nat} {gd : Option (List Code)} {cn : Str} {cs : Scope} {a : Addr} {ccd : Value} {cl : List (Str × Addr)} {outer : List Env} {A₀ : Around} {base h₀ : Heap} {L : Addr} {m : Str → Option Value} {news : List (Addr × Obj)} {s : Shared} {sy rw : Addr} {vs ws : List Value} {nw : Nat}
    {Q E : Value → Shared → Prop} {tab : Array Value} {l : List Nat}
    (B : Below A₀ base outer h₀) (F : Fr h₀ L s.heap m) (X : (hd.heap_39 w.params).In h₀) (N : News h₀ L s.heap ((sy, listOf vs.toArray 0) :: (65, tabObj tab) :: news)) (h65 : ∀ q ∈ news, q.1 ≠ 65) (hTab : TabOk news tab lamPos lamQual) (hs65 : 65 < sy) (T : Top p loose mean mg mb h₀) (hk : cs.kind = .function)
    (hdp : dp + 5 < recursionLimit) (hu : un + 100 < cLine) (hrw : (rw, listOf ws.toArray nw) ∈ news) (hRow : RowAt ws) (hI : IntsAre vs (symInts l)) (hal : ∀ c ∈ l, c ∈ alpha) (hl : l.length ≤ 200)
    (ret : ∀ r vr nr rest h' tk', Fr h₀ L h' m → News h₀ L h' ((65, tabObj tab) :: (r, listOf (List.toArray vr) nr) :: (news ++ rest)) → (∀ q ∈ (r, listOf (List.toArray vr) nr) :: (news ++ rest), q.1 ≠ 65) → TabOk ((r, listOf (List.toArray vr) nr) :: (news ++ rest)) tab lamPos lamQual → DatAll rest vr ((fin (go M0 l)).ls.map lsDat) → Q (.ref r) { s with heap := h', toks := tk' }) :
    wpAny (model Challenge.rw_rs0138_01.row.prog w) (ktrTop dp un gd cn cs L a ccd cl outer) (call (.ref 106) [.ref sy, .ref rw]) Q E s := by
  have hvl : vs.length = l.length + 1 := by have h9 := hI.length; rw [symInts_length] at h9; omega
  have hwl : ws.length = 48 := by rw [StrsAre.len_eq hRow, List.length_map]; decide
  refine rd (tab := tab) (news := (sy, listOf vs.toArray 0) :: news) (run := runOf l) B F X (fun q hq => N q ?_) (fun q hq => ?_) T hk hdp hu (.head _) (.tail _ hrw) (by omega) (by omega) (runOf_zero l) (read_runs hal hRow hI) ?_
  · simp only [List.mem_cons] at hq ⊢
    rcases hq with h | h | h
    · exact .inr (.inl h)
    · exact .inl h
    · exact .inr (.inr h)
  · rcases List.mem_cons.mp hq with rfl | hq
    · exact Nat.ne_of_gt hs65
    · exact h65 q hq
  · intro r vr nr rest h' tk' F' N' hsub hsep hr65 hD
    rw [hvl, runOf_last] at hD
    refine ret r vr nr rest h' tk' F' (fun q hq => N' q ?_) (fun q hq => ?_) (hTab.mono fun q hq => .tail _ (List.mem_append_left _ hq)) hD
    · simp only [List.mem_cons, List.mem_append] at hq ⊢
      rcases hq with h | h | h | h
      · exact .inr (.inl h)
      · exact .inl h
      · exact .inr (.inr (hsub q (.tail _ h)))
      · exact .inr (.inr h)
    · rcases List.mem_cons.mp hq with rfl | hq
      · exact hr65
      rcases List.mem_append.mp hq with hq | hq
      · exact h65 q hq
      · exact (hsep q hq).2
/-- the call of split_header_words -/
theorem spl_w {w : World} {p : Program} {loose : List Str} {mean : ExcName → Option Value} {mg mb : Str → Option Value}
  {dp un : Nat} {gd : Option (List Code)} {cn : Str} {cs : Scope} {a : Addr} {ccd : Value} {cl : List (Str × Addr)} {outer : List Env} {A₀ : Around} {base h₀ : Heap} {L : Addr} {m : Str → Option Value} {news : List (Addr × Obj)} {s : Shared} {hv : Addr} {vs : List Value} {nv : Nat} {tab : Array Value} {ts : List (List Nat)} {rsE : List (List Pr)}
    {Q E : Value → Shared → Prop} 
    (B : Below A₀ base outer h₀) (F : Fr h₀ L s.heap m) (X : (hd.heap_39 w.params).In h₀) (N : News h₀ L s.heap ((65, tabObj tab) :: news)) (h65 : ∀ q ∈ news, q.1 ≠ 65) (hTab : TabOk news tab lamPos lamQual) (hCH : CodeHd h₀ 69 65) (T : Top p loose mean mg mb h₀) (hk : cs.kind = .function)
    (hdp : dp + 5 < recursionLimit) (hu : un + 40 < cLine) (hvm : (hv, listOf vs.toArray nv) ∈ news) (hT : Texts vs ts) (hts : ts.length ≤ 4) (hls : ∀ t ∈ ts, t.length ≤ 200) (hS : SplitAll ts [] rsE)
    (ret : ∀ r vr nr tab' rest h' tk', Fr h₀ L h' m → News h₀ L h' ((65, tabObj tab') :: (r, listOf (List.toArray vr) nr) :: (news ++ rest)) → (∀ q ∈ (r, listOf (List.toArray vr) nr) :: (news ++ rest), q.1 ≠ 65) → TabOk ((r, listOf (List.toArray vr) nr) :: (news ++ rest)) tab' lamPos lamQual → DatAll rest vr (rsE.map lsDat) → Q (.ref r) { s with heap := h', toks := tk' }) :
    wpAny (model Challenge.rw_rs0138_01.row.prog w) (ktrTop dp un gd cn cs L a ccd cl outer) (call (.ref 70) [.ref hv]) Q E s := by
  refine spl (news := news) (vs := vs) (nv := nv) (tab := tab) B F X (fun q hq => N q ?_) T hk hdp hu h65 (h65 _ hvm) hT hts hls hS hTab hCH ?_
  · simp only [List.mem_cons] at hq ⊢
    rcases hq with h | h | h
    · exact .inl h
    · exact .inr (h ▸ hvm)
    · exact .inr h
  · intro r vr nr tab' rest h' tk' F' N' hsub hsep hr65 hD hTab'
    refine ret r vr nr tab' rest h' tk' F' (fun q hq => N' q ?_) (fun q hq => ?_) (hTab'.mono fun q hq => .tail _ (List.mem_append_right _ hq)) hD
    · simp only [List.mem_cons, List.mem_append] at hq ⊢
      rcases hq with h | h | h | h
      · exact .inr (.inl h)
      · exact .inl h
      · exact .inr (.inr (hsub q (.tail _ h)))
      · exact .inr (.inr h)
    · rcases List.mem_cons.mp hq with rfl | hq
      · exact hr65
      rcases List.mem_append.mp hq with hq | hq
      · exact h65 q hq
      · exact (hsep q hq).2
theorem swap1 {g h : Heap} {L : Addr} {a p : Addr × Obj} {base : List (Addr × Obj)} (N : News g L h (a :: p :: base)) : News g L h (p :: a :: base) := fun q hq => N q (by
  simp only [List.mem_cons] at hq ⊢
  rcases hq with h | h | h
  · exact .inr (.inl h)
  · exact .inl h
  · exact .inr (.inr h))
theorem swap2 {g h : Heap} {L : Addr} {a b p : Addr × Obj} {base : List (Addr × Obj)} (N : News g L h (a :: b :: p :: base)) : News g L h (p :: a :: b :: base) := swap1 (fun q hq => by
  rcases List.mem_cons.mp hq with rfl | hq
  · exact N _ (.head _)
  · exact swap1 (fun q hq => N q (.tail _ hq)) q hq)
theorem ne65 {x : Addr × Obj} {base : List (Addr × Obj)} (hx : 65 < x.1) (h : ∀ q ∈ base, q.1 ≠ 65) : ∀ q ∈ x :: base, q.1 ≠ 65 := fun q hq => by
  rcases List.mem_cons.mp hq with rfl | hq
  · exact Nat.ne_of_gt hx
  · exact h q hq
/-- two lists of lists of pairs, compared -/
theorem ne_no {prog : Program} {w : World} {A : Around} {E : Value → Shared → Prop} {s : Shared} {h₀ : Heap} {L a b : Addr} {news n₁ n₂ : List (Addr × Obj)} {xs ys : List Value} {ka kb : Nat} {ds : List Dat} {Q : Value → Shared → Prop}
    (N : News h₀ L s.heap news) (ma : (a, listOf xs.toArray ka) ∈ news) (Da : DatAll n₁ xs ds) (sa : ∀ p ∈ n₁, p ∈ news) (mb : (b, listOf ys.toArray kb) ∈ news) (Db : DatAll n₂ ys ds) (sb : ∀ p ∈ n₂, p ∈ news)
    (ha : ∀ d ∈ ds, kqdOk 8 d = true) (hu : A.units + 64 < cLine) (h : Q (.bool false) s) : wpAny (model prog w) A (compareOp .NotEq (.ref a) (.ref b)) Q E s :=
  kqd_ne N ma rfl rfl Da sa mb rfl rfl Db sb ha ha hu (by simpa using h)
theorem eq_yes {prog : Program} {w : World} {A : Around} {E : Value → Shared → Prop} {s : Shared} {h₀ : Heap} {L a b : Addr} {news n₁ n₂ : List (Addr × Obj)} {xs ys : List Value} {ka kb : Nat} {ds : List Dat} {Q : Value → Shared → Prop}
    (N : News h₀ L s.heap news) (ma : (a, listOf xs.toArray ka) ∈ news) (Da : DatAll n₁ xs ds) (sa : ∀ p ∈ n₁, p ∈ news) (mb : (b, listOf ys.toArray kb) ∈ news) (Db : DatAll n₂ ys ds) (sb : ∀ p ∈ n₂, p ∈ news)
    (ha : ∀ d ∈ ds, kqdOk 8 d = true) (hu : A.units + 64 < cLine) (h : Q (.bool true) s) : wpAny (model prog w) A (compareOp .Eq (.ref a) (.ref b)) Q E s :=
  kqd_eq N ma rfl rfl Da sa mb rfl rfl Db sb ha ha hu (by simpa using h)
theorem after_app {g h' : Heap} {L Dt Db Dr Dd C : Addr} {X x0 lb lro ldo oc t : Obj} (N9 : ∀ nw : List (Addr × Obj), (∀ q ∈ nw, q ∈ (Dt, x0) :: (Db, lb) :: (Dr, lro) :: (Dd, ldo) :: (C, oc) :: [(65, t)] ∧ q.1 ≠ Dt) → News g L h' ((Dt, X) :: nw))
    (h1 : Dr ≠ Dt) (h2 : Dd ≠ Dt) (h3 : C ≠ Dt) (h4 : (65 : Nat) < Dt) (h5 : (65 : Nat) < Dr) (h6 : (65 : Nat) < Dd) (h7 : (65 : Nat) < C) : News g L h' ((65, t) :: (Dt, X) :: (Dr, lro) :: (Dd, ldo) :: [(C, oc)]) ∧ ∀ q ∈ (Dt, X) :: (Dr, lro) :: (Dd, ldo) :: [(C, oc)], q.1 ≠ 65 := by
  refine ⟨?_, ne65 h4 (ne65 h5 (ne65 h6 (ne65 h7 fun _ h => (List.not_mem_nil h).elim)))⟩
  refine swap1 (N9 ((65, t) :: (Dr, lro) :: (Dd, ldo) :: [(C, oc)]) fun q hq => ?_)
  simp only [List.mem_cons, List.not_mem_nil, or_false] at hq ⊢
  rcases hq with rfl | rfl | rfl | rfl
  · exact ⟨.inr (.inr (.inr (.inr (.inr rfl)))), Nat.ne_of_lt h4⟩
  · exact ⟨.inr (.inr (.inl rfl)), h1⟩
  · exact ⟨.inr (.inr (.inr (.inl rfl))), h2⟩
  · exact ⟨.inr (.inr (.inr (.inr (.inl rfl)))), h3⟩
theorem ops_drop : ∀ op ∈ ops, Txt.slice (S op) none (some (-1)) = S op.dropLast := by decide
section
variable {prog : Program} {w : World} {A : Around} {E : Value → Shared → Prop} {s : Shared} {h₀ : Heap} {L : Addr} {m : Str → Option Value} {news : List (Addr × Obj)} {Q : Value → Shared → Prop}
theorem slice_op {value slice : Expr} {op : List Nat} {t uj : Tok} (hF : Fr h₀ L s.heap m) (hN : News h₀ L s.heap news) (ho : op ∈ ops) (h : ∀ h' t' k, Fr h₀ L h' m → News h₀ L h' news → Q (.str (S op.dropLast) t') { s with heap := h', toks := k })
    (hs : subscripted slice false (.str (S op) t) (.ref s.heap.objs.size) = operate [.ref s.heap.objs.size, .str (S op) t] (getItem (.str (S op) t) (.ref s.heap.objs.size)))
    (ht : ∀ r, letTemporaryGo value (.str (S op) t) r = pure ()) :
    wpAny (model prog w) A (subscriptTail value slice (.str (S op) t) (.ref s.heap.objs.size)) Q E { s with heap := s.heap.push { cls := .type "slice", data := .fields #[.none, .int (-1) uj, .none] } } :=
  slice_strN_ns hF hN (fun h' t' k F' N' => by rw [ops_drop op ho]; exact h h' t' k F' N') hs ht (S_fits (Nat.le_trans (ops_len op ho).1 (by decide)))
end
theorem two_data {news : List (Addr × Obj)} {L1 L2 T1 T2 : Addr} {n1 n2 k1 k2 : Nat} {x : List Nat} {t1 t2 t3 t4 : Tok} (h1 : (L1, listOf #[.ref T1] n1) ∈ news) (h2 : (T1, ({ cls := .type "tuple", data := .seq #[.str (S x) t1, .str (Str.ofString "\"") t2] k1 } : Obj)) ∈ news)
    (h3 : (L2, listOf #[.ref T2] n2) ∈ news) (h4 : (T2, ({ cls := .type "tuple", data := .seq #[.str (Str.ofString "b") t3, .str (Str.ofString "c") t4] k2 } : Obj)) ∈ news) :
    DatAll news [.ref L1, .ref L2] (([[(x, some [34])], [([98], some [99])]] : List (List Pr)).map lsDat) := by
  have e1 : Str.ofString "\"" = S [34] := by decide
  have e2 : Str.ofString "b" = S [98] := by decide
  have e3 : Str.ofString "c" = S [99] := by decide
  rw [e1] at h2
  rw [e2, e3] at h4
  refine .cons ?_ (.cons ?_ .nil)
  · exact DatIn.list (vs := [.ref T1]) h1 (.cons (DatIn.tuple (vs := [.str (S x) t1, .str (S [34]) t2]) h2 (.cons (.str _ _) (.cons (.str _ _) .nil))) .nil)
  · exact DatIn.list (vs := [.ref T2]) h3 (.cons (DatIn.tuple (vs := [.str (S [98]) t3, .str (S [99]) t4]) h4 (.cons (.str _ _) (.cons (.str _ _) .nil))) .nil)
theorem two_ok {op : List Nat} (ho : op ∈ ops) : ∀ d ∈ (([[(97 :: op.dropLast, some [34])], [([98], some [99])]] : List (List Pr)).map lsDat), kqdOk 8 d = true := by
  have hop : ∀ c ∈ 97 :: op.dropLast, c < 128 := fun c hc => by
    rcases List.mem_cons.mp hc with rfl | hc
    · decide
    · exact (sg_alpha c (ops_alpha op ho c (List.mem_append_left _ (List.dropLast_subset _ hc)))).lt
  intro d hd
  obtain ⟨p, hp, rfl⟩ := List.mem_map.mp hd
  refine ls_ok (fun q hq => ?_) 6
  rcases List.mem_cons.mp hp with rfl | hp
  · rw [List.mem_singleton.mp hq]
    exact ⟨hop, fun v e => by cases e; decide⟩
  · rw [List.mem_singleton.mp hp] at hq
    rw [List.mem_singleton.mp hq]
    exact ⟨by decide, fun v e => by cases e; decide⟩
end Mine

namespace Mine
local macro_rules | `(tactic| walk_at "call builtin:sum") => `(tactic| (k_here; (refine' sum_my ?k0 ?k1 ?k2 ?k3 ?k4 ?_); (case k0 => with_unfolding_all rfl); (case k1 | k2 => assumption); (case k3 => k_mem); (case k4 => exact IntsAre.pick (by assumption) _ _ _); intro z' h' tk' t' F' N'))
local macro_rules | `(tactic| walk_at "storeName") => `(tactic| (k_here; (with_reducible rename StrsAre (strValues _) _ => hrow0); (with_reducible rename List.map _ _ = Txt.split _ _ => hrow1); have hRow := row_of hrow0 hrow1; clear hrow0 hrow1))
local macro_rules | `(tactic| walk_at "subscriptTail") => `(tactic| (k_here; (with_reducible show wpAny _ _ (subscriptTail (Expr.Name (Str.ofString "row") _) _ (Value.ref _) (Value.int _ _)) _ _ _); (refine' row_pick ?mn ?mm ?mh ?_ (by with_unfolding_all rfl) (by intro _; with_unfolding_all rfl)); (case mn => assumption); (case mm => k_mem); (case mh => assumption); intro op' t' hop'))
local macro_rules | `(tactic| walk_at "subscriptTail") => `(tactic| (k_here; (with_reducible show wpAny _ _ (subscriptTail (Expr.Name (Str.ofString "operator") _) _ _ _) _ _ _); (refine' last_pick ?mn ?_ (by with_unfolding_all rfl) (by intro _; with_unfolding_all rfl)); (case mn => assumption); intro t'))
local macro_rules | `(tactic| walk_at "compareOp Eq str str") => `(tactic| (k_here; (refine' eqS ?mh ?_); (case mh => with_reducible assumption)))
local macro_rules | `(tactic| walk_at "compareOp NotEq str str") => `(tactic| (k_here; (refine' neS ?mh ?_); (case mh => with_reducible assumption)))
local macro_rules | `(tactic| walk_at "stop") => `(tactic| with_reducible show MkAt _ _ _ _)
local macro_rules | `(tactic| walk_at "stop") => `(tactic| with_reducible show PtAt _ _ _ _)
local macro_rules | `(tactic| walk_at "go") => `(tactic| repeat' ((fail_if_success (walk_at "stop")); first | (k_unfold; (try dsimp only)) | walk1 | (dsimp only; walk1)))
local macro_rules | `(tactic| walk_at "stop") => `(tactic| with_reducible show wpAny _ _ (eval (Expr.IfExp (Expr.BoolOp _ _ _) _ _ _) _) _ _ _)
local macro_rules | `(tactic| walk_at "goq") => `(tactic| repeat' ((fail_if_success (first | (with_reducible show MkAt _ _ _ _) | (with_reducible show PtAt _ _ _ _))); first | (k_unfold; (try dsimp only)) | walk1 | (dsimp only; walk1)))
local macro_rules | `(tactic| walk_at "stop") => `(tactic| with_reducible show ItemsRest _ _ _ _ _ _ _ _ _ _ _ _ _ _ _)
local macro_rules | `(tactic| walk_at "stop") => `(tactic| with_reducible show Exists _)
local macro_rules | `(tactic| walk_at "stop") => `(tactic| with_reducible show UnrPostW _ _ _ _ _ _ _ _)
local macro_rules | `(tactic| walk_at "stop") => `(tactic| with_reducible show wpAny _ _ (eval (Expr.ListComp _ _ _ _) _) _ _ _)
local macro_rules | `(tactic| walk_at "stop") => `(tactic| with_reducible show wpAny _ _ (call (Value.builtin "list.append") _) _ _ _)
local macro_rules | `(tactic| walk_at "stop") => `(tactic| with_reducible show wpAny _ _ (call (Value.builtin "str.join") _) _ _ _)
local macro_rules | `(tactic| walk_at "stop") => `(tactic| with_reducible show wpAny _ _ (binaryOp _ (Value.str _ _) (Value.str _ _)) _ _ _)
local macro_rules | `(tactic| walk_at "subscriptTail") => `(tactic| (k_here; (with_reducible show wpAny _ _ (subscriptTail (Expr.List _ _) _ (Value.ref _) (Value.int _ _)) _ _ _); (refine' three_pick ?mn ?mm ?mh ?mk ?_); (case mn => assumption); (case mm => k_mem); (case mh | mk => assumption); intro z' t'))
local macro_rules | `(tactic| walk_at "stop") => `(tactic| with_reducible show wpAny _ _ (call (Value.ref 99) _) _ _ _)
local macro_rules | `(tactic| walk_at "stop") => `(tactic| with_reducible show wpAny _ _ (call (Value.ref 106) _) _ _ _)
local macro_rules | `(tactic| walk_at "stop") => `(tactic| with_reducible show wpAny _ _ (call (Value.ref 70) _) _ _ _)
local macro_rules | `(tactic| walk_at "stop") => `(tactic| with_reducible show wpAny _ _ (compareOp _ (Value.ref _) (Value.ref _)) _ _ _)
local macro_rules | `(tactic| walk_at "stop") => `(tactic| with_reducible show wpAny _ _ (eval (Expr.BoolOp _ _ _) _) _ _ _)
local macro_rules | `(tactic| walk_at "stop") => `(tactic| with_reducible show wpAny _ _ (eval (Expr.IfExp (Expr.Name _ _) _ _ _) _) _ _ _)
local macro_rules | `(tactic| walk_at "subscriptTail") => `(tactic| (k_here; (with_reducible show wpAny _ _ (subscriptTail (Expr.Name (Str.ofString "chosen") _) _ (Value.str _ _) (Value.int _ _)) _ _ _); (refine' last_pick ?mn ?_ (by with_unfolding_all rfl) (by intro _; with_unfolding_all rfl)); (case mn => assumption); intro t'))
local macro_rules | `(tactic| walk_at "sub") => `(tactic| (intro p hp; repeat (first | (with_reducible exact hp) | (with_reducible exact List.mem_append_right _ hp) | (with_reducible refine List.mem_append_left _ ?_) | (with_reducible refine List.mem_cons_of_mem _ ?_))))
local macro_rules | `(tactic| walk_at "stop") => `(tactic| with_reducible show wpAny _ _ (subscriptTail (Expr.Name (Str.ofString "chosen") _) (Expr.Slice _ _ _ _) _ _) _ _ _)
local macro_rules | `(tactic| walk_at "stop") => `(tactic| with_reducible show GoodW _ _ _ _ _ _ _)
theorem law_holds : PySem.Challenge.rw_rs0138_01.Holds := hd (by
  k_go0
  all_goals try k_fold
  all_goals walk_at "go"
  rename_i Dd wsd hd7 hId hCd hLd lt4 hd6 Dr lr hd5 kr lt3 hRow hd4 tkm hd3 oc hoc Dt hd2 lt2 hd1 Db hd0 N0 lt1 I0 lt0
  refine items_law rfl rfl rfl ?turn ?done
  case turn =>
    intro i a m1 news1 v h tk hxa hJ hv F
    obtain ⟨nt, vt, ts, m1t, m1r, m1d, rfl, hT, hts, hG⟩ := hJ
    obtain ⟨j, bg, tkb, rfl, hj0, hj3, hbg, hbl⟩ := begun_of hxa
    obtain ⟨T, t, rfl, hT'⟩ := hv
    refine AllObj.cons (fun o1 ho1 => ?_); refine AllObj.cons (fun o2 ho2 => ?_); refine AllObj.nil (fun N2 => ?_); simp only [List.cons_append, List.nil_append] at N2; dsimp only at ho1 ho2
    have F3 := fr1 (fr1 (fr1 F (a := Str.ofString "drawn") m1d) (a := Str.ofString "row") m1r) (a := Str.ofString "texts") m1t
    clear F
    walk_at "go"
    rename _ ∈ ops => hop9
    refine cut_marks hop9 ?pre ?_
    case pre =>
      intro b1 b2 h1 h2 hpt
      k_here
      cases b1 with
      | false => walk_at "goq"; exact MkAt.mk _ _ _ (marks_no hpt rfl)
      | true =>
        cases b2 with
        | false => walk_at "goq"; exact MkAt.mk _ _ _ (marks_yes hpt rfl)
        | true => walk_at "goq"; exact MkAt.mk _ _ _ (marks_no hpt rfl)
    intro t2 tk2
    walk_at "go"
    rename Fr _ _ _ _ => F4
    rename News _ _ _ _ => N4
    refine comp_menu F4 (by with_unfolding_all rfl) (by decide) (by rfl) (by decide) (by rfl) ?it (by intro _; with_unfolding_all rfl)
    case it =>
      walk_at "go"
      rename Fr _ _ _ _ => F5
      rename News _ _ _ _ => N5
      refine ⟨_, _, _, _, _, rfl, rfl, F5, N5, hId.pick _ _ _, ?_, ?_, ?_⟩
      · exact Nat.le_trans (length_pickNums_le hId _ _ _) (by rw [hCd]; omega)
      · intro k t C oC m₂ s₃ E' hC hx F6 N6
        walk_at "go"
        exact ⟨_, _, congrArg (Value.str · _) (mnu_item k), rfl⟩
      · intro D ys n h' tk' F6 N6 hD hS
        obtain ⟨pk, hS', hp5⟩ : ∃ pk : List Int, StrsAre ys (pk.map fun k => S [mnu k]) ∧ pk.length ≤ 5 := ⟨_, hS, pick_len _ hj0⟩
        clear hS
        walk_at "go"
        refine join_menu (by assumption) (.head _) hS' (Nat.le_trans hp5 (by decide)) fun t5 tk5 => ?_
        have hl9 : (pk.map mnu).length ≤ 5 := by rw [List.length_map]; exact hp5
        obtain ⟨ol1, ol2⟩ := ops_len _ hop9
        refine addS (Nat.le_trans hbl (by decide)) (Nat.le_trans hl9 (by decide)) fun t6 tk6 => ?_
        walk_at "go"
        refine addS (by rw [List.length_append]; omega) (by omega) fun t7 tk7 => ?_
        walk_at "go"
        refine addS (by rw [List.length_append, List.length_append]; omega) (by omega) fun t8 tk8 => ?_
        walk_at "go"
        rename Fr _ _ _ _ => F7
        rename News _ _ _ _ => N7
        have hil := (List.getElem?_eq_some_iff.mp hxa).1
        simp only [List.length_cons, List.length_nil] at hil
        refine append_any F7 N7 (by k_mem) (by rw [hT.length, hts]; omega) fun h9 F9 N9 => ?_
        walk_at "go"
        dsimp only [UnrPostW]
        refine law_end F9 rfl rfl rfl (turn_end N9 ?s1 ?s2 ?n1 ?n2) (texts_snoc hT _ _) ?hl ?hG ?off ?sub
        case hl => rw [List.length_append, hts]; rfl
        case hG =>
          refine mem_push hG ⟨text_good ?al hop9, ?len⟩
          case al =>
            intro c hc
            rcases List.mem_append.mp hc with hc | hc
            · exact hbg c hc
            · obtain ⟨k, _, rfl⟩ := List.mem_map.mp hc
              exact mnu_alpha k
          case len => simp only [List.length_append]; omega
        case s1 => k_subL
        case s2 => k_subL
        case n1 => exact ⟨Nat.ne_of_gt (Nat.lt_succ_of_lt lt0.2.1), Nat.ne_of_gt lt0.2.1, trivial⟩
        case n2 => exact ⟨Nat.ne_of_gt lt1.1, Nat.ne_of_lt lt2.1, Nat.ne_of_lt lt2.2.1, Nat.ne_of_lt lt2.2.2.1, Nat.ne_of_lt lt2.2.2.2, trivial⟩
        case off =>
          exact off_of ⟨Nat.ne_of_lt (Nat.lt_succ_of_lt lt0.2.1), Nat.ne_of_lt (Nat.lt_succ_of_lt lt0.1), Nat.ne_of_lt (Nat.lt_succ_of_lt lt0.2.2.1), Nat.ne_of_lt (Nat.lt_succ_of_lt lt0.2.2.2.1), Nat.ne_of_lt (Nat.lt_succ_of_lt lt0.2.2.2.2.1), Nat.ne_of_lt (Nat.lt_succ_of_lt lt0.2.2.2.2.2), trivial⟩ ⟨Nat.ne_of_lt lt0.2.1, Nat.ne_of_lt lt0.1, Nat.ne_of_lt lt0.2.2.1, Nat.ne_of_lt lt0.2.2.2.1, Nat.ne_of_lt lt0.2.2.2.2.1, Nat.ne_of_lt lt0.2.2.2.2.2, trivial⟩
        case sub => k_subL
  case done =>
    intro m1 news1 h tk hJ F N
    obtain ⟨nt, vt, ts, m1t, m1r, m1d, rfl, hT, hts, hG⟩ := hJ
    obtain ⟨a, b, c, rfl⟩ := three_of hts rfl
    have F3 := fr1 (fr1 (fr1 F (a := Str.ofString "drawn") m1d) (a := Str.ofString "row") m1r) (a := Str.ofString "texts") m1t
    obtain ⟨ga, la⟩ := hG a (.head _)
    obtain ⟨gb, lb⟩ := hG b (.tail _ (.head _))
    obtain ⟨gc, lc⟩ := hG c (.tail _ (.tail _ (.head _)))
    have hl4 : ∀ t ∈ [a, b, c, []], t.length ≤ 20 := by
      intro t ht
      simp only [List.mem_cons, List.not_mem_nil, or_false] at ht
      rcases ht with rfl | rfl | rfl | rfl
      · exact la
      · exact lb
      · exact lc
      · decide
    have hgl : (glue4 a b c []).length ≤ 200 := Nat.le_trans (glue_len la lb lc) (by decide)
    have hgg := glue_good ga gb gc
    clear F hts hG m1t m1r m1d
    rename Below _ _ _ _ => B9
    rename Frag.In _ _ => X9
    rename Top _ _ _ _ _ _ => T9
    walk_at "go"
    refine append_any (by assumption) N (.head _) (by rw [hT.length]; show 3 ≤ 1000; decide) fun h9 F9 N9 => ?_
    obtain ⟨N10, b65⟩ := after_app N9 (Nat.ne_of_lt lt2.1) (Nat.ne_of_lt lt2.2.1) (Nat.ne_of_lt lt2.2.2.1) lt2.2.2.2 lt3.2.2 lt4.2 (Nat.lt_succ_of_lt ‹65 < _›)
    have hT4 := texts_snoc0 hT tk
    clear N9 N0 N F3
    walk_at "go"
    refine join_comma (by assumption) (by k_mem) hT4 hl4 fun t1 tk1 => ?_
    walk_at "go"
    refine sym (l := glue4 a b c []) B9 (by assumption) X9 (by assumption) T9 rfl (by ktr_room) (by ktr_units) hgl hgg.2 fun D ys h1 tk2 F11 N11 hlt hI => ?_
    walk_at "go"
    refine rd_w (l := glue4 a b c []) B9 (by assumption) X9 N11 b65 (.inl rfl) (hlt _ (.head _)) T9 rfl (by ktr_room) (by ktr_units) (by k_mem) hRow hI hgg.2 hgl fun r vr nr rest h2 tk3 F12 N12 b65' hTab1 hD => ?_
    clear hI N11 F11 b65 hlt N10 F9
    simp only [List.cons_append, List.nil_append] at N12 b65' hTab1
    walk_at "go"
    refine join_comma (by assumption) (by k_mem) hT4 hl4 fun t2 tk5 => ?_
    walk_at "go"
    rename News _ _ _ _ => N13
    refine spl_w (ts := [glue4 a b c []]) (vs := [.str (S (glue4 a b c [])) _]) B9 (by assumption) X9 (swap1 N13) (ne65 ?gt b65') (hTab1.mono fun q hq => .tail _ hq) codeHd T9 rfl (by ktr_room) (by ktr_units) (.head _) (.cons .nil) (by show 1 ≤ 4; decide) (fun t ht => by rw [List.mem_singleton.mp ht]; exact hgl) (split_one hgg) fun r2 vr2 nr2 tab2 rest2 h3 tk6 F14 N14 b65'' hTab2 hD2 => ?_
    case gt => rename 65 < _ ∧ _ => lt9; exact lt9.1
    simp only [List.cons_append] at N14 b65'' hTab2
    have hok := res_ok hgg.2
    clear N13 b65' hTab1
    walk_at "go"
    refine ne_no (by assumption) (.tail _ (.head _)) hD2 (by walk_at "sub") (by k_mem) hD (by walk_at "sub") hok (by ktr_units) ?_
    walk_at "go"
    refine spl_w (ts := [a, b, c, []]) B9 (by assumption) X9 (by assumption) b65'' hTab2 codeHd T9 rfl (by ktr_room) (by ktr_units) (by k_mem) hT4 (by show 4 ≤ 4; decide) (fun t ht => Nat.le_trans (hl4 t ht) (by decide)) (split_four ga gb gc nil_good) fun r3 vr3 nr3 tab3 rest3 h4 tk7 F15 N15 b65c hTab3 hD3 => ?_
    simp only [List.cons_append] at N15 b65c hTab3
    clear N14 F14 b65'' hTab2
    walk_at "go"
    refine ne_no (by assumption) (.tail _ (.head _)) hD3 (by walk_at "sub") (by k_mem) hD (by walk_at "sub") hok (by ktr_units) ?_
    walk_at "go"
    rename _ ∈ ops => hop9
    refine cut_parts hop9 ?pre2 ?_
    case pre2 =>
      intro b1 b2 h1 h2 hpt
      k_here
      cases b1 with
      | false => walk_at "goq"; exact PtAt.mk _ _ hpt.symm
      | true =>
        cases b2 with
        | false => walk_at "goq"; exact PtAt.mk _ _ hpt.symm
        | true => walk_at "goq"; exact PtAt.mk _ _ hpt.symm
    intro bp tk8 hbp
    walk_at "go"
    refine addA (by decide) rfl (Nat.le_trans (ops_len _ hop9).1 (by decide)) fun t9 tk9 => ?_
    walk_at "go"
    refine addQ (by decide) (Nat.le_trans (ops_len _ hop9).1 (by decide)) fun t10 tk10 => ?_
    have hjg := joined_good hop9
    have hjl := joined_len _ hop9
    have hfl := fst2_len _ hop9
    have hok2 := res_ok hjg.2
    walk_at "go"
    refine addS' rfl (y := 44 :: bc) (by decide) (Nat.le_trans hfl (by decide)) (by decide) fun t11 tk11 => ?_
    walk_at "go"
    refine sym (l := fst2 _ ++ 44 :: bc) B9 (by assumption) X9 (by assumption) T9 rfl (by ktr_room) (by ktr_units) hjl hjg.2 fun D2 ys2 h5 tk12 F16 N16 hlt2 hI2 => ?_
    walk_at "go"
    refine rd_w (l := fst2 _ ++ 44 :: bc) B9 (by assumption) X9 (drop2 N16) b65c hTab3 (hlt2 _ (.tail _ (.head _))) T9 rfl (by ktr_room) (by ktr_units) (by k_mem) hRow hI2 hjg.2 hjl fun r4 vr4 nr4 rest4 h6 tk13 F17 N17 b65d hTab4 hD4 => ?_
    simp only [List.cons_append] at N17 b65d hTab4
    clear N16 F16 b65c hTab3 hlt2
    walk_at "go"
    refine addS' rfl (y := 44 :: bc) (by decide) (Nat.le_trans hfl (by decide)) (by decide) fun t12 tk14 => ?_
    walk_at "go"
    rename News _ _ _ _ => N18
    refine spl_w (ts := [fst2 _ ++ 44 :: bc]) (vs := [.str (S (fst2 _ ++ 44 :: bc)) _]) B9 (by assumption) X9 (swap1 N18) (ne65 ?gt2 b65d) (hTab4.mono fun q hq => .tail _ hq) codeHd T9 rfl (by ktr_room) (by ktr_units) (.head _) (.cons .nil) (by show 1 ≤ 4; decide) (fun t ht => by rw [List.mem_singleton.mp ht]; exact hjl) (split_one hjg) fun r5 vr5 nr5 tab5 rest5 h7 tk15 F19 N19 b65e hTab5 hD5 => ?_
    case gt2 => rename 65 < _ ∧ _ => lt9; exact lt9.1
    simp only [List.cons_append] at N19 b65e hTab5
    clear N18 b65d hTab4
    walk_at "go"
    refine ne_no (by assumption) (.tail _ (.head _)) hD5 (by walk_at "sub") (by k_mem) hD4 (by walk_at "sub") hok2 (by ktr_units) ?_
    walk_at "go"
    rename News _ _ _ _ => N20
    refine spl_w (ts := [fst2 _, bc]) (vs := [.str (S (fst2 _)) _, .str (Str.ofString "b=\"c\"") _]) B9 (by assumption) X9 (swap1 N20) (ne65 ?gt3 b65e) (hTab5.mono fun q hq => .tail _ hq) codeHd T9 rfl (by ktr_room) (by ktr_units) (.head _) two_texts (by show 2 ≤ 4; decide) (fst2_lens hop9) (first_split hop9) fun r6 vr6 nr6 tab6 rest6 h8 tk16 F21 N21 b65f hTab6 hD6 => ?_
    case gt3 => rename 65 < _ ∧ _ => lt9; exact lt9.1
    simp only [List.cons_append] at N21 b65f hTab6
    clear N20 b65e hTab5
    walk_at "go"
    cases bp with
    | false =>
      have hD7 := first_no hbp hD6
      first | walk1 | (dsimp only; walk1)
      walk_at "go"
      refine eq_yes (by assumption) (.tail _ (.head _)) hD7 (by walk_at "sub") (by k_mem) hD4 (by walk_at "sub") hok2 (by ktr_units) ?_
      walk_at "go"
      all_goals k_steps
    | true =>
      have hD7 := first_yes hbp hD6
      first | walk1 | (dsimp only; walk1)
      walk_at "go"
      rename Fr _ _ _ _ => F22
      rename News _ _ _ _ => N22
      refine slice_op (s := ⟨_, _, _, _, _⟩) F22 N22 hop9 ?_ (by with_unfolding_all rfl) (by intro _; with_unfolding_all rfl)
      intro h22 t22 k22 F23 N23
      walk_at "go"
      refine addA (by decide) rfl (drop_len _ hop9) fun t20 tk20 => ?_
      walk_at "go"
      rename News _ _ _ _ => N24
      refine eq_yes N24 (by k_mem) hD7 (by walk_at "sub") (.head _) (two_data (.tail _ (.tail _ (.tail _ (.head _)))) (.tail _ (.tail _ (.tail _ (.tail _ (.head _))))) (.tail _ (.head _)) (.tail _ (.tail _ (.head _)))) (fun _ h => h) (two_ok hop9) (by ktr_units) ?_
      walk_at "go"
      all_goals k_steps
  )
end Mine

end
theorem PySem.Challenge.cw_rs0138_01_holds : PySem.Challenge.rw_rs0138_01.Holds :=
  Mine.law_holds

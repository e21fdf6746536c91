import PyProof.Rows.All
import Wide.All
import OpenK.AllK
import Wide.FinOn
import PySem.Challenge.RW_pe0021_01

set_option Elab.async false

section
open PySem PySem.W PyProof.Rows
set_option Elab.async false
set_option maxRecDepth 100000
set_option maxHeartbeats 0
open_top Mine.hd for PySem.Challenge.rw_pe0021_01
end

section
open PySem
namespace Mine
open PySem.Sre

/-! the machine of _sre: many steps -/
theorem step_done {m : M} (h : m.outcome.isSome = true) : m.step = m := by
  unfold M.step; rw [if_pos h]
theorem runFor_zero (m : M) : M.runFor 0 m = m := rfl
theorem runFor_succ (n : Nat) (m : M) : M.runFor (n + 1) m = M.runFor n m.step := by
  show (if m.outcome.isSome = true then m else M.runFor n m.step) = _
  by_cases h : m.outcome.isSome = true
  · rw [if_pos h, step_done h]
    induction n with
    | zero => rfl
    | succ n ih =>
      show _ = (if m.outcome.isSome = true then m else M.runFor n m.step)
      rw [if_pos h]
  · rw [if_neg h]
theorem runFor_add (a b : Nat) (m : M) : M.runFor (a + b) m = M.runFor b (M.runFor a m) := by
  induction a generalizing m with
  | zero => rw [Nat.zero_add]; rfl
  | succ a ih => rw [Nat.succ_add, runFor_succ, runFor_succ, ih]
theorem runFor_done {m : M} (h : m.outcome.isSome = true) (n : Nat) : M.runFor n m = m := by
  induction n with
  | zero => rfl
  | succ n ih => rw [runFor_succ, step_done h, ih]
theorem runFor_past {m : M} {N k : Nat} (h : (M.runFor N m).outcome.isSome = true) (hk : N ≤ k) : M.runFor k m = M.runFor N m := by
  obtain ⟨d, rfl⟩ := Nat.le.dest hk
  rw [runFor_add, runFor_done h]

section
variable {Mo : Model} {A : Around} {E : Value → Shared → Prop} {s : Shared}
open PySem.Builtin.Re
theorem wp_drive : ∀ (turns : Nat) (m : M) (N : Nat) (Q : M → Shared → Prop), (M.runFor N m).outcome.isSome = true → N ≤ 4 * turns → N ≠ 0 → Q (M.runFor N m) s → wpAny Mo A (reDrive turns m) Q E s
  | 0, m, N, Q, _, hle, hn, _ => absurd (Nat.le_zero.mp (by simpa using hle)) hn
  | turns + 1, m, N, Q, hN, hle, hn, hQ => by
    unfold reDrive
    dsimp only [reTurnSteps]
    by_cases h : (M.runFor 4 m).outcome.isSome = true
    · rw [if_pos h]
      have e : M.runFor 4 m = M.runFor N m := by
        rcases Nat.le_total N 4 with q | q
        · exact runFor_past hN q
        · exact (runFor_past h q).symm
      rw [e]
      exact wpAny_pure hQ
    · rw [if_neg h]
      have q : 4 < N := by
        apply Nat.lt_of_not_le
        intro q
        rw [runFor_past hN q] at h
        exact h hN
      have e : M.runFor N m = M.runFor (N - 4) (M.runFor 4 m) := by rw [← runFor_add]; congr 1; omega
      refine wpAny_bind (wpAny_rule ?_)
      rw [e] at hN hQ
      exact wp_drive turns _ (N - 4) Q hN (by omega) (by omega) hQ

theorem wp_rules (m : M) : ∀ (l : List Nat) (Q : PUnit → Shared → Prop), Q PUnit.unit s → wpAny Mo A (forIn l PUnit.unit fun i (_ : PUnit) => (if m.seen.has i = true then do
      rule (Sre.names.getD i ""); pure (ForInStep.yield PUnit.unit) else pure (ForInStep.yield PUnit.unit) : Sem (ForInStep PUnit))) Q E s
  | [], Q, h => wpAny_pure h
  | i :: l, Q, h => by
    rw [List.forIn_cons]
    refine wpAny_bind ?_
    by_cases hh : m.seen.has i = true
    · simp only [hh, if_true]
      exact wpAny_bind (wpAny_rule (wpAny_pure (wp_rules m l Q h)))
    · rw [if_neg hh]
      exact wpAny_pure (wp_rules m l Q h)
theorem wp_found {m m' : M} {N : Nat} {Q : Option M → Shared → Prop} (hN : M.runFor N m = m') (ho : m'.outcome = some .matched) (hle : N ≤ 2 ^ 60) (hn : N ≠ 0) (hQ : Q (some m') s) : wpAny Mo A (reRunToEnd m) Q E s := by
  subst hN
  unfold reRunToEnd
  refine wpAny_bind (wp_drive _ _ N _ (by rw [ho]; rfl) (by omega) hn ?_)
  refine wpAny_bind (wp_rules _ _ _ ?_)
  rw [ho]
  exact wpAny_pure hQ
theorem wp_missed {m m' : M} {N : Nat} {Q : Option M → Shared → Prop} (hN : M.runFor N m = m') (ho : m'.outcome = some .failed) (hle : N ≤ 2 ^ 60) (hn : N ≠ 0) (hQ : Q none s) : wpAny Mo A (reRunToEnd m) Q E s := by
  subst hN
  unfold reRunToEnd
  refine wpAny_bind (wp_drive _ _ N _ (by rw [ho]; rfl) (by omega) hn ?_)
  refine wpAny_bind (wp_rules _ _ _ ?_)
  rw [ho]
  exact wpAny_pure hQ
end

/-! the pattern of a dot at a row's start -/
def code1 : Array Nat := #[14, 4, 0, 1, 1, 6, 1, 16, 46, 1]
def at1 (text : Array Nat) (p : Nat) (sn : Seen) (mu ou : Bool) : M :=
  { code := code1, text, lim := text.size, start := p, lastStart := text.size, wholeText := false, mustAdvance := mu, pc := 5, pos := p, handed := p, outermost := ou, marks := #[], lastmark := -1, lastindex := -1, loops := #[], inner := none, frames := [{ wait := .nextStart, pc := 5, pos := p, outermost := ou }], weight := 1, answer := none, seen := sn, outcome := none }
def rowStart (text : Array Nat) (p : Nat) : Bool := p == 0 || text.getD (p - 1) 0 == 10
theorem at1_step (text : Array Nat) (p : Nat) (sn : Seen) (mu ou : Bool) : (at1 text p sn mu ou).step =
    if rowStart text p = true then { at1 text p ((sn.add 6).add 44) mu ou with pc := 7 } else { at1 text p ((sn.add 6).add 44) mu ou with answer := some false } := rfl
theorem at1_lit (text : Array Nat) (p : Nat) (sn : Seen) (mu ou : Bool) (hp : p < text.size) : ({ at1 text p sn mu ou with pc := 7 } : M).step =
    if text.getD p 0 = 46 then { at1 text p (sn.add 16) mu ou with pc := 9, pos := p + 1 } else { at1 text p (sn.add 16) mu ou with answer := some false, pc := 7 } := by
  have h1 : ({ at1 text p sn mu ou with pc := 7 } : M).step = (if p ≥ text.size then ({ at1 text p (sn.add 16) mu ou with answer := some false, pc := 7 } : M) else
      cond (text.getD p 0 == 46) { at1 text p (sn.add 16) mu ou with pc := 9, pos := p + 1 } { at1 text p (sn.add 16) mu ou with answer := some false, pc := 7 }) := by kernel_rfl
  rw [h1, if_neg (Nat.not_le.mpr hp)]
  by_cases h : text.getD p 0 = 46
  · rw [if_pos h, h]; rfl
  · rw [if_neg h, show (text.getD p 0 == 46) = false from by simpa using h]; rfl
theorem at1_lim (text : Array Nat) (p : Nat) (sn : Seen) (mu ou : Bool) (hp : text.size ≤ p) : ({ at1 text p sn mu ou with pc := 7 } : M).step =
    { at1 text p (sn.add 16) mu ou with answer := some false, pc := 7 } := by
  have h1 : ({ at1 text p sn mu ou with pc := 7 } : M).step = (if p ≥ text.size then ({ at1 text p (sn.add 16) mu ou with answer := some false, pc := 7 } : M) else
      cond (text.getD p 0 == 46) { at1 text p (sn.add 16) mu ou with pc := 9, pos := p + 1 } { at1 text p (sn.add 16) mu ou with answer := some false, pc := 7 }) := by kernel_rfl
  rw [h1, if_pos hp]
theorem at1_no (text : Array Nat) (p k : Nat) (sn : Seen) (mu ou : Bool) (hp : p < text.size) : ({ at1 text p sn mu ou with answer := some false, pc := k } : M).step = at1 text (p + 1) sn false false := by
  have h1 : ({ at1 text p sn mu ou with answer := some false, pc := k } : M).step = (if p < text.size then at1 text (p + 1) sn false false else ({ at1 text p sn mu ou with answer := some false, frames := [], weight := 0 } : M)) := by kernel_rfl
  rw [h1, if_pos hp]
/-- the end of a search that found one -/
structure Ends (m : M) (q e : Nat) : Prop where
  out : m.outcome = some .matched
  start : m.start = q
  handed : m.handed = e
/-- what the search from p finds -/
def find1 (text : Array Nat) (p : Nat) : Nat → Option Nat
  | 0 => none
  | n + 1 => if rowStart text p = true ∧ text.getD p 0 = 46 then some p else find1 text (p + 1) n
theorem at1_hit (text : Array Nat) (p : Nat) (sn : Seen) (mu ou : Bool) (hp : p < text.size) (hr : rowStart text p = true) (hc : text.getD p 0 = 46) :
    ∃ m', M.runFor 5 (at1 text p sn mu ou) = m' ∧ Ends m' p (p + 1) := by
  refine ⟨_, rfl, ?_⟩
  rw [runFor_succ, at1_step, if_pos hr, runFor_succ, at1_lit _ _ _ _ _ hp, if_pos hc]
  have h1 : ({ at1 text p (((sn.add 6).add 44).add 16) mu ou with pc := 9, pos := p + 1 } : M).step = (if (ou && ((false && (p + 1) != text.size) || (mu && (p + 1) == p))) = true then ({ at1 text p ((((sn.add 6).add 44).add 16).add 1) mu ou with pc := 9, pos := p + 1, answer := some false } : M) else { at1 text p ((((sn.add 6).add 44).add 16).add 1) mu ou with pc := 9, pos := p + 1, handed := p + 1, answer := some true }) := by kernel_rfl
  rw [runFor_succ, h1, if_neg (by simp)]
  exact ⟨rfl, rfl, rfl⟩
theorem at1_miss (text : Array Nat) (p : Nat) (sn : Seen) (mu ou : Bool) (hp : p < text.size) (h : ¬ (rowStart text p = true ∧ text.getD p 0 = 46)) :
    ∃ sn', ∃ n, n ≤ 3 ∧ M.runFor n (at1 text p sn mu ou) = at1 text (p + 1) sn' false false := by
  by_cases hr : rowStart text p = true
  · refine ⟨((sn.add 6).add 44).add 16, 3, Nat.le_refl _, ?_⟩
    rw [runFor_succ, at1_step, if_pos hr, runFor_succ, at1_lit _ _ _ _ _ hp, if_neg (fun hc => h ⟨hr, hc⟩), runFor_succ, at1_no _ _ _ _ _ _ hp]
    rfl
  · refine ⟨(sn.add 6).add 44, 2, by omega, ?_⟩
    rw [runFor_succ, at1_step, if_neg hr, runFor_succ]
    exact at1_no _ _ 5 _ _ _ hp
theorem at1_last (text : Array Nat) (sn : Seen) (mu ou : Bool) : ∃ n, n ≤ 5 ∧ n ≠ 0 ∧ (M.runFor n (at1 text text.size sn mu ou)).outcome = some .failed := by
  have fin : ∀ sn k, ∃ m', M.runFor 2 ({ at1 text text.size sn mu ou with answer := some false, pc := k } : M) = m' ∧ m'.outcome = some .failed := fun sn k => by
    refine ⟨_, rfl, ?_⟩
    have h1 : ({ at1 text text.size sn mu ou with answer := some false, pc := k } : M).step = (if text.size < text.size then at1 text (text.size + 1) sn false false else ({ at1 text text.size sn mu ou with answer := some false, frames := [], weight := 0 } : M)) := by kernel_rfl
    rw [runFor_succ, h1, if_neg (Nat.lt_irrefl _)]
    rfl
  by_cases hr : rowStart text text.size = true
  · refine ⟨4, by omega, by omega, ?_⟩
    rw [runFor_succ, at1_step, if_pos hr, runFor_succ, at1_lim _ _ _ _ _ (Nat.le_refl _)]
    obtain ⟨m', e, h⟩ := fin (((sn.add 6).add 44).add 16) 7
    rw [e]; exact h
  · refine ⟨3, by omega, by omega, ?_⟩
    rw [runFor_succ, at1_step, if_neg hr]
    obtain ⟨m', e, h⟩ := fin ((sn.add 6).add 44) 5
    exact e ▸ h
theorem at1_run (text : Array Nat) : ∀ (n p : Nat) (sn : Seen) (mu ou : Bool), p + n = text.size →
    (∀ q, find1 text p n = some q → ∃ N m', N ≤ 3 * n + 5 ∧ N ≠ 0 ∧ M.runFor N (at1 text p sn mu ou) = m' ∧ Ends m' q (q + 1)) ∧
    (find1 text p n = none → ∃ N, N ≤ 3 * n + 5 ∧ N ≠ 0 ∧ (M.runFor N (at1 text p sn mu ou)).outcome = some .failed)
  | 0, p, sn, mu, ou, h => by
    refine ⟨fun q hq => (by cases hq), fun _ => ?_⟩
    obtain rfl : p = text.size := by omega
    obtain ⟨n, h1, h2, h3⟩ := at1_last text sn mu ou
    exact ⟨n, by omega, h2, h3⟩
  | n + 1, p, sn, mu, ou, h => by
    have hp : p < text.size := by omega
    unfold find1
    by_cases hh : rowStart text p = true ∧ text.getD p 0 = 46
    · rw [if_pos hh]
      refine ⟨fun q hq => ?_, fun hq => (by cases hq)⟩
      cases hq
      obtain ⟨m', e, r⟩ := at1_hit text p sn mu ou hp hh.1 hh.2
      exact ⟨5, m', by omega, by omega, e, r⟩
    · rw [if_neg hh]
      obtain ⟨sn', k, hk, e⟩ := at1_miss text p sn mu ou hp hh
      have ih := at1_run text n (p + 1) sn' false false (by omega)
      refine ⟨fun q hq => ?_, fun hq => ?_⟩
      · obtain ⟨N, m', h1, h2, h3, h4⟩ := ih.1 q hq
        exact ⟨k + N, m', by omega, by omega, by rw [runFor_add, e]; exact h3, h4⟩
      · obtain ⟨N, h1, h2, h3⟩ := ih.2 hq
        exact ⟨k + N, by omega, by omega, by rw [runFor_add, e]; exact h3⟩
def dead1 (text : Array Nat) (p : Nat) (mu : Bool) : M :=
  { code := code1, text, lim := text.size, start := p, mustAdvance := mu, pc := 5, pos := p, handed := p, marks := #[], answer := some false, seen := ({} : Seen).add 14 }
theorem search1 (text : Array Nat) (p : Nat) (mu : Bool) : forSearch code1 text 0 p text.size mu = (if (decide (p > text.size) || decide (text.size - p < 1)) = true then dead1 text p mu else at1 text p (({} : Seen).add 14) mu true) := by kernel_rfl
theorem next1 {Mo : Model} {A : Around} {E : Value → Shared → Prop} {s : Shared} {Q : Option M → Shared → Prop} (text : Array Nat) (p : Nat) (mu : Bool) (hp : p ≤ text.size) (hsz : text.size ≤ 2 ^ 30)
    (h1 : ∀ q m', find1 text p (text.size - p) = some q → Ends m' q (q + 1) → Q (some m') s) (h2 : find1 text p (text.size - p) = none → Q none s) :
    wpAny Mo A (Builtin.Re.reRunToEnd (forSearch code1 text 0 p text.size mu)) Q E s := by
  rw [search1]
  by_cases hl : p < text.size
  · rw [if_neg (by simp; omega)]
    have r := at1_run text (text.size - p) p (({} : Seen).add 14) mu true (by omega)
    cases hf : find1 text p (text.size - p) with
    | none =>
      obtain ⟨N, a1, a2, a3⟩ := r.2 hf
      exact wp_missed rfl a3 (by omega) a2 (h2 hf)
    | some q =>
      obtain ⟨N, m', a1, a2, a3, a4⟩ := r.1 q hf
      exact wp_found a3 a4.out (by omega) a2 (h1 q m' hf a4)
  · rw [if_pos (by simp; omega)]
    have e : text.size - p = 0 := by omega
    exact wp_missed (N := 1) (m' := (dead1 text p mu).step) rfl rfl (by omega) (by omega) (h2 (by rw [e]; rfl))

/-! the pattern of a line's end -/
def code2 : Array Nat := #[14, 9, 4, 1, 2, 16, 10, 16, 13, 0, 7, 7, 16, 13, 16, 10, 15, 18, 5, 16, 10, 15, 13, 11, 16, 13, 5, 5, 0, 16, 10, 1, 15, 2, 0, 1]
def base2 (text : Array Nat) (p : Nat) (mu : Bool) : M :=
  { code := code2, text, lim := text.size, start := p, lastStart := text.size, mustAdvance := mu, pc := 10, pos := p, handed := p, marks := #[], seen := ({} : Seen).add 14 }
def at2 (text : Array Nat) (p : Nat) (sn : Seen) (ou : Bool) : M :=
  { code := code2, text, lim := text.size, start := p, lastStart := text.size, wholeText := false, mustAdvance := false, pc := 10, pos := p, handed := p, outermost := ou, marks := #[], lastmark := -1, lastindex := -1, loops := #[], inner := none, frames := [{ wait := .nextStart, pc := 10, pos := p, outermost := ou }], weight := 1, answer := none, seen := sn, outcome := none }
def mid2 (text : Array Nat) (p : Nat) (sn : Seen) (ou : Bool) (alt pc pos : Nat) : M :=
  { at2 text p sn ou with frames := [{ wait := .nextBranch, pc := alt, pos := p, outermost := ou, kept := { lastmark := -1, lastindex := -1, whole := false, marks := #[] } }, { wait := .nextStart, pc := 10, pos := p, outermost := ou }], weight := 2, pc := pc, pos := pos }
theorem at2_branch (text : Array Nat) (p : Nat) (sn : Seen) (ou : Bool) : (at2 text p sn ou).step = mid2 text p (sn.add 7) ou 11 12 p := by kernel_rfl
theorem mid2_cr (text : Array Nat) (p : Nat) (sn : Seen) (ou : Bool) : (mid2 text p sn ou 11 12 p).step =
    (if p ≥ text.size then ({ mid2 text p (sn.add 16) ou 11 12 p with answer := some false } : M) else cond (text.getD p 0 == 13) (mid2 text p (sn.add 16) ou 11 14 (p + 1)) { mid2 text p (sn.add 16) ou 11 12 p with answer := some false }) := by kernel_rfl
theorem mid2_next (text : Array Nat) (p : Nat) (sn : Seen) (ou : Bool) : ({ mid2 text p sn ou 11 12 p with answer := some false } : M).step = mid2 text p sn ou 18 19 p := by kernel_rfl
theorem mid2_lf (text : Array Nat) (p : Nat) (sn : Seen) (ou : Bool) : (mid2 text p sn ou 18 19 p).step =
    (if p ≥ text.size then ({ mid2 text p (sn.add 16) ou 18 19 p with answer := some false } : M) else cond (text.getD p 0 == 10) (mid2 text p (sn.add 16) ou 18 21 (p + 1)) { mid2 text p (sn.add 16) ou 18 19 p with answer := some false }) := by kernel_rfl
theorem mid2_jump (text : Array Nat) (p : Nat) (sn : Seen) (ou : Bool) : (mid2 text p sn ou 18 21 (p + 1)).step = mid2 text p (sn.add 15) ou 18 35 (p + 1) := by kernel_rfl
theorem mid2_end (text : Array Nat) (p : Nat) (sn : Seen) (ou : Bool) : (mid2 text p sn ou 18 35 (p + 1)).step = 
    (if (ou && ((false && (p + 1) != text.size) || (false && (p + 1) == p))) = true then ({ mid2 text p (sn.add 1) ou 18 35 (p + 1) with answer := some false } : M) else { mid2 text p (sn.add 1) ou 18 35 (p + 1) with handed := p + 1, answer := some true }) := by kernel_rfl
theorem at2_hit (text : Array Nat) (p : Nat) (sn : Seen) (ou : Bool) (hp : p < text.size) (hc : text.getD p 0 = 10) :
    ∃ m', M.runFor 9 (at2 text p sn ou) = m' ∧ Ends m' p (p + 1) := by
  refine ⟨_, rfl, ?_⟩
  rw [runFor_succ, at2_branch, runFor_succ, mid2_cr, if_neg (Nat.not_le.mpr hp), hc]
  show Ends (M.runFor 7 { mid2 text p ((sn.add 7).add 16) ou 11 12 p with answer := some false }) p (p + 1)
  rw [runFor_succ, mid2_next, runFor_succ, mid2_lf, if_neg (Nat.not_le.mpr hp), hc]
  show Ends (M.runFor 5 (mid2 text p (((sn.add 7).add 16).add 16) ou 18 21 (p + 1))) p (p + 1)
  rw [runFor_succ, mid2_jump, runFor_succ, mid2_end, if_neg (by simp)]
  exact ⟨rfl, rfl, rfl⟩
theorem set2 (c : Nat) (sn : Seen) : inSet code2 c code2.size 5 true sn =
    (if (c == 10) = true then .ok (true, sn.add 16) else if (c == 13) = true then .ok (true, (sn.add 16).add 16) else .ok (false, ((sn.add 16).add 16).add 0)) := by kernel_rfl
def find2 (text : Array Nat) (p : Nat) : Nat → Option Nat
  | 0 => none
  | n + 1 => if text.getD p 0 = 10 then some p else find2 text (p + 1) n
theorem admitted2 (m : M) (text : Array Nat) (hc : m.code = code2) (ht : m.text = text) (hl : m.lim = text.size) (h13 : ∀ q, text.getD q 0 ≠ 13) : ∀ (n p fuel : Nat) (sn : Seen), p + n = text.size → n < fuel →
    ∃ sn', M.admitted m fuel p sn = .ok (find2 text p n, sn')
  | n, p, 0, sn, _, h => absurd h (Nat.not_lt_zero _)
  | 0, p, fuel + 1, sn, h, _ => by
    unfold M.admitted
    rw [if_pos (by rw [hl]; omega)]
    exact ⟨sn, rfl⟩
  | n + 1, p, fuel + 1, sn, h, hf => by
    unfold M.admitted
    rw [if_neg (by rw [hl]; omega), hc, ht, set2]
    unfold find2
    by_cases e : text.getD p 0 = 10
    · rw [if_pos (by rw [e]; rfl), if_pos e]
      exact ⟨_, rfl⟩
    · rw [if_neg (by simpa using e), if_neg (by simpa using h13 p), if_neg e]
      exact admitted2 m text hc ht hl h13 n (p + 1) fuel _ (by omega) (by omega)
theorem find2_spec (text : Array Nat) : ∀ (n p q : Nat), p + n = text.size → find2 text p n = some q → q < text.size ∧ text.getD q 0 = 10
  | 0, _, _, _, h => by cases h
  | n + 1, p, q, hs, h => by
    unfold find2 at h
    by_cases e : text.getD p 0 = 10
    · rw [if_pos e] at h; cases h; exact ⟨by omega, e⟩
    · rw [if_neg e] at h; exact find2_spec text n (p + 1) q (by omega) h
def dead2 (text : Array Nat) (p : Nat) (mu : Bool) : M :=
  { code := code2, text, lim := text.size, start := p, mustAdvance := mu, pc := 10, pos := p, handed := p, marks := #[], answer := some false, seen := ({} : Seen).add 14 }
theorem search2 (text : Array Nat) (p : Nat) (mu : Bool) : forSearch code2 text 0 p text.size mu = (if (decide (p > text.size) || decide (text.size - p < 1)) = true then dead2 text p mu else (base2 text p mu).attemptFrom p true) := by kernel_rfl
theorem from2 (text : Array Nat) (p : Nat) (mu : Bool) : (base2 text p mu).attemptFrom p true = (match M.admitted (base2 text p mu) (text.size + 1 - p) p (({} : Seen).add 14) with
    | .ok (some s, seen) => at2 text s seen true
    | .ok (none, seen) => { base2 text p mu with seen, answer := some false }
    | .error why => (base2 text p mu).stick why) := by kernel_rfl
theorem next2 {Mo : Model} {A : Around} {E : Value → Shared → Prop} {s : Shared} {Q : Option M → Shared → Prop} (text : Array Nat) (p : Nat) (mu : Bool) (hp : p ≤ text.size) (hsz : text.size ≤ 2 ^ 30) (h13 : ∀ q, text.getD q 0 ≠ 13)
    (h1 : ∀ q m', find2 text p (text.size - p) = some q → Ends m' q (q + 1) → Q (some m') s) (h2 : find2 text p (text.size - p) = none → Q none s) :
    wpAny Mo A (Builtin.Re.reRunToEnd (forSearch code2 text 0 p text.size mu)) Q E s := by
  rw [search2]
  by_cases hl : p < text.size
  · rw [if_neg (by simp; omega), from2]
    obtain ⟨sn', e⟩ := admitted2 (base2 text p mu) text rfl rfl rfl h13 (text.size - p) p (text.size + 1 - p) (({} : Seen).add 14) (by omega) (by omega)
    rw [e]
    cases hf : find2 text p (text.size - p) with
    | none => exact wp_missed (N := 1) (m' := ({ base2 text p mu with seen := sn', answer := some false } : M).step) rfl rfl (by omega) (by omega) (h2 hf)
    | some q =>
      obtain ⟨a, b⟩ := find2_spec text _ p q (by omega) hf
      obtain ⟨m', a3, a4⟩ := at2_hit text q sn' true a b
      exact wp_found a3 a4.out (by omega) (by omega) (h1 q m' hf a4)
  · rw [if_pos (by simp; omega)]
    have e : text.size - p = 0 := by omega
    exact wp_missed (N := 1) (m' := (dead2 text p mu).step) rfl rfl (by omega) (by omega) (h2 (by rw [e]; rfl))
end Mine
end

section
open PySem PySem.Builtin PySem.Builtin.Re PyProof.Rows
set_option maxRecDepth 100000
namespace Mine
open PySem.Sre (M Seen forSearch)

/-! what a replacing of single signs makes -/
def findH (hit : Nat → Bool) (p : Nat) : Nat → Option Nat
  | 0 => none
  | n + 1 => if hit p = true then some p else findH hit (p + 1) n
def outH (hit : Nat → Bool) (text : Array Nat) (r : List Nat) (p : Nat) : Nat → List Nat
  | 0 => []
  | n + 1 => (if hit p = true then r else [text.getD p 0]) ++ outH hit text r (p + 1) n
def hit1 (text : Array Nat) (p : Nat) : Bool := rowStart text p && text.getD p 0 == 46
def hit2 (text : Array Nat) (p : Nat) : Bool := text.getD p 0 == 10
theorem find1_eq (text : Array Nat) : ∀ n p, find1 text p n = findH (hit1 text) p n
  | 0, _ => rfl
  | n + 1, p => by
    show (if rowStart text p = true ∧ text.getD p 0 = 46 then some p else find1 text (p + 1) n) = (if hit1 text p = true then some p else findH (hit1 text) (p + 1) n)
    rw [find1_eq text n (p + 1)]
    simp only [hit1, Bool.and_eq_true, beq_iff_eq]
theorem find2_eq (text : Array Nat) : ∀ n p, find2 text p n = findH (hit2 text) p n
  | 0, _ => rfl
  | n + 1, p => by
    show (if text.getD p 0 = 10 then some p else find2 text (p + 1) n) = (if hit2 text p = true then some p else findH (hit2 text) (p + 1) n)
    rw [find2_eq text n (p + 1)]
    simp only [hit2, beq_iff_eq]
theorem part_succ (text : Array Nat) {p q : Nat} (h : p < q) (hq : q ≤ text.size) : (text.extract p q).toList = text.getD p 0 :: (text.extract (p + 1) q).toList := by
  rw [Array.toList_extract, Array.toList_extract, List.extract_eq_take_drop, List.extract_eq_take_drop]
  have e : text.getD p 0 = text.toList[p]'(by simpa using Nat.lt_of_lt_of_le h hq) := by simp [Array.getD, Nat.lt_of_lt_of_le h hq]
  rw [List.drop_eq_getElem_cons (by simpa using Nat.lt_of_lt_of_le h hq), e]
  obtain ⟨k, hk⟩ : ∃ k, q - p = k + 1 := ⟨q - p - 1, by omega⟩
  rw [hk, List.take_succ_cons, show q - (p + 1) = k by omega]
theorem part_nil (text : Array Nat) (p : Nat) : (text.extract p p).toList = [] := by simp
theorem findH_none {hit : Nat → Bool} {text : Array Nat} {r : List Nat} : ∀ n p, p + n ≤ text.size → findH hit p n = none → outH hit text r p n = (text.extract p (p + n)).toList
  | 0, p, _, _ => by simp [outH]
  | n + 1, p, hs, h => by
    unfold findH at h
    by_cases e : hit p = true
    · rw [if_pos e] at h; cases h
    · rw [if_neg e] at h
      unfold outH
      rw [if_neg e, part_succ text (by omega) hs, findH_none n (p + 1) (by omega) h, show p + 1 + n = p + (n + 1) by omega]
      rfl
theorem findH_some {hit : Nat → Bool} {text : Array Nat} {r : List Nat} : ∀ n p q, p + n ≤ text.size → findH hit p n = some q → p ≤ q ∧ q < p + n ∧ outH hit text r p n = (text.extract p q).toList ++ r ++ outH hit text r (q + 1) (p + n - (q + 1))
  | 0, p, q, _, h => by cases h
  | n + 1, p, q, hs, h => by
    unfold findH at h
    by_cases e : hit p = true
    · rw [if_pos e] at h; cases h
      refine ⟨Nat.le_refl _, by omega, ?_⟩
      show (if hit p = true then r else [text.getD p 0]) ++ outH hit text r (p + 1) n = _
      rw [if_pos e, part_nil, show p + (n + 1) - (p + 1) = n by omega]
      rfl
    · rw [if_neg e] at h
      obtain ⟨h1, h2, h3⟩ := findH_some (text := text) (r := r) n (p + 1) q (by omega) h
      refine ⟨by omega, by omega, ?_⟩
      rw [part_succ text (by omega) (by omega)]
      show (if hit p = true then r else [text.getD p 0]) ++ outH hit text r (p + 1) n = _
      rw [if_neg e, h3, show p + 1 + n = p + (n + 1) by omega]
      simp
theorem outH_len {hit : Nat → Bool} {text : Array Nat} {r : List Nat} (hr : 1 ≤ r.length) : ∀ n p, (outH hit text r p n).length ≤ r.length * n
  | 0, _ => by simp [outH]
  | n + 1, p => by
    unfold outH
    rw [List.length_append, Nat.mul_succ]
    have := outH_len (text := text) hr n (p + 1) (hit := hit)
    split
    · omega
    · simp only [List.length_singleton]; omega

/-- the pieces' text -/
def flatOf (l : List (PySem.Str × Tok)) : List Nat := (l.map fun p => p.1.cps.toList).flatten
structure PatAt (h : Heap) (P : Addr) (code : Array Nat) : Prop where
  obj : ∃ cA fs, h.get? P = some { cls := .type "re.Pattern", data := .fields fs } ∧ fs.getD 5 .none = .ref cA ∧ fs.getD 2 .none = .int 0 0 ∧ fs.getD 6 .none = .int 0 0 ∧
    ∃ items n, h.get? cA = some { cls := .type "tuple", data := .seq items n } ∧ (items.map reRawOf).map (·.toNat) = code
theorem PatAt.keeps {h h' : Heap} {P : Addr} {code : Array Nat} (x : PatAt h P code) (k : ∀ b o, h.get? b = some o → o.cls ≠ .type "list" → h'.get? b = some o) : PatAt h' P code := by
  obtain ⟨cA, fs, h1, h2, h3, h4, items, n, h5, h6⟩ := x.obj
  exact ⟨cA, fs, k _ _ h1 (by simp), h2, h3, h4, items, n, k _ _ h5 (by simp), h6⟩

section
variable {prog : Program} {w : World} {A : Around} {E : Value → Shared → Prop} {s : Shared} {P l : Addr} {code : Array Nat} {x r : PySem.Str} {t tr : Tok}
theorem wp_whole {Q : ReTarget → Shared → Prop} (hP : PatAt s.heap P code)
    (h : Q { pattern := .ref P, string := .str x t, code := code, text := x.cps, kind := 0, groups := 0, pos := 0, lim := x.cps.size } s) : wpAny (model prog w) A (reWholeTarget (.ref P) (.str x t)) Q E s := by
  obtain ⟨cA, fs, h1, h2, h3, h4, items, n, h5, h6⟩ := hP.obj
  unfold reWholeTarget
  refine wpAny_bind (wpAny_fieldsOf h1 rfl ?_)
  refine wpAny_bind (show wpAny _ _ (reTextOf (.str x t)) _ _ _ from ?_)
  unfold reTextOf asStr?
  refine wpAny_bind (wpAny_pure (wpAny_pure ?_))
  dsimp only
  rw [h4, h3, h2]
  refine wpAny_bind (show wpAny _ _ (reNoCollectionInside _ _) _ _ _ from wpAny_pure ?_)
  refine wpAny_bind (show wpAny _ _ (reRawItems (.ref cA)) _ _ _ from ?_)
  unfold reRawItems
  refine wpAny_bind (wpAny_seqItems h5 rfl (wpAny_pure (wpAny_pure ?_)))
  rw [← h6] at h
  exact h
theorem wp_slice {Q : Value → Shared → Prop} {text : Array Nat} {b e : Nat} (hs : text.size ≤ 2 ^ 20) (h : Q (.str ⟨text.extract b e⟩ s.toks) { s with toks := s.toks + 1 }) : wpAny (model prog w) A (reSlice text 0 b e) Q E s := by
  show wpAny _ _ (mkStr ⟨text.extract b e⟩) Q E s
  refine wpAny_mkStr h ?_
  show (text.extract b e).size ≤ sizeLine
  rw [Array.size_extract, show sizeLine = 2 ^ 24 from rfl]
  omega

/-- what the engine is to find -/
def Finds (prog : Program) (w : World) (code : Array Nat) (text : Array Nat) (hit : Nat → Bool) : Prop :=
  ∀ (A : Around) (E : Value → Shared → Prop) (s : Shared) (Q : Option M → Shared → Prop) (p : Nat) (mu : Bool), p ≤ text.size →
    (∀ q m', findH hit p (text.size - p) = some q → Ends m' q (q + 1) → Q (some m') s) → (findH hit p (text.size - p) = none → Q none s) →
    wpAny (model prog w) A (reRunToEnd (forSearch code text 0 p text.size mu)) Q E s
abbrev subArgs (P : Addr) (x : PySem.Str) (t : Tok) (r : PySem.Str) (tr : Tok) (n p : Nat) (must : Bool) (l : Addr) : Args :=
  ⟨[.ref P, .str x t, .str r tr, rawInt 0, rawInt 0, rawInt n, rawInt p, rawInt p, .bool must, .ref l, .bool false], []⟩
theorem entry_loop : entryFor table "re.Pattern.sub.loop" = some «re.Pattern.sub.loop» := entryFor_of_fast (by kernel_rfl)
theorem quiet_loop (a : Args) : (Code.builtin "re.Pattern.sub.loop" a).quiet = true := plainId_quiet (by decide +kernel) a
theorem upd_push {h : Heap} {l : Addr} {vs : Array Value} {n : Nat} (v : Value) (e : h.get? l = some (W.listOf vs n)) : (h.update l (Obj.mapSeq (·.push v))).get? l = some (W.listOf (vs.push v) (n + 1)) := by
  refine (Heap.get?_update_self _ e ?_).trans ?_
  · rfl
  · congr 1
    show ({ cls := .type "list", data := .seq (vs.push v) (if (vs.push v).size == vs.size then n else n + 1) } : Obj) = _
    rw [if_neg (by simp)]
theorem flat_snoc (l : List (PySem.Str × Tok)) (y : PySem.Str) (u : Tok) : flatOf (l ++ [(y, u)]) = flatOf l ++ y.cps.toList := by
  simp [flatOf]
theorem strs_snoc (l : List (PySem.Str × Tok)) (y : PySem.Str) (u : Tok) : (strValues l).toArray.push (.str y u) = (strValues (l ++ [(y, u)])).toArray := by
  simp [strValues]
theorem glue_flat (sep : PySem.Str) (hs : sep.cps = #[]) (l : List PySem.Str) : Txt.join sep l = ⟨(l.map fun y => y.cps.toList).flatten.toArray⟩ := by
  have key : ∀ (l : List PySem.Str) (acc : Array Nat), l.foldl (fun acc p => acc ++ sep.cps ++ p.cps) acc = acc ++ (l.map fun y => y.cps.toList).flatten.toArray := by
    intro l
    induction l with
    | nil => intro acc; simp
    | cons y r ih =>
      intro acc
      rw [List.foldl_cons, ih, hs]
      apply Array.ext'
      simp
  unfold Txt.join Builtin.Str.glued
  congr 1
  rw [key]
  cases l with
  | nil => rfl
  | cons y r => apply Array.ext'; simp
theorem flat_len (l : List (PySem.Str × Tok)) : (flatOf l).length = ((l.map (·.1)).map (·.length)).sum := by
  induction l with
  | nil => rfl
  | cons y r ih =>
    show (y.1.cps.toList ++ flatOf r).length = y.1.length + ((r.map (·.1)).map (·.length)).sum
    rw [List.length_append, ih]
    rfl
theorem not_list {h : Heap} {l b : Addr} {vs : Array Value} {n : Nat} {o : Obj} (e : h.get? l = some (W.listOf vs n)) (f : h.get? b = some o) (hc : o.cls ≠ .type "list") : b ≠ l := by
  intro q
  subst q
  rw [e] at f
  cases f
  exact hc rfl

theorem part_len (text : Array Nat) {p q : Nat} (hq : q ≤ text.size) : (text.extract p q).toList.length = q - p := by
  show (text.extract p q).size = q - p
  rw [Array.size_extract]; omega
theorem sub_loop {R : Result → Shared → Prop} {hit : Nat → Bool} (Fi : Finds prog w code x.cps hit) (hr1 : 1 ≤ r.cps.size) (hr2 : r.cps.size ≤ 4) (hx : x.cps.size ≤ 10000) :
    ∀ (k p n : Nat) (must : Bool) (pl : List (PySem.Str × Tok)) (m : Nat) (s : Shared), p + k = x.cps.size → PatAt s.heap P code → s.heap.get? l = some (W.listOf (strValues pl).toArray m) →
      (flatOf pl).length ≤ 4 * p → pl.length ≤ 2 * p →
      (∀ h' tk tok, Heap.SameBut l s.heap h' → R (.ok (.ret (.str ⟨(flatOf pl ++ outH hit x.cps r.cps.toList p k).toArray⟩ tok))) { s with heap := h', toks := tk }) →
      codeAny (model prog w) A (.builtin "re.Pattern.sub.loop" (subArgs P x t r tr n p must l)) R s := by
  intro k
  induction k using Nat.strongRecOn with
  | ind k ih =>
  intro p n must pl m s hk hP hl hf hn post
  refine codeAny_builtin entry_loop ?_
  unfold «re.Pattern.sub.loop»
  dsimp only [subArgs, rawInt]
  refine wpAny_bind (wp_whole hP ?_)
  rw [if_pos (by decide)]
  refine wpAny_bind (show wpAny _ _ (reLiteralCannotBeTurned (.str r tr)) _ _ _ from wpAny_pure ?_)
  refine wpAny_bind ?_
  rw [if_neg (by simp)]
  unfold reNextFound
  dsimp only
  have slen : (strValues pl).toArray.size = pl.length := by simp [strValues]
  refine Fi _ _ _ _ _ _ (by show p ≤ x.cps.size; omega) (fun q m' hq he => ?_) (fun hq => ?_)
  · have hk' : x.cps.size - p = k := by omega
    rw [show ((p : Int).toNat) = p from rfl, hk'] at hq
    obtain ⟨h1, h2, h3⟩ := findH_some (text := x.cps) (r := r.cps.toList) _ _ _ (by omega) hq
    have e1 := he.start
    have e2 := he.handed
    dsimp only
    rw [e1, e2]
    have kk : p + k - (q + 1) < k := by omega
    have rest : ∀ (s' : Shared) (pl' : List (PySem.Str × Tok)) (m' : Nat), PatAt s'.heap P code → s'.heap.get? l = some (W.listOf (strValues pl').toArray m') → flatOf pl' = flatOf pl ++ (x.cps.extract p q).toList → pl'.length ≤ pl.length + 1 →
        Heap.SameBut l s.heap s'.heap → s' = { s with heap := s'.heap, toks := s'.toks } →
        wpAny (model prog w) (A.under (.builtin "re.Pattern.sub.loop" (subArgs P x t r tr n p must l))) (do
            updateSeq l fun y => y.push (Value.str r tr)
            again (Code.builtin "re.Pattern.sub.loop" (subArgs P x t r tr (n + 1) (q + 1) ((q + 1) == q) l)))
          (fun fin s' => match fin with | .done f => R (.ok f) s' | .again c' => c'.quiet = true ∧ codeAny (model prog w) A c' R s') (fun e s' => R (.error e) s') s' := by
      intro s' pl' m' hP' hl' hf' hn' hsb hs'
      have sl' : (strValues pl').toArray.size = pl'.length := by simp [strValues]
      have flen : (flatOf pl').length = (flatOf pl).length + (q - p) := by
        rw [hf', List.length_append, part_len _ (by omega)]
      refine wpAny_bind (wpAny_updateSeq hl' rfl ?_ (by rw [sl', show sizeLine = 2 ^ 24 from rfl]; omega) (by rw [Array.size_push, sl', show sizeLine = 2 ^ 24 from rfl]; omega))
      refine wpAny_pure ⟨quiet_loop _, ?_⟩
      have hl2 := upd_push (.str r tr) hl'
      rw [strs_snoc] at hl2
      refine ih _ kk (q + 1) (n + 1) _ (pl' ++ [(r, tr)]) _ _ (by omega) ?_ hl2 ?_ ?_ ?_
      · exact hP'.keeps fun b o e hc => (Heap.SameBut.update _ _ _).2 b (not_list hl' e hc) |>.trans e
      · rw [flat_snoc, List.length_append, show r.cps.toList.length = r.cps.size from rfl]; omega
      · rw [List.length_append, List.length_singleton]; omega
      · intro h' tk tok hsb'
        have := post h' tk tok ((hsb.trans (Heap.SameBut.update _ _ _)).trans hsb')
        rw [h3] at this
        rw [hs', flat_snoc, hf']
        simpa using this
    by_cases hpq : p < q
    · rw [if_pos (by show ((p : Int).toNat) < q; exact hpq)]
      refine wpAny_bind (wp_slice (by omega) ?_)
      refine wpAny_bind (wpAny_updateSeq (o := W.listOf (strValues pl).toArray m) hl rfl ?_ (by rw [slen, show sizeLine = 2 ^ 24 from rfl]; omega) (by rw [Array.size_push, slen, show sizeLine = 2 ^ 24 from rfl]; omega))
      have hl2 := upd_push (.str ⟨x.cps.extract p q⟩ s.toks) hl
      rw [strs_snoc] at hl2
      exact rest _ _ _ (hP.keeps fun b o e hc => (Heap.SameBut.update _ _ _).2 b (not_list hl e hc) |>.trans e) hl2 (by rw [flat_snoc]) (by simp) (Heap.SameBut.update _ _ _) rfl
    · rw [if_neg (by show ¬ ((p : Int).toNat) < q; exact hpq)]
      obtain rfl : p = q := by omega
      exact rest s pl m hP hl (by simp) (by omega) (Heap.SameBut.refl _ _) rfl
  · have hk' : x.cps.size - p = k := by omega
    rw [show ((p : Int).toNat) = p from rfl, hk'] at hq
    have h3 := findH_none (text := x.cps) (r := r.cps.toList) k p (by omega) hq
    dsimp only
    have rest : ∀ (s' : Shared) (pl' : List (PySem.Str × Tok)) (m' : Nat), s'.heap.get? l = some (W.listOf (strValues pl').toArray m') → flatOf pl' = flatOf pl ++ (x.cps.extract p (p + k)).toList → pl'.length ≤ pl.length + 1 →
        Heap.SameBut l s.heap s'.heap → s' = { s with heap := s'.heap, toks := s'.toks } →
        wpAny (model prog w) (A.under (.builtin "re.Pattern.sub.loop" (subArgs P x t r tr n p must l))) (do
            let joiner ← reSlice x.cps 0 0 0
            let items ← seqItems? (Value.ref l)
            if (items.getD #[]).isEmpty = true then do
              let text ← pure joiner
              if false = true then do
                let v ← holding [text] do
                  let v ← mkInt n
                  newTuple [text, v]
                ret v
              else ret text
            else do
              let text ← call (.builtin (if (0 == 0) = true then "str.join" else "bytes.join")) [joiner, .ref l]
              if false = true then do
                let v ← holding [text] do
                  let v ← mkInt n
                  newTuple [text, v]
                ret v
              else ret text)
          (fun fin s' => match fin with | .done f => R (.ok f) s' | .again c' => c'.quiet = true ∧ codeAny (model prog w) A c' R s') (fun e s' => R (.error e) s') s' := by
      intro s' pl' m' hl' hf' hn' hsb hs'
      refine wpAny_bind (wp_slice (by omega) ?_)
      refine wpAny_bind (wpAny_seqItems (o := W.listOf (strValues pl').toArray m') hl' rfl ?_)
      have fin : ∀ h tk tok, Heap.SameBut l s'.heap h → R (.ok (.ret (.str ⟨(flatOf pl').toArray⟩ tok))) { s' with heap := h, toks := tk } := by
        intro h tk tok hsb'
        have := post h tk tok (hsb.trans hsb')
        rw [h3, ← hf'] at this
        rw [hs']; exact this
      cases pl' with
      | nil =>
        rw [if_pos (by rfl)]
        refine wpAny_bind (wpAny_pure ?_)
        rw [if_neg (by decide)]
        refine wpAny_pure ?_
        have := fin s'.heap (s'.toks + 1) s'.toks (Heap.SameBut.refl _ _)
        have e : x.cps.extract 0 0 = #[] := by simp
        rw [e]
        exact this
      | cons y ys =>
        rw [if_neg (by simp [strValues])]
        refine wpAny_bind ?_
        rw [if_pos (by decide)]
        refine SC.join (l := y :: ys) ⟨_, hl', rfl, _, rfl⟩ rfl ?_ ?_
        · refine joinOk_of_weight ?_ (by simp [Str.length])
          rw [← flat_len, hf', List.length_append, part_len _ (by omega), List.length_map]
          omega
        · intro tok tk
          dsimp only
          rw [if_neg (by decide)]
          refine wpAny_pure ?_
          rw [glue_flat _ (by simp)]
          have := fin s'.heap tk tok (Heap.SameBut.refl _ _)
          unfold flatOf at this
          rw [List.map_map]
          exact this
    by_cases hpq : p < x.cps.size
    · rw [if_pos (by show ((p : Int).toNat) < x.cps.size; exact hpq)]
      refine wpAny_bind (wp_slice (by omega) ?_)
      refine wpAny_bind (wpAny_updateSeq (o := W.listOf (strValues pl).toArray m) hl rfl ?_ (by rw [slen, show sizeLine = 2 ^ 24 from rfl]; omega) (by rw [Array.size_push, slen, show sizeLine = 2 ^ 24 from rfl]; omega))
      have hl2 := upd_push (.str ⟨x.cps.extract p x.cps.size⟩ s.toks) hl
      rw [strs_snoc] at hl2
      exact rest _ _ _ hl2 (by rw [flat_snoc, hk]) (by simp) (Heap.SameBut.update _ _ _) rfl
    · rw [if_neg (by show ¬ ((p : Int).toNat) < x.cps.size; exact hpq)]
      obtain rfl : k = 0 := by omega
      exact rest s pl m hl (by simp) (by omega) (Heap.SameBut.refl _ _) rfl
end

theorem slot_sub : Slot "re.Pattern" "sub" "re.Pattern.sub" :=
  .of (owner := "re.Pattern") (n := "sub") (by rw [typeLookup_type, builtinLookup_eq_fast]; kernel_rfl) (by decide +kernel) (by decide +kernel) (by decide +kernel)
    (by first | exact .inl (by decide +kernel) | exact .inr (by decide +kernel)) (by rw [isSubtype_type]; kernel_rfl)
theorem type_sub : typeOf (.builtin "re.Pattern.sub") = pure (.type "method_descriptor") := by show builtinType _ = _; rw [builtinType_eq_fast]; kernel_rfl
theorem entry_sub : entryFor table "re.Pattern.sub" = some Builtin.«re.Pattern.sub» := entryFor_of_tree (by kernel_rfl)
theorem args_sub (a b c : Value) : argsOk "re.Pattern.sub" ⟨[a, b, c], []⟩ := by
  unfold argsOk
  rw [signature?_of (id := "re.Pattern.sub") (n := ['b', 'u', 's']) (o := ['n', 'r', 'e', 't', 't', 'a', 'P', '.', 'e', 'r']) (rows := Manifest.sig_re_Pattern) (by kernel_rfl) (by kernel_rfl)]; kernel_rfl
theorem named_sub (a b : Value) : reNamed "re.Pattern.sub" "sub" ["repl", "string", "count"] 2 [a, b] [] = pure [some a, some b, none] := by kernel_rfl
theorem str_call : typeLookup (.type "str") "__call__" = pure none := by rw [typeLookup_type, builtinLookup_eq_fast]; kernel_rfl

section
variable {prog : Program} {w : World} {A : Around} {E : Value → Shared → Prop} {s : Shared} {P : Addr} {code : Array Nat} {x r : PySem.Str} {t tr : Tok}
theorem call_sub {Q : Value → Shared → Prop} {hit : Nat → Bool} (Fi : Finds prog w code x.cps hit) (hr1 : 1 ≤ r.cps.size) (hr2 : r.cps.size ≤ 4) (hr3 : r.cps.contains 92 = false) (hx : x.cps.size ≤ 10000) (hP : PatAt s.heap P code)
    (post : ∀ h' tk tok, (∀ b o, s.heap.get? b = some o → h'.get? b = some o) → Q (.str ⟨(outH hit x.cps r.cps.toList 0 x.cps.size).toArray⟩ tok) { s with heap := h', toks := tk }) :
    wpAny (model prog w) A (call (.builtin "re.Pattern.sub") [.ref P, .str r tr, .str x t]) Q E s := by
  have hT : s.TypeIs (.ref P) "re.Pattern" := by
    obtain ⟨cA, fs, h1, _⟩ := hP.obj
    exact ⟨_, h1, rfl⟩
  refine wpAny_call (codeAny_call_builtin slot_sub.plain entry_sub (slot_sub.check _ _ _ _ _ _ _ _ hT (args_sub _ _ _) ?_))
  unfold «re.Pattern.sub» reSubstitute
  dsimp only
  rw [named_sub]
  refine wpAny_bind (wpAny_pure ?_)
  dsimp only
  refine wpAny_bind (wpAny_pure ?_)
  refine wpAny_bind (wpAny_specialOf (typeIs_str _ _ _) str_call ?_)
  rw [if_neg (by simp)]
  unfold asStr?
  refine wpAny_bind (wpAny_pure ?_)
  dsimp only
  refine wpAny_bind (wpAny_pure ?_)
  rw [if_neg (by simp), if_pos (by rw [hr3]; rfl)]
  refine wpAny_bind (wpAny_pure ?_)
  dsimp only
  refine wpAny_bind (wpAny_holding (wp_whole hP ?_))
  rw [if_neg (by decide)]
  refine wpAny_bind (show wpAny _ _ (newList []) _ _ _ from wpAny_newObj_type ?_)
  refine wpAny_pure ⟨quiet_loop _, ?_⟩
  have hsz : ∀ b o, s.heap.get? b = some o → b ≠ s.heap.objs.size := fun b o e => Nat.ne_of_lt (Heap.lt_size e)
  refine sub_loop Fi hr1 hr2 hx x.cps.size 0 0 false [] 0 _ (by omega) ?_ (Heap.get?_push_size _ rfl) (by simp [flatOf]) (by simp) ?_
  · exact hP.keeps fun b o e _ => Heap.get?_push_of_some _ e
  · intro h' tk tok hsb
    exact post h' tk tok fun b o e => (hsb.2 b (hsz b o e)).trans (Heap.get?_push_of_some _ e)
end

/-! the two patterns of the text -/
theorem finds1 {prog : Program} {w : World} (text : Array Nat) (hx : text.size ≤ 10000) : Finds prog w code1 text (hit1 text) := fun A E s Q p mu hp h1 h2 =>
  next1 text p mu hp (by omega) (fun q m' hq he => h1 q m' (by rw [← find1_eq]; exact hq) he) (fun hq => h2 (by rw [← find1_eq]; exact hq))
theorem finds2 {prog : Program} {w : World} (text : Array Nat) (hx : text.size ≤ 10000) (h13 : ∀ q, text.getD q 0 ≠ 13) : Finds prog w code2 text (hit2 text) := fun A E s Q p mu hp h1 h2 =>
  next2 text p mu hp (by omega) h13 (fun q m' hq he => h1 q m' (by rw [← find2_eq]; exact hq) he) (fun hq => h2 (by rw [← find2_eq]; exact hq))
end Mine
end

section
open PySem PySem.W PySem.Builtin PyProof.Rows PySem.Calls
set_option maxRecDepth 100000
namespace Mine
abbrev prg : Program := PySem.Challenge.rw_pe0021_01.row.prog
/-- what the text's top has left -/
structure Gr (w : World) (h : Heap) : Prop where
  X : (hd.heap_39 w.params).In h
  T : ∃ p lz mg mb, TopRead p lz mg mb h
abbrev Keep (h h' : Heap) : Prop := ∀ b o, h.get? b = some o → h'.get? b = some o
theorem Keep.refl (h : Heap) : Keep h h := fun _ _ e => e
theorem Keep.trans {a b c : Heap} (x : Keep a b) (y : Keep b c) : Keep a c := fun b o e => y b o (x b o e)
theorem Gr.keeps {w : World} {h h' : Heap} (G : Gr w h) (k : Keep h h') : Gr w h' := ⟨fun a o e => k _ _ (G.X a o e), let ⟨p, lz, mg, mb, T⟩ := G.T; ⟨p, lz, mg, mb, T.keeps k⟩⟩
theorem Gr.lim {w : World} {h : Heap} (G : Gr w h) : h.NoLimit := let ⟨_, _, _, _, T⟩ := G.T; T.nolimit
/-- room on the stack -/
structure Room (A : Around) (d u : Nat) : Prop where
  depth : A.depth + d < recursionLimit
  units : A.units + u < cLine
  calm : A.handled = none
section
variable {w : World} {A : Around} {E : Value → Shared → Prop} {s : Shared} {env : Env} {x : PySem.Str} {pos : Pos} {v : Value} {Q : Value → Shared → Prop}
theorem ldG (G : Gr w s.heap) (e : nsIn (hd.heap_39 w.params) mainGlobals x = some (some v)) (h : Q v s) (hg : env.globals = mainGlobals := by rfl) (hk : env.scope.kind = .function := by rfl) (hx : env.kindOf x = some .globalImplicit := by rfl)
    (hb : (x == ("__debug__" : PySem.Str)) = false := by decide) : wpAny (model prg w) A (eval (.Name x pos) env) Q E s := by
  obtain ⟨_, _, mg, mb, T⟩ := G.T
  exact Name_function_global hk hx (loadGlobal_global (env := env) (hg ▸ T.g) (mg_of G.X T.g e) h) hb
theorem ldB (G : Gr w s.heap) (e : nsIn (hd.heap_39 w.params) mainGlobals x = some none) (hv : bootBuiltins x = some v) (h : Q v s) (hn : x ≠ "__name__" := by decide) (hg : env.globals = mainGlobals := by rfl) (hbu : env.builtins = builtinsNs := by rfl) (hk : env.scope.kind = .function := by rfl)
    (hx : env.kindOf x = some .globalImplicit := by rfl) (hb : (x == ("__debug__" : PySem.Str)) = false := by decide) : wpAny (model prg w) A (eval (.Name x pos) env) Q E s := by
  obtain ⟨_, _, mg, mb, T⟩ := G.T
  exact Name_function_global hk hx (loadGlobal_builtin (env := env) (hg ▸ T.g) (mg_none_of G.X T.g e) (hbu ▸ T.b) ((T.builtins x hn).trans hv) h) hb
theorem ldL {m : PySem.Str → Option Value} (F : s.heap.Ns env.locals m) (hv : m x = some v) (h : Q v s) (hk : env.scope.kind = .function := by rfl) (hx : env.kindOf x = some .local := by rfl)
    (hb : (x == ("__debug__" : PySem.Str)) = false := by decide) : wpAny (model prg w) A (eval (.Name x pos) env) Q E s := wpAny_Name (wpAny_loadName_local hk hx F hv h) hb
end

theorem plain_pat : PlainAttrs "re.Pattern" :=
  ⟨⟨"object.__getattribute__", by rw [typeLookup_type, builtinLookup_eq_fast]; kernel_rfl, by decide +kernel⟩, by rw [typeLookup_type, builtinLookup_eq_fast]; kernel_rfl⟩

section
variable {w : World} {A : Around} {s : Shared}
theorem pat1 (G : Gr w s.heap) : PatAt s.heap 43 code1 := ⟨42, _, G.X 43 _ rfl, rfl, rfl, rfl, _, _, G.X 42 _ rfl, by kernel_rfl⟩
theorem pat2 (G : Gr w s.heap) : PatAt s.heap 48 code2 := ⟨47, _, G.X 48 _ rfl, rfl, rfl, rfl, _, _, G.X 47 _ rfl, by kernel_rfl⟩
theorem pat_method {P : Addr} {code : Array Nat} {pl : Sem Bool} {E : Value → Shared → Prop} {Q : Value × List Value → Shared → Prop} (hP : PatAt s.heap P code) (h : Q (.builtin "re.Pattern.sub", [.ref P]) s) : wpAny (model prg w) A (getMethod (.ref P) "sub" pl) Q E s := by
  obtain ⟨cA, fs, h1, _⟩ := hP.obj
  exact getMethod_builtin ⟨_, h1, rfl⟩ plain_pat slot_sub type_sub (fun a e => by cases e; exact ⟨_, h1, rfl⟩) h
end
/-- what quotedata makes of a text without returns -/
def quoted (x : PySem.Str) : PySem.Str :=
  let y : Array Nat := (outH (hit2 x.cps) x.cps [13, 10] 0 x.cps.size).toArray
  ⟨(outH (hit1 y) y [46, 46] 0 y.size).toArray⟩
section
variable {w : World} {A : Around} {s : Shared}
theorem quote_call {R : Result → Shared → Prop} {x : PySem.Str} {t : Tok} (G : Gr w s.heap) (ro : Room A 1 10) (hx : x.cps.size ≤ 2000) (h13 : ∀ q, x.cps.getD q 0 ≠ 13)
    (post : ∀ h' tk tok, Keep s.heap h' → R (.ok (.ret (.str (quoted x) tok))) { s with heap := h', toks := tk }) :
    codeAny (model prg w) A (.call (.ref 55) ⟨[.str x t], []⟩) R s := by
  refine codeAny_call_def (by have := ro.depth; omega) (G.X 55 _ rfl) rfl G.lim (codeRec_of G.X (by rfl)) rfl (.of_eq (binds := [("data", .str x t)]) (by rfl)) (by decide) (locs (by rfl)) (fun h₀ hns hk => ?_)
  refine wpAny_execs_cons (wpAny_Return_some ?_)
  have G₀ := G.keeps hk
  refine MethodCall_ ?_
  refine ldG (v := .ref 43) G₀ (by rfl) ?_
  refine pat_method (pat1 G₀) ?_
  refine callWith_method1 ?_
  refine args_cons (Constant_str ?_)
  refine args_cons ?_
  refine MethodCall_ ?_
  refine ldG (v := .ref 48) G₀ (by rfl) ?_
  refine pat_method (pat2 (s := { s with heap := h₀, toks := _ }) G₀) ?_
  refine callWith_method1 ?_
  refine args_cons (ldG (v := .str "\r\n" 355) G₀ (by rfl) ?_)
  refine args_cons (ldL (v := .str x t) hns (by rfl) ?_)
  refine args_nil ?_
  refine call_sub (hit := hit2 x.cps) (code := code2) (finds2 x.cps (by omega) h13) (by decide) (by decide) (by decide +kernel) (by omega) (pat2 (s := { s with heap := h₀, toks := _ }) G₀) ?_
  intro h₁ tk₁ tok₁ hk₁
  have G₁ := G₀.keeps hk₁
  refine args_nil ?_
  have hlen : (outH (hit2 x.cps) x.cps (Str.ofString "\r\n").cps.toList 0 x.cps.size).toArray.size ≤ 4000 := by
    have := outH_len (hit := hit2 x.cps) (text := x.cps) (r := (Str.ofString "\r\n").cps.toList) (by decide) x.cps.size 0
    have e : (Str.ofString "\r\n").cps.toList.length = 2 := by decide
    rw [e] at this
    rw [List.size_toArray]; omega
  refine call_sub (hit := hit1 _) (code := code1) (finds1 _ ?_) (by decide) (by decide) (by decide +kernel) ?_ (pat1 (s := { s with heap := h₁, toks := _ }) G₁) ?_
  · exact Nat.le_trans hlen (by decide)
  · exact Nat.le_trans hlen (by decide)
  · intro h₂ tk₂ tok₂ hk₂
    exact post h₂ tk₂ tok₂ (Keep.trans hk (Keep.trans hk₁ hk₂))
end
end Mine
end

section
open PySem PySem.W PySem.Builtin PyProof.Rows PySem.Calls
set_option maxRecDepth 100000
namespace Mine
/-- the list of a comprehension's turns so far -/
def Pre (sel : Nat → Bool) (Y : Nat → Value → Prop) : Nat → List Value → Prop
  | 0, ys => ys = []
  | i + 1, ys => if sel i = true then ∃ r y, Pre sel Y i r ∧ Y i y ∧ ys = r ++ [y] else Pre sel Y i ys
theorem Pre.length {sel : Nat → Bool} {Y : Nat → Value → Prop} : ∀ {i : Nat} {ys : List Value}, Pre sel Y i ys → ys.length ≤ i
  | 0, ys, h => by subst h; exact Nat.le_refl _
  | i + 1, ys, h => by
    unfold Pre at h
    split at h
    · obtain ⟨r, y, h1, _, rfl⟩ := h
      have := Pre.length h1
      simp only [List.length_append, List.length_singleton]; omega
    · have := Pre.length h
      omega

/-- what a comprehension's source is to be -/
def Source (w : World) (A : Around) (E : Value → Shared → Prop) (env : Env) (iter : PySem.Expr) (n : Nat) (P : Nat → Value → Prop) (s : Shared) : Prop :=
  ∀ Q' : Value → Shared → Prop, (∀ (I : Nat) fp h₂ tk₂ St, Keep s.heap h₂ → Walks prg w A I fp [I] n P St → St 0 h₂ → (∀ b ∈ fp, @LT.lt Nat _ b h₂.objs.size) → s.heap.get? I = none → @LT.lt Nat _ I h₂.objs.size → Q' (.ref I) { s with heap := h₂, toks := tk₂ }) →
    wpAny (model prg w) A (eval iter env) (fun xv s₁ => wpAny (model prg w) A (pyIter xv) Q' E s₁) E s
/-- a turn: the tests, then the element; nothing that stands is changed -/
def Turn (w : World) (A : Around) (cenv : Env) (ifs : List PySem.Expr) (elt : PySem.Expr) (b : Bool) (Y : Value → Prop) (s : Shared) : Prop :=
  ∀ E' : Value → Shared → Prop, wpAny (model prg w) A (forIn ifs true fun c r => if r = true then do let ok ← isTrue c cenv (eval c cenv); pure (ForInStep.yield ok) else pure (ForInStep.yield r))
    (fun ok s₃ => ok = b ∧ (∃ h' tk', s₃ = { s with heap := h', toks := tk' } ∧ Keep s.heap h') ∧
      (b = true → wpAny (model prg w) A (eval elt cenv) (fun y s₄ => Y y ∧ ∃ h'' tk'', s₄ = { s₃ with heap := h'', toks := tk'' } ∧ Keep s₃.heap h'') E' s₃)) E' s

theorem none_of {h h' : Heap} {a : Addr} (k : Keep h h') (e : h'.get? a = none) : h.get? a = none := by
  cases q : h.get? a with
  | none => rfl
  | some o => rw [k _ _ q] at e; cases e
theorem ne_of_none {h : Heap} {a b : Addr} {o : Obj} (e : h.get? a = none) (f : h.get? b = some o) : b ≠ a := fun q => by subst q; rw [e] at f; cases f
section
variable {w : World} {A : Around} {E : Value → Shared → Prop} {s : Shared} {env : Env} {elt iter : PySem.Expr} {ifs : List PySem.Expr} {x : PySem.Str} {px pos pos' : Pos} {scope : Scope} {cl : List (PySem.Str × Addr)}
  {n : Nat} {P : Nat → Value → Prop} {sel : Nat → Bool} {Y : Nat → Value → Prop}
theorem comp_core {use : Option (Value → Sem Unit)} {Q0 : Value → Shared → Prop}
    (hsrc : Source w A E env iter n P s)
    (hturn : ∀ i v h tk C m', i < n → P i v → Keep s.heap h → h.Ns C m' → m' x = some v → Turn w A (compEnvC scope cl C env) ifs elt (sel i) (Y i) { s with heap := h, toks := tk })
    (hpost : ∀ (D C : Nat) h tk m' ys, Keep s.heap h → h.get? D = some (LCg.lst ys) → Pre sel Y n ys → s.heap.get? D = none → s.heap.get? C = none → C ≠ D → h.Ns C m' → compPost (model prg w) A E use Q0 (.ref D) C (.ok .next) { s with heap := h, toks := tk })
    (hn : n ≤ 1000)
    (hclos : closureFor scope env = pure cl) (hcell : ∀ y ∈ scope.names, y.2 ≠ .cell) (hkind : scope.kind = .function)
    (hnames : ∀ y ∈ scope.names, y.2 = .local → scope.names.lookup y.1 = some .local) (hx : scope.names.lookup x = some .local)
    (hs : ∀ x, foldedSetIterable iter env x = pure x) :
    wpAny (model prg w) A (comprehension (.ListComp elt [⟨.Name x px, iter, ifs, 0⟩] scope pos) scope env pos' (newList []) false (eval iter env) use) Q0 E s := by
  refine wpAny_comprehension_free (use := use) rfl hs hclos hkind hnames ?_
  refine hsrc _ ?_
  intro I fp h₂ tk₂ St hk₂ W st₂ hfp hI hI₂
  refine wpAny_newObj_type (wpAny_newFunctionEnv hcell (by intro y hy; simp at hy) (fun h₁ hns₁ hsb₁ => ?_) hkind)
  dsimp only at hns₁ hsb₁ ⊢
  generalize hH2 : h₂.push { cls := .type "list", dict := none, data := .seq ([] : List Value).toArray } = H2 at hns₁ hsb₁ ⊢
  have hC : H2.objs.size = h₂.objs.size + 1 := by rw [← hH2, Heap.size_push]
  have old : Keep h₂ h₁ := fun b o e => hsb₁.extBut b o (by rw [hC]; exact Nat.ne_of_lt (Nat.lt_succ_of_lt (Heap.lt_size e))) (Heap.get?_push_of_some _ (hH2 ▸ Heap.get?_push_of_some _ e))
  have hDC : h₂.objs.size ≠ H2.objs.size := by rw [hC]; exact Nat.ne_of_lt (Nat.lt_succ_self _)
  have hacc : h₁.get? h₂.objs.size = some (LCg.lst []) := hsb₁.extBut _ _ hDC (Heap.get?_push_of_some _ (hH2 ▸ Heap.get?_push_size _ rfl))
  have hDf : h₂.objs.size ∉ fp := fun hm => Nat.lt_irrefl _ (hfp _ hm)
  have hCf : H2.objs.size ∉ fp := fun hm => by have : @LT.lt Nat _ H2.objs.size h₂.objs.size := hfp _ hm; rw [hC] at this; omega
  have hDI : @Ne Nat I h₂.objs.size := Nat.ne_of_lt hI₂
  have hCI : @Ne Nat I H2.objs.size := by rw [hC]; omega
  have hsD : s.heap.get? h₂.objs.size = none := none_of hk₂ (Heap.get?_none_of_le (Nat.le_refl _))
  have hsC : s.heap.get? H2.objs.size = none := none_of hk₂ (Heap.get?_none_of_le (by rw [hC]; exact Nat.le_succ _))
  clear hH2
  generalize hDD : h₂.objs.size = D at *
  generalize hCC : H2.objs.size = C at *
  have newI : ∀ (b : Nat) o, s.heap.get? b = some o → @Ne Nat b I := fun b o e q => by subst q; rw [hI] at e; cases e
  have newC : ∀ (b : Nat) o, s.heap.get? b = some o → @Ne Nat b C := fun b o e q => by subst q; rw [hsC] at e; cases e
  have newD : ∀ (b : Nat) o, s.heap.get? b = some o → @Ne Nat b D := fun b o e q => by subst q; rw [hsD] at e; cases e
  have loop : ∀ s₃ : Shared, (∃ tk, s₃ = { s with heap := h₁, toks := tk }) →
      codeAny (model prg w) A (.compLoop (.ListComp elt [⟨.Name x px, iter, ifs, 0⟩] scope pos) 0 (.ref I) (.ref D) (compEnvC scope cl C env)) (compPost (model prg w) A E use Q0 (.ref D) C) s₃ := by
    rintro s₃ ⟨tk₃, rfl⟩
    refine codeAny_compLoop_tests
      (fun k s' => ∃ h' tk i ys m', s' = { s with heap := h', toks := tk } ∧ i ≤ n ∧ k = n + 1 - i ∧ Pre sel Y i ys ∧ St i h' ∧ Keep s.heap h' ∧ h'.Ns C m' ∧ h'.get? D = some (LCg.lst ys)) ?_ (n + 1)
      ⟨h₁, _, 0, [], _, rfl, Nat.zero_le _, rfl, rfl, W.frame _ _ _ st₂ fun b _ o e => old b o e, Keep.trans hk₂ old, hns₁, hacc⟩
    rintro k s' ⟨h', tk, i, ys, m', rfl, hi, rfl, hpre, st', hk', hn', hD'⟩
    by_cases hlt : i < n
    · refine W.item i _ _ _ hlt st' fun v h₃ tk₃' hPv st₃ hk₃ => ?_
      have hn₃ : h₃.Ns C m' := hn'.at' fun o e => hk₃ _ o (by simpa using Ne.symm hCI) e
      refine wpAny_assign_Name (wpAny_storeName_local (lookup_relabel_local hx) hn₃ (fun h₄ hn₄ hs₄ => ?_) (by simp [compEnvC, relabel, hkind]))
      have hD₄ : h₄.get? D = some (LCg.lst ys) := hs₄.extBut _ _ hDC (hk₃ _ _ (by simpa using Ne.symm hDI) hD')
      have st₄ : St (i + 1) h₄ := W.frame _ _ _ st₃ fun b hb o e => hs₄.extBut b o (fun q => hCf (by have q' : b = C := q; rw [← q']; exact hb)) e
      have hk₄ : Keep s.heap h₄ := fun b o e => hs₄.extBut b o (newC b o e) (hk₃ b o (fun hm => newI b o e (List.mem_singleton.mp hm)) (hk' b o e))
      have T := hturn i v h₄ (tk₃' + 1) C _ hlt hPv hk₄ hn₄ (by simp)
      refine wpAny_mono (T _) (fun ok s₅ h₅ => ?_) (fun _ _ e => e)
      obtain ⟨rfl, ⟨h₅', tk₅, rfl, k₅⟩, hel⟩ := h₅
      cases hb : sel i with
      | false =>
        rw [if_neg (by simp)]
        refine ⟨n + 1 - (i + 1), by omega, h₅', tk₅, i + 1, ys, _, rfl, hlt, rfl, ?_, W.frame _ _ _ st₄ fun b _ o e => k₅ b o e, Keep.trans hk₄ k₅, hn₄.keeps k₅, k₅ _ _ hD₄⟩
        unfold Pre
        rw [if_neg (by rw [hb]; simp)]
        exact hpre
      | true =>
        rw [if_pos rfl]
        refine wpAny_mono (hel hb) (fun y s₆ h₆ => ?_) (fun _ _ e => e)
        obtain ⟨hY, h₆', tk₆, rfl, k₆⟩ := h₆
        have k6 : Keep h₄ h₆' := Keep.trans k₅ k₆
        have hsz : ys.toArray.size ≤ sizeLine := by
          have := hpre.length
          rw [List.size_toArray, show sizeLine = 2 ^ 24 from rfl]; omega
        refine append_at (hsz := hsz) (k6 _ _ hD₄) fun h₇ hs₇ hD₇ => ?_
        · refine ⟨n + 1 - (i + 1), by omega, h₇, tk₆, i + 1, ys ++ [y], _, rfl, hlt, rfl, ?_, W.frame _ _ _ st₄ fun b hb' o e => hs₇.extBut b o (fun q => hDf (q ▸ hb')) (k6 b o e), ?_, (hn₄.keeps k6).sameBut hs₇ (Ne.symm hDC), ?_⟩
          · unfold Pre
            rw [if_pos hb]
            exact ⟨ys, y, hpre, hY, rfl⟩
          · exact fun b o e => hs₇.extBut b o (newD b o e) (k6 b o (hk₄ b o e))
          · rw [hD₇]
            congr 1
            rw [List.push_toArray]
            simp
    · obtain rfl : i = n := Nat.le_antisymm hi (Nat.not_lt.mp hlt)
      refine W.done _ _ _ st' fun h₃ tk₃' hk₃ => ?_
      exact hpost D C h₃ _ m' ys (fun b o e => hk₃ b o (fun hm => newI b o e (List.mem_singleton.mp hm)) (hk' b o e))
        (hk₃ _ _ (by simpa using Ne.symm hDI) hD') hpre hsD hsC (Ne.symm hDC) (hn'.at' fun o e => hk₃ _ o (by simpa using Ne.symm hCI) e)
  exact codeAny_compStart_list (loop _ ⟨_, rfl⟩) (W.self 0 _ _ _ (W.frame _ _ _ st₂ fun b _ o e => old b o e) (loop _ ⟨_, rfl⟩))

theorem comp_eval {Q : Value → Shared → Prop}
    (hsrc : Source w A E env iter n P s)
    (hturn : ∀ i v h tk C m', i < n → P i v → Keep s.heap h → h.Ns C m' → m' x = some v → Turn w A (compEnvC scope cl C env) ifs elt (sel i) (Y i) { s with heap := h, toks := tk })
    (hpost : ∀ (D : Nat) h tk ys, Keep s.heap h → h.get? D = some (LCg.lst ys) → Pre sel Y n ys → s.heap.get? D = none → Q (.ref D) { s with heap := h, toks := tk })
    (hn : n ≤ 1000 := by decide)
    (hclos : closureFor scope env = pure cl := by rfl) (hcell : ∀ y ∈ scope.names, y.2 ≠ .cell := by decide) (hkind : scope.kind = .function := by rfl)
    (hnames : ∀ y ∈ scope.names, y.2 = .local → scope.names.lookup y.1 = some .local := by decide) (hx : scope.names.lookup x = some .local := by rfl)
    (hs : ∀ x, foldedSetIterable iter env x = pure x := by intro _; rfl) :
    wpAny (model prg w) A (eval (.ListComp elt [⟨.Name x px, iter, ifs, 0⟩] scope pos) env) Q E s := by
  rw [eval_ListComp]
  refine comp_core (use := none) hsrc hturn (fun D C h tk m' ys hk hD hp hsD hsC hne hns => ?_) hn hclos hcell hkind hnames hx hs
  refine ⟨m', hns, fun h' hs' => hpost D h' tk ys (fun b o e => hs'.extBut b o (ne_of_none hsC e) (hk b o e)) (hs'.extBut _ _ (Ne.symm hne) hD) hp hsD⟩
theorem assign_used {value : PySem.Expr} {y : PySem.Str} {py spos : Pos} {Q : Flow → Shared → Prop} (hsw : swapsWith value (some (.Name y py)) spos.line env = pure true)
    (h : wpAny (model prg w) A (evalThenUse value env (assign (.Name y py) env)) (fun _ s' => Q .next s') E s) : wpAny (model prg w) A (exec (.Assign [.Name y py] value spos) env) Q E s :=
  exec_Assign_Name_used (hs := hsw) .. ▸ wpAny_bind (wpAny_standAt (wpAny_bind (wpAny_mono h (fun _ _ q => wpAny_pure q) fun _ _ x => x)))
theorem comp_used {Q : Flow → Shared → Prop} {y : PySem.Str} {py spos : Pos} {h₀ : Heap} {m : PySem.Str → Option Value}
    (F : Fr h₀ env.locals s.heap m)
    (hsrc : Source w A E env iter n P s)
    (hturn : ∀ i v h tk C m', i < n → P i v → Keep s.heap h → h.Ns C m' → m' x = some v → Turn w A (compEnvC scope cl C env) ifs elt (sel i) (Y i) { s with heap := h, toks := tk })
    (hpost : ∀ (D : Nat) h tk ys, Fr h₀ env.locals h (fun z => if z = y then some (.ref D) else m z) → (∀ b o, b ≠ env.locals → s.heap.get? b = some o → h.get? b = some o) → h.get? D = some (LCg.lst ys) → Pre sel Y n ys → s.heap.get? D = none → Q .next { s with heap := h, toks := tk })
    (hsw : swapsWith (.ListComp elt [⟨.Name x px, iter, ifs, 0⟩] scope pos) (some (.Name y py)) spos.line env = pure true := by with_unfolding_all rfl)
    (hn : n ≤ 1000 := by decide)
    (hclos : closureFor scope env = pure cl := by rfl) (hcell : ∀ y ∈ scope.names, y.2 ≠ .cell := by decide) (hkind : scope.kind = .function := by rfl)
    (hnames : ∀ y ∈ scope.names, y.2 = .local → scope.names.lookup y.1 = some .local := by decide) (hx : scope.names.lookup x = some .local := by rfl)
    (hy : env.kindOf y = some .local := by rfl) (hp : (env.scope.kind == .class || (env.scope.kind == .module && env.locals != env.globals)) = false := by rfl)
    (hs : ∀ x, foldedSetIterable iter env x = pure x := by intro _; rfl) :
    wpAny (model prg w) A (exec (.Assign [.Name y py] (.ListComp elt [⟨.Name x px, iter, ifs, 0⟩] scope pos) spos) env) Q E s := by
  obtain ⟨oL, _, _, hL, _⟩ := F.ns
  refine assign_used hsw (wpAny_bind (comp_core (Q0 := fun _ s' => wpAny _ A (pure ()) (fun _ s'' => Q .next s'') E s') hsrc hturn (fun D C h tk m' ys hk hD hpre hsD hsC hne hns => ?_) hn hclos hcell hkind hnames hx hs))
  show wpAny _ A (assign (.Name y py) env (.ref D)) _ _ _
  have F' := F.keeps hk
  refine wpAny_assign_Name (wpAny_storeName_local hy F'.ns (fun h₂ hn₂ hs₂ => ?_) hp)
  have hCL : @Ne Nat C env.locals := Ne.symm (ne_of_none hsC hL)
  have hDL : @Ne Nat D env.locals := Ne.symm (ne_of_none hsD hL)
  refine ⟨m', hns.sameBut hs₂ hCL, fun h'' hs'' => ?_⟩
  have F₂ : Fr h₀ env.locals h₂ (fun z => if z = y then some (.ref D) else m z) := F'.set hn₂ hs₂
  refine wpAny_pure (hpost D h'' _ ys ?_ ?_ ?_ hpre hsD)
  · refine ⟨F₂.ns.sameBut hs'' (Ne.symm hCL), fun b o e => hs''.extBut b o (ne_of_none hsC (F.keep b o e)) (F₂.keep b o e), F₂.above⟩
  · exact fun b o hb e => hs''.extBut b o (ne_of_none hsC e) (hs₂.extBut b o hb (hk b o e))
  · exact hs''.extBut _ _ (Ne.symm hne) (hs₂.extBut _ _ hDL hD)
end

/-! sources -/
section
variable {w : World} {A : Around} {E : Value → Shared → Prop} {s : Shared} {env : Env}
theorem src_range {a b : Int} {n : Nat} {iter : PySem.Expr} (hh : A.handled = none)
    (hev : ∀ Q' : Value → Shared → Prop, (∀ h₁ tk₁ (r : Nat) t u v, Keep s.heap h₁ → IsRange h₁ r a b 1 t u v → Q' (.ref r) { s with heap := h₁, toks := tk₁ }) → wpAny (model prg w) A (eval iter env) Q' E s)
    (hsm : Builtin.Range.small a b 1 = true) (hn : Builtin.Range.rangeSize a b 1 = ((n : Nat) : Int)) :
    Source w A E env iter n (fun i v => ∃ t, v = .int (a + (i : Int)) t) s := by
  intro Q' hQ
  refine hev _ fun h₁ tk₁ r t u v hk hr => ?_
  refine wpAny_pyIter_range hr hsm ?_
  have up : Keep h₁ (h₁.push { cls := .type "range_iterator", data := .fields #[rawInt a, rawInt (Builtin.Range.rangeSize a b 1), rawInt 1] }) := fun _ _ e => Heap.get?_push_of_some _ e
  have hlt : @LT.lt Nat _ r h₁.objs.size := Heap.lt_size hr
  refine hQ h₁.objs.size [h₁.objs.size] _ _ _ (Keep.trans hk up) (LCg.range_walks hh a n) (by show IsRangeIter _ _ _ _ _; rw [hn]; simpa using Heap.get?_push_size _ rfl) (fun b hb => ?_) (none_of hk (Heap.get?_none_of_le (Nat.le_refl _))) ?_
  · rw [List.mem_singleton.mp hb]
    show h₁.objs.size < (h₁.push _).objs.size
    rw [Heap.size_push]; exact Nat.lt_succ_self _
  · show h₁.objs.size < (h₁.push _).objs.size
    rw [Heap.size_push]; exact Nat.lt_succ_self _
theorem src_list {items : Array Value} {iter : PySem.Expr} (hh : A.handled = none)
    (hev : ∀ Q' : Value → Shared → Prop, (∀ h₁ tk₁ (l : Nat), Keep s.heap h₁ → h₁.IsList l items → Q' (.ref l) { s with heap := h₁, toks := tk₁ }) → wpAny (model prg w) A (eval iter env) Q' E s) :
    Source w A E env iter items.size (fun i v => items[i]? = some v) s := by
  intro Q' hQ
  refine hev _ fun h₁ tk₁ l hk hl => ?_
  have hlt : @LT.lt Nat _ l h₁.objs.size := by obtain ⟨_, e, _⟩ := hl; exact Heap.lt_size e
  refine wpAny_pyIter_list hl ?_
  have up : Keep h₁ (h₁.push { cls := .type "list_iterator", data := .fields #[.ref l, .int 0 0] }) := fun _ _ e => Heap.get?_push_of_some _ e
  refine hQ h₁.objs.size [h₁.objs.size, l] _ _ _ (Keep.trans hk up) (Walks.list hh h₁.objs.size l (Nat.ne_of_lt hlt) items) ⟨⟨_, Heap.get?_push_size _ rfl, rfl, rfl⟩, hl.push _⟩ (fun b hb => ?_) (none_of hk (Heap.get?_none_of_le (Nat.le_refl _))) ?_
  · show @LT.lt Nat _ b (h₁.push _).objs.size
    rw [Heap.size_push]
    rcases List.mem_cons.mp hb with rfl | hb
    · exact Nat.lt_succ_self _
    · rw [List.mem_singleton.mp hb]; exact Nat.lt_succ_of_lt hlt
  · show h₁.objs.size < (h₁.push _).objs.size
    rw [Heap.size_push]; exact Nat.lt_succ_self _
theorem src_tuple {items : Array Value} {iter : PySem.Expr} (hh : A.handled = none)
    (hev : ∀ Q' : Value → Shared → Prop, (∀ h₁ tk₁ (l : Nat), Keep s.heap h₁ → h₁.IsTuple l items → Q' (.ref l) { s with heap := h₁, toks := tk₁ }) → wpAny (model prg w) A (eval iter env) Q' E s) :
    Source w A E env iter items.size (fun i v => items[i]? = some v) s := by
  intro Q' hQ
  refine hev _ fun h₁ tk₁ l hk hl => ?_
  have hlt : @LT.lt Nat _ l h₁.objs.size := by obtain ⟨_, e, _⟩ := hl; exact Heap.lt_size e
  refine wpAny_pyIter_tuple hl ?_
  have up : Keep h₁ (h₁.push { cls := .type "tuple_iterator", data := .fields #[.ref l, .int 0 0] }) := fun _ _ e => Heap.get?_push_of_some _ e
  refine hQ h₁.objs.size [h₁.objs.size, l] _ _ _ (Keep.trans hk up) (Walks.tuple hh h₁.objs.size l (Nat.ne_of_lt hlt) items) ⟨⟨_, Heap.get?_push_size _ rfl, rfl, rfl⟩, hl.push _⟩ (fun b hb => ?_) (none_of hk (Heap.get?_none_of_le (Nat.le_refl _))) ?_
  · show @LT.lt Nat _ b (h₁.push _).objs.size
    rw [Heap.size_push]
    rcases List.mem_cons.mp hb with rfl | hb
    · exact Nat.lt_succ_self _
    · rw [List.mem_singleton.mp hb]; exact Nat.lt_succ_of_lt hlt
  · show h₁.objs.size < (h₁.push _).objs.size
    rw [Heap.size_push]; exact Nat.lt_succ_self _
end
end Mine
end

section
open PySem PySem.W PySem.Builtin PyProof.Rows PySem.Calls
set_option maxRecDepth 100000
set_option maxHeartbeats 4000000
namespace Mine
/-- a list of n ints -/
def IntArr (items : Array Value) (n : Nat) (f : Nat → Int) : Prop := items.size = n ∧ ∀ i, i < n → ∃ t, items[i]? = some (.int (f i) t)
def IntList (h : Heap) (l : Addr) (n : Nat) (f : Nat → Int) : Prop := ∃ items, h.IsList l items ∧ IntArr items n f
theorem IntList.keeps {h h' : Heap} {l : Addr} {n : Nat} {f : Nat → Int} (x : IntList h l n f) (k : Keep h h') : IntList h' l n f := by
  obtain ⟨items, ⟨o, e, r⟩, y⟩ := x
  exact ⟨items, ⟨o, k _ _ e, r⟩, y⟩
theorem pre_all {Y : Nat → Value → Prop} : ∀ {n : Nat} {ys : List Value}, Pre (fun _ => true) Y n ys → ys.length = n ∧ ∀ i, i < n → ∃ y, ys[i]? = some y ∧ Y i y
  | 0, ys, h => by subst h; exact ⟨rfl, fun i hi => absurd hi (Nat.not_lt_zero _)⟩
  | n + 1, ys, h => by
    unfold Pre at h
    rw [if_pos rfl] at h
    obtain ⟨r, y, h1, h2, rfl⟩ := h
    obtain ⟨a, b⟩ := pre_all h1
    refine ⟨by simp [a], fun i hi => ?_⟩
    by_cases q : i < n
    · obtain ⟨z, e, hz⟩ := b i q
      exact ⟨z, by rw [List.getElem?_append_left (by omega)]; exact e, hz⟩
    · obtain rfl : i = n := by omega
      exact ⟨y, by rw [List.getElem?_append_right (by omega), a]; simp, h2⟩
theorem intList_of {h : Heap} {D : Addr} {n : Nat} {f : Nat → Int} {ys : List Value} (hD : h.get? D = some (LCg.lst ys)) (hp : Pre (fun _ => true) (fun i y => ∃ t, y = .int (f i) t) n ys) : IntList h D n f := by
  obtain ⟨a, b⟩ := pre_all hp
  refine ⟨ys.toArray, ⟨_, hD, rfl, _, rfl⟩, by rw [List.size_toArray]; exact a, fun i hi => ?_⟩
  obtain ⟨y, e, t, rfl⟩ := b i hi
  exact ⟨t, by simpa using e⟩
section
variable {w : World} {A : Around} {E : Value → Shared → Prop} {s : Shared} {env : Env}
theorem ldC {x : PySem.Str} {pos : Pos} {v : Value} {c : Addr} {Q : Value → Shared → Prop} (hc : s.heap.IsCell c (some v)) (h : Q v s) (hl : env.cells.lookup x = some c := by rfl) (hk : env.scope.kind = .function := by rfl) (hx : env.kindOf x = some .cell := by rfl)
    (hb : (x == ("__debug__" : PySem.Str)) = false := by decide) : wpAny (model prg w) A (eval (.Name x pos) env) Q E s := wpAny_Name (wpAny_loadName_cell hk hx hl hc h) hb
theorem item_int {value slice : PySem.Expr} {l : Addr} {n : Nat} {f : Nat → Int} {k : Nat} {u : Tok} {Q : Value → Shared → Prop} (hl : IntList s.heap l n f) (hk : k < n) (hn : n ≤ 1000) (h : ∀ t, Q (.int (f k) t) s)
    (hs : subscripted slice false (.ref l) (.int k u) = operate [.ref l, .int k u] (getItem (.ref l) (.int k u)) := by rfl) :
    wpAny (model prg w) A (subscriptTail value slice (.ref l) (.int k u)) Q E s := by
  obtain ⟨items, il, hz, hi⟩ := hl
  obtain ⟨t, e⟩ := hi k hk
  exact tail_any il.typeIs slot_list_getitem.lookup (wpAny_getItem_list il (by omega) (by omega) (by simpa using e) (h t)) hs
theorem ev_range1 {p1 p2 p3 : Pos} {k : Int} {Q : Value → Shared → Prop} (G : Gr w s.heap)
    (h : ∀ h₁ tk₁ (r : Nat) t u v, Keep s.heap h₁ → IsRange h₁ r 0 k 1 t u v → Q (.ref r) { s with heap := h₁, toks := tk₁ })
    (hg : env.globals = mainGlobals := by rfl) (hbu : env.builtins = builtinsNs := by rfl) (hk : env.scope.kind = .function := by rfl) (hx : env.kindOf "range" = some .globalImplicit := by rfl) :
    wpAny (model prg w) A (eval (.Call (.Name "range" p1) [.Constant (.int k) 0 p2] [] p3) env) Q E s := by
  refine Call_ ?_
  refine ldB (v := .type "range") G (by rfl) (by decide +kernel) ?_ (by decide) hg hbu hk hx
  refine PyProof.Rows.callWith_type1 ?_
  refine args_cons (wpAny_Constant_int (args_nil ?_))
  refine call_range_1 ?_
  exact h _ _ _ _ _ _ (fun _ _ e => Heap.get?_push_of_some _ e) (IsRange.new ..)
end
/-- _law_about -/
def about (o : Nat → Int) (sp : Int) (i : Nat) : Int := if (i : Int) = sp then 1 - o i else o i
section
variable {w : World} {A : Around} {s : Shared}
theorem about_call {R : Result → Shared → Prop} {la : Nat} {o : Nat → Int} {sp : Int} {tsp : Tok} (G : Gr w s.heap) (ro : Room A 1 10) (hl : IntList s.heap la 16 o)
    (post : ∀ h' tk (D : Nat), Keep s.heap h' → IntList h' D 16 (about o sp) → s.heap.get? D = none → R (.ok (.ret (.ref D))) { s with heap := h', toks := tk }) :
    codeAny (model prg w) A (.call (.ref 82) ⟨[.ref la, .int sp tsp], []⟩) R s := by
  refine codeAny_call_cells (by have := ro.depth; omega) (G.X 82 _ rfl) rfl G.lim (codeRec_of G.X (by rfl)) rfl (binds := [("ones", .ref la), ("spot", .int sp tsp)]) (by rfl) rfl ?_ (fun s₁ C => ?_)
  · intro x hx
    simp only [List.mem_cons, List.not_mem_nil, or_false] at hx
    rcases hx with rfl | rfl
    · exact .inr ⟨rfl, rfl⟩
    · exact .inr ⟨rfl, rfl⟩
  obtain ⟨h₁, tk₁, rfl, hk₁⟩ := C.done
  have c1 := C.cell "ones" _ rfl
  have c2 := C.cell "spot" _ rfl
  have G₁ := G.keeps hk₁
  refine wpAny_execs_cons (wpAny_Return_some ?_)
  refine comp_eval (n := 16) (P := fun i v => ∃ t, v = .int (0 + (i : Int)) t) (sel := fun _ => true) (Y := fun i y => ∃ t, y = .int (about o sp i) t) ?_ ?_ ?_
  · refine src_range ro.calm (fun Q' hQ => ev_range1 G₁ hQ) (by decide) (by decide)
  · rintro i v h tk C' m' hi ⟨t, rfl⟩ hk hns hm E'
    have c1' : h.IsCell _ (some (.ref la)) := c1.keeps hk
    have c2' : h.IsCell _ (some (.int sp tsp)) := c2.keeps hk
    have hl' := (hl.keeps hk₁).keeps hk
    rw [Int.zero_add] at hm
    refine wpAny_tests_nil ⟨rfl, ⟨_, _, rfl, Keep.refl _⟩, fun _ => ?_⟩
    dsimp only
    refine IfExp_ (wpAny_isTrue_Compare1 (ldL hns hm (ldC c2' (PySem.P.eq_int (wpAny_truthy_bool ?_)))))
    by_cases q : (i : Int) = sp
    · rw [if_pos (by simpa using q)]
      refine wpAny_BinOp (wpAny_Constant_int (Subscript_ (ldC c1' (ldL hns hm (item_int hl' hi (by decide) (fun t' => PySem.P.sub_int ?_))))))
      exact ⟨⟨_, by rw [about, if_pos q]⟩, _, _, rfl, Keep.refl _⟩
    · rw [if_neg (by simpa using q)]
      refine Subscript_ (ldC c1' (ldL hns hm (item_int hl' hi (by decide) (fun t' => ?_))))
      exact ⟨⟨_, by rw [about, if_neg q]⟩, _, _, rfl, Keep.refl _⟩
  · intro D h tk ys hk hD hp hnew
    exact post h tk D (Keep.trans hk₁ hk) (intList_of hD hp) (none_of hk₁ hnew)
end
theorem pre_strs {f : Nat → PySem.Str} : ∀ {n : Nat} {ys : List Value}, Pre (fun _ => true) (fun i y => ∃ t, y = .str (f i) t) n ys → ∃ l, ys = strValues l ∧ l.map (·.1) = (List.range n).map f
  | 0, ys, h => by subst h; exact ⟨[], rfl, rfl⟩
  | n + 1, ys, h => by
    unfold Pre at h
    rw [if_pos rfl] at h
    obtain ⟨r, y, h1, ⟨t, rfl⟩, rfl⟩ := h
    obtain ⟨l, rfl, e⟩ := pre_strs h1
    refine ⟨l ++ [(f n, t)], by simp [strValues], ?_⟩
    rw [List.map_append, e, List.range_succ, List.map_append]
    rfl
/-- _law_word -/
def sign (o : Nat → Int) (i : Nat) : Nat := if o i = 1 then 46 else 97 + i
def wordOf (o : Nat → Int) : PySem.Str := ⟨((List.range 16).map (sign o)).toArray⟩
theorem letters (i : Nat) (h : i < 16) : (PySem.Str.ofString "abcdefghijklmnop").cps[i]? = some (97 + i) := by
  have key : ∀ i : Fin 16, (PySem.Str.ofString "abcdefghijklmnop").cps[i.val]? = some (97 + i.val) := by decide +kernel
  exact key ⟨i, h⟩
section
variable {w : World} {A : Around} {s : Shared}
theorem item_str {E : Value → Shared → Prop} {value slice : PySem.Expr} {x : PySem.Str} {t u : Tok} {k c : Nat} {Q : Value → Shared → Prop} (hc : x.cps[k]? = some c) (hs : x.cps.size ≤ 1000) (h : Q (.str ⟨#[c]⟩ s.toks) { s with toks := s.toks + 1 })
    (he : subscripted slice false (.str x t) (.int k u) = operate [.str x t, .int k u] (getItem (.str x t) (.int k u)) := by rfl) :
    wpAny (model prg w) A (subscriptTail value slice (.str x t) (.int k u)) Q E s := by
  have hlt : k < x.cps.size := by
    obtain ⟨a, _⟩ := Array.getElem?_eq_some_iff.mp hc; exact a
  refine tail_any (typeIs_str _ _ _) F.slot_str_getitem.lookup (PySem.P.getItem_str ?_ ?_ h) he
  · rw [Bool.or_eq_false_iff, decide_eq_false_iff_not, decide_eq_false_iff_not]; omega
  · have e : seqIndex? (k : Int) x.length = some k := by
      unfold seqIndex?
      have : x.length = x.cps.size := rfl
      simp only [this]
      split <;> first | (simp; omega) | omega | simp_all
    rw [e]; exact hc
theorem word_call {R : Result → Shared → Prop} {la : Nat} {o : Nat → Int} (G : Gr w s.heap) (ro : Room A 1 10) (hl : IntList s.heap la 16 o)
    (post : ∀ h' tk tok, Keep s.heap h' → R (.ok (.ret (.str (wordOf o) tok))) { s with heap := h', toks := tk }) :
    codeAny (model prg w) A (.call (.ref 60) ⟨[.ref la], []⟩) R s := by
  refine codeAny_call_cells (by have := ro.depth; omega) (G.X 60 _ rfl) rfl G.lim (codeRec_of G.X (by rfl)) rfl (binds := [("ones", .ref la)]) (by rfl) rfl ?_ (fun s₁ C => ?_)
  · intro x hx
    simp only [List.mem_cons, List.not_mem_nil, or_false] at hx
    subst hx
    exact .inr ⟨rfl, rfl⟩
  obtain ⟨h₁, tk₁, rfl, hk₁⟩ := C.done
  have c1 := C.cell "ones" _ rfl
  have G₁ := G.keeps hk₁
  refine wpAny_execs_cons (wpAny_Return_some ?_)
  refine MethodCall_ ?_
  refine Constant_str ?_
  refine GM.join ?_
  refine callWith_method1 ?_
  refine args_cons ?_
  refine comp_eval (n := 16) (P := fun i v => ∃ t, v = .int (0 + (i : Int)) t) (sel := fun _ => true) (Y := fun i y => ∃ t, y = .str ⟨#[sign o i]⟩ t) ?_ ?_ ?_
  · refine src_range ro.calm (fun Q' hQ => ev_range1 G₁ hQ) (by decide) (by decide)
  · rintro i v h tk C' m' hi ⟨t, rfl⟩ hk hns hm E'
    have c1' : h.IsCell _ (some (.ref la)) := c1.keeps hk
    have hl' := (hl.keeps hk₁).keeps hk
    rw [Int.zero_add] at hm
    refine wpAny_tests_nil ⟨rfl, ⟨_, _, rfl, Keep.refl _⟩, fun _ => ?_⟩
    dsimp only
    refine IfExp_ ?_
    refine wpAny_isTrue_Compare1 ?_
    refine Subscript_ ?_
    refine ldC c1' ?_
    refine ldL hns hm ?_
    refine item_int hl' hi (by decide) ?_
    intro t'
    refine wpAny_Constant_int ?_
    refine PySem.P.eq_int ?_
    refine wpAny_truthy_bool ?_
    by_cases q : o i = 1
    · rw [if_pos (by simpa using q)]
      refine Constant_str ?_
      exact ⟨⟨_, by rw [sign, if_pos q]; rfl⟩, _, _, rfl, Keep.refl _⟩
    · rw [if_neg (by simpa using q)]
      refine Subscript_ (Constant_str (ldL hns hm ?_))
      have e1 := letters i hi
      have e2 : (PySem.Str.ofString "abcdefghijklmnop").cps.size ≤ 1000 := by decide +kernel
      generalize PySem.Str.ofString "abcdefghijklmnop" = X at e1 e2 ⊢
      refine item_str e1 e2 ?_
      exact ⟨⟨_, by rw [sign, if_neg q]⟩, _, _, rfl, Keep.refl _⟩
  · intro D h tk ys hk hD hp hnew
    obtain ⟨l, rfl, e⟩ := pre_strs hp
    refine args_nil ?_
    refine SC.join (l := l) ⟨_, hD, rfl, _, rfl⟩ e ?_ ?_
    · refine joinOk_of_weight ?_ (by decide)
      simp [List.range, List.range.loop, PySem.Str.length]
    · intro tok tk'
      have e3 : Txt.join (PySem.Str.ofString "") ((List.range 16).map fun i => (⟨#[sign o i]⟩ : PySem.Str)) = wordOf o := by
        rw [glue_flat _ (by decide), List.map_map]
        rfl
      rw [e3]
      exact post h tk' tok (Keep.trans hk₁ hk)
end
end Mine
end

section
open PySem PySem.W PySem.Builtin PyProof.Rows PySem.Calls
set_option maxRecDepth 100000
set_option maxHeartbeats 4000000
namespace Mine
section
variable {w : World} {A : Around} {s : Shared} {env : Env}
/-- a for by an invariant over the whole state -/
theorem for_gen {R : Result → Shared → Prop} {target : PySem.Expr} {body : List Stmt} {I : Addr} {fp : List Addr} {n : Nat} {P : Nat → Value → Prop} {St : Nat → Heap → Prop} (W : Walks prg w A I fp [I] n P St)
    (Inv : Nat → Shared → Prop) (h0 : Inv 0 s) (hst : ∀ i s', Inv i s' → St i s'.heap)
    (turn : ∀ i s' v h' tk, i < n → Inv i s' → P i v → St (i + 1) h' → (∀ b o, b ≠ I → s'.heap.get? b = some o → h'.get? b = some o) → ∀ E' : Value → Shared → Prop,
      wpAny (model prg w) A (assign target env v) (fun _ s₂ => wpAny (model prg w) A (execs body env) (fun f s₃ => match f with
        | .next | .cont => Inv (i + 1) s₃
        | .brk => R (.ok .next) s₃
        | .ret v => R (.ok (.ret v)) s₃) E' s₂) E' { s' with heap := h', toks := tk })
    (done : ∀ s' h' tk, Inv n s' → (∀ b o, b ≠ I → s'.heap.get? b = some o → h'.get? b = some o) → R (.ok .next) { s' with heap := h', toks := tk })
    (ht : ∀ v, letOwnedTupleGo target (.ref I) v = pure () := by intro _; rfl) : codeAny (model prg w) A (.forLoop target (.ref I) body [] env) R s := by
  refine codeAny_forLoop (fun k s' => ∃ i, i ≤ n ∧ k = n + 1 - i ∧ Inv i s') ?_ (n + 1) ⟨0, Nat.zero_le _, rfl, h0⟩ ht
  rintro k s' ⟨i, hi, rfl, hI⟩
  by_cases hlt : i < n
  · refine W.item i s' _ _ hlt (hst i s' hI) fun v h' tk hP st hk => ?_
    refine wpAny_mono (turn i s' v h' tk hlt hI hP st (fun b o hb e => hk b o (by simpa using hb) e) _) (fun _ s₂ h₂ => wpAny_mono h₂ (fun f s₃ h₃ => ?_) fun _ _ e => e) fun _ _ e => e
    cases f with
    | next => exact ⟨n + 1 - (i + 1), by omega, i + 1, hlt, rfl, h₃⟩
    | cont => exact ⟨n + 1 - (i + 1), by omega, i + 1, hlt, rfl, h₃⟩
    | brk => exact h₃
    | ret v => exact h₃
  · obtain rfl : i = n := Nat.le_antisymm hi (Nat.not_lt.mp hlt)
    refine W.done s' _ _ (hst i s' hI) fun h' tk hk => ?_
    exact wpAny_execs_nil (done s' h' tk hI fun b o hb e => hk b o (by simpa using hb) e)
end
theorem data_ne {h : Heap} {a b : Addr} {o p : Obj} (e : h.get? a = some o) (f : h.get? b = some p) (d : o.data ≠ p.data) : a ≠ b := fun q => by
  subst q; rw [e] at f; cases f; exact d rfl
theorem ns_cell {h : Heap} {L c : Addr} {m : PySem.Str → Option Value} {v : Option Value} (hn : h.Ns L m) (hc : h.IsCell c v) : L ≠ c := by
  obtain ⟨o, es, ep, e, hd, _⟩ := hn
  obtain ⟨p, f, hp⟩ := hc
  exact data_ne e f (by rw [hd, hp]; nofun)
theorem ns_list {h : Heap} {L l : Addr} {m : PySem.Str → Option Value} {items : Array Value} (hn : h.Ns L m) (hl : h.IsList l items) : L ≠ l := by
  obtain ⟨o, es, ep, e, hd, _⟩ := hn
  obtain ⟨p, f, _, k, hp⟩ := hl
  exact data_ne e f (by rw [hd, hp]; nofun)
theorem cell_list {h : Heap} {c l : Addr} {v : Option Value} {items : Array Value} (hc : h.IsCell c v) (hl : h.IsList l items) : c ≠ l := by
  obtain ⟨o, e, hd⟩ := hc
  obtain ⟨p, f, _, k, hp⟩ := hl
  exact data_ne e f (by rw [hd, hp]; nofun)
end Mine
end

section
open PySem PySem.W PySem.Builtin PyProof.Rows PySem.Calls
set_option maxRecDepth 100000
set_option maxHeartbeats 4000000
namespace Mine
def upd (f : Nat → Int) (k : Nat) (v : Int) : Nat → Int := fun i => if i = k then v else f i
def places : List Nat := [3, 5, 6, 7, 9, 10, 11, 12, 13, 14, 15]
def bits : List Nat := [1, 2, 4, 8]
def halves (n : Int) : Nat → Int
  | 0 => n
  | j + 1 => (halves n j).fdiv 2
def fill (n : Int) : Nat → (Nat → Int)
  | 0 => fun _ => 0
  | j + 1 => upd (fill n j) (places.getD j 0) ((halves n j).fmod 2)
def selB (b i : Nat) : Bool := i / b % 2 == 1
def selSum (sel : Nat → Bool) (f : Nat → Int) : Nat → Int
  | 0 => 0
  | i + 1 => selSum sel f i + if sel i = true then f i else 0
def evened (f : Nat → Int) : Nat → (Nat → Int)
  | 0 => f
  | j + 1 => upd (evened f j) (bits.getD j 0) ((selSum (selB (bits.getD j 0)) (evened f j) 16).fmod 2)
def onesOf (n : Int) : Nat → Int := upd (evened (fill n 11) 4) 0 ((preSum (evened (fill n 11) 4) 16).fmod 2)

theorem preSum_congr {f g : Nat → Int} : ∀ {n : Nat}, (∀ i, i < n → f i = g i) → preSum f n = preSum g n
  | 0, _ => rfl
  | n + 1, h => by
    unfold preSum
    rw [preSum_congr fun i hi => h i (Nat.lt_succ_of_lt hi), h n (Nat.lt_succ_self n)]
theorem pre_sum {sel : Nat → Bool} {f : Nat → Int} : ∀ {n : Nat} {ys : List Value}, Pre sel (fun i y => ∃ t, y = .int (f i) t) n ys → ∃ val : Nat → Int, (∀ j, j < ys.length → ∃ t, ys[j]? = some (.int (val j) t)) ∧ preSum val ys.length = selSum sel f n
  | 0, ys, h => by subst h; exact ⟨fun _ => 0, fun j hj => absurd hj (Nat.not_lt_zero _), rfl⟩
  | n + 1, ys, h => by
    unfold Pre at h
    unfold selSum
    by_cases q : sel n = true
    · rw [if_pos q] at h
      obtain ⟨r, y, h1, ⟨t, rfl⟩, rfl⟩ := h
      obtain ⟨val, a, b⟩ := pre_sum h1
      refine ⟨fun j => if j = r.length then f n else val j, fun j hj => ?_, ?_⟩
      · rw [List.length_append, List.length_singleton] at hj
        by_cases e : j = r.length
        · subst e
          exact ⟨t, by simp⟩
        · obtain ⟨t', z⟩ := a j (by omega)
          exact ⟨t', by rw [List.getElem?_append_left (by omega), z]; dsimp only; rw [if_neg e]⟩
      · rw [List.length_append, List.length_singleton, if_pos q]
        show preSum _ r.length + (if r.length = r.length then f n else val r.length) = _
        rw [if_pos rfl, ← b, preSum_congr (g := val) fun i hi => if_neg (by omega)]
    · rw [if_neg q] at h
      obtain ⟨val, a, b⟩ := pre_sum h
      exact ⟨val, a, by rw [if_neg q, b, Int.add_zero]⟩
section
variable {w : World} {A : Around} {E : Value → Shared → Prop} {s : Shared} {env : Env}
theorem call_sum {l : Nat} {items : Array Value} {val : Nat → Int} {Q : Value → Shared → Prop} (hh : A.handled = none) (hl : s.heap.IsList l items) (hi : ∀ j, j < items.size → ∃ t, items[j]? = some (.int (val j) t))
    (h : ∀ h' tk t', Keep s.heap h' → Q (.int (preSum val items.size) t') { s with heap := h', toks := tk }) : wpAny (model prg w) A (call (.builtin "sum") [.ref l]) Q E s := by
  have hlt : @LT.lt Nat _ l s.heap.objs.size := by obtain ⟨_, e, _⟩ := hl; exact Heap.lt_size e
  refine call_sum_walkG (wpAny_pyIter_list hl ?_)
  refine ⟨s.heap.objs.size, [s.heap.objs.size, l], [s.heap.objs.size], items.size, _, _, val, rfl, Walks.list (A := A.in1) hh s.heap.objs.size l (Nat.ne_of_lt hlt) items, ⟨⟨_, Heap.get?_push_size _ rfl, rfl, rfl⟩, hl.push _⟩, fun b hb => ?_, fun i v hv => ?_, fun h' tk t' hk => ?_⟩
  · show @LT.lt Nat _ b (s.heap.push _).objs.size
    rw [Heap.size_push]
    rcases List.mem_cons.mp hb with rfl | hb
    · exact Nat.lt_succ_self _
    · rw [List.mem_singleton.mp hb]; exact Nat.lt_succ_of_lt hlt
  · obtain ⟨hlt', e⟩ := Array.getElem?_eq_some_iff.mp hv
    obtain ⟨t, e'⟩ := hi i hlt'
    rw [hv] at e'
    cases e'
    exact ⟨t, rfl⟩
  · exact h h' tk t' fun b o e => hk b o (by
      intro hm
      have : b = s.heap.objs.size := List.mem_singleton.mp hm
      exact Nat.ne_of_lt (Heap.lt_size e) this) (Heap.get?_push_of_some _ e)
end
/-- the frame of _law_ones -/
structure OS (h₀ : Heap) (L cO cB lo : Nat) (h : Heap) (m : PySem.Str → Option Value) (bv : Option Value) (f : Nat → Int) : Prop where
  keep : Keep h₀ h
  ns : h.Ns L m
  co : h.IsCell cO (some (.ref lo))
  cb : h.IsCell cB bv
  li : IntList h lo 16 f
  nL : h₀.get? L = none
  nB : h₀.get? cB = none
  nlo : h₀.get? lo = none
  ne : cO ≠ cB
namespace OS
variable {h₀ h h' : Heap} {L cO cB lo : Nat} {m m' : PySem.Str → Option Value} {bv : Option Value} {f g : Nat → Int}
theorem keeps (x : OS h₀ L cO cB lo h m bv f) (k : Keep h h') : OS h₀ L cO cB lo h' m bv f :=
  ⟨Keep.trans x.keep k, x.ns.keeps k, x.co.keeps k, x.cb.keeps k, x.li.keeps k, x.nL, x.nB, x.nlo, x.ne⟩
theorem LO (x : OS h₀ L cO cB lo h m bv f) : L ≠ lo := by obtain ⟨items, il, _⟩ := x.li; exact ns_list x.ns il
theorem OO (x : OS h₀ L cO cB lo h m bv f) : cO ≠ lo := by obtain ⟨items, il, _⟩ := x.li; exact cell_list x.co il
theorem BO (x : OS h₀ L cO cB lo h m bv f) : cB ≠ lo := by obtain ⟨items, il, _⟩ := x.li; exact cell_list x.cb il
theorem cellAt {a c : Addr} {v : Option Value} (hs : Heap.SameBut a h h') (hc : h.IsCell c v) (hne : c ≠ a) : h'.IsCell c v := by
  obtain ⟨o, e, d⟩ := hc
  exact ⟨o, hs.extBut _ _ hne e, d⟩
theorem listAt {a l : Addr} {n : Nat} (hs : Heap.SameBut a h h') (hl : IntList h l n f) (hne : l ≠ a) : IntList h' l n f := by
  obtain ⟨items, ⟨o, e, r⟩, y⟩ := hl
  exact ⟨items, ⟨o, hs.extBut _ _ hne e, r⟩, y⟩
theorem store (x : OS h₀ L cO cB lo h m bv f) (hn : h'.Ns L m') (hs : Heap.SameBut L h h') : OS h₀ L cO cB lo h' m' bv f :=
  ⟨fun b o e => hs.extBut b o (ne_of_none x.nL e) (x.keep b o e), hn, cellAt hs x.co (Ne.symm (ns_cell x.ns x.co)), cellAt hs x.cb (Ne.symm (ns_cell x.ns x.cb)), listAt hs x.li (Ne.symm x.LO), x.nL, x.nB, x.nlo, x.ne⟩
theorem setList (x : OS h₀ L cO cB lo h m bv f) (hl : IntList h' lo 16 g) (hs : Heap.SameBut lo h h') : OS h₀ L cO cB lo h' m bv g :=
  ⟨fun b o e => hs.extBut b o (ne_of_none x.nlo e) (x.keep b o e), x.ns.sameBut hs x.LO, cellAt hs x.co x.OO, cellAt hs x.cb x.BO, hl, x.nL, x.nB, x.nlo, x.ne⟩
theorem setBit (x : OS h₀ L cO cB lo h m bv f) {v : Option Value} (hc : h'.IsCell cB v) (hs : Heap.SameBut cB h h') : OS h₀ L cO cB lo h' m v f :=
  ⟨fun b o e => hs.extBut b o (ne_of_none x.nB e) (x.keep b o e), x.ns.sameBut hs (ns_cell x.ns x.cb), cellAt hs x.co x.ne, hc, listAt hs x.li (Ne.symm x.BO), x.nL, x.nB, x.nlo, x.ne⟩
/-- an object of another make has moved -/
theorem move (x : OS h₀ L cO cB lo h m bv f) {I : Nat} {vs : Array Value} {oI : Obj} (hI : h.get? I = some oI) (hd : oI.data = .fields vs) (nI : h₀.get? I = none) (hk : ∀ b o, b ≠ I → h.get? b = some o → h'.get? b = some o) : OS h₀ L cO cB lo h' m bv f := by
  refine ⟨fun b o e => hk b o (ne_of_none nI e) (x.keep b o e), ?_, ?_, ?_, ?_, x.nL, x.nB, x.nlo, x.ne⟩
  · obtain ⟨o, es, ep, e, d, r⟩ := x.ns
    exact ⟨o, es, ep, hk _ _ (data_ne e hI (by rw [d, hd]; nofun)) e, d, r⟩
  · obtain ⟨o, e, d⟩ := x.co
    exact ⟨o, hk _ _ (data_ne e hI (by rw [d, hd]; nofun)) e, d⟩
  · obtain ⟨o, e, d⟩ := x.cb
    exact ⟨o, hk _ _ (data_ne e hI (by rw [d, hd]; nofun)) e, d⟩
  · obtain ⟨items, ⟨o, e, c, k, d⟩, y⟩ := x.li
    exact ⟨items, ⟨o, hk _ _ (data_ne e hI (by rw [d, hd]; nofun)) e, c, k, d⟩, y⟩
end OS
theorem arr_set {items : Array Value} {n : Nat} {f : Nat → Int} {k : Nat} {v : Int} {t : Tok} (h : IntArr items n f) (hk : k < n) : IntArr (items.setIfInBounds k (.int v t)) n (upd f k v) := by
  refine ⟨by rw [Array.size_setIfInBounds]; exact h.1, fun i hi => ?_⟩
  rw [Array.getElem?_setIfInBounds]
  unfold upd
  by_cases e : k = i
  · subst e
    refine ⟨t, ?_⟩
    rw [if_pos rfl, if_pos (by rw [h.1]; exact hk), if_pos rfl]
  · rw [if_neg e, if_neg (fun q => e q.symm)]
    exact h.2 i hi
end Mine
end

section
open PySem PySem.W PySem.Builtin PyProof.Rows PySem.Calls
set_option maxRecDepth 100000
set_option maxHeartbeats 4000000
namespace Mine
/-- a def of the text, out of what its top left -/
noncomputable def fdAt (P : Params) (a : Nat) : FuncData := match (hd.heap_39 P).lookup a with
  | some ⟨_, _, .func fd, _⟩ => fd
  | _ => default
noncomputable abbrev envAt (P : Params) (a : Nat) (L : Nat) : Env := callEnvC (fdAt P a) L a
section
variable {w : World} {A : Around} {s : Shared}
theorem enter {R : Result → Shared → Prop} {a : Nat} {o : Obj} {body : List Stmt} {vals : List Value} {binds : List (PySem.Str × Value)} (G : Gr w s.heap) (hroom : A.depth < recursionLimit)
    (ho : (hd.heap_39 w.params).lookup a = some o) (hdata : o.data = .func (fdAt w.params a)) (hcd : codeIn (hd.heap_39 w.params) (fdAt w.params a).code (fdAt w.params a).qualname = true)
    (hbody : (fdAt w.params a).body = .stmts body) (hbind : bindArgs (fdAt w.params a) ⟨vals, []⟩ = pure binds) (hclo : (fdAt w.params a).closure = [])
    (hkind : (binds.all fun x => ((fdAt w.params a).scope.names.lookup x.1 == some .local) || ((fdAt w.params a).scope.names.lookup x.1 == some .cell && ((cellsFrom (s.heap.objs.size + 1) (fdAt w.params a).scope.names []).lookup x.1).isSome)) = true)
    (h : ∀ h₁ tk₁, Keep s.heap h₁ → h₁.Ns s.heap.objs.size (bindL (envAt w.params a s.heap.objs.size).kindOf binds fun _ => none) →
      (∀ n c, (envAt w.params a s.heap.objs.size).cells.lookup n = some c → h₁.IsCell c (bindC (envAt w.params a s.heap.objs.size).kindOf binds (fun _ => none) n)) →
      ∀ E' : Value → Shared → Prop, wpAny (model prg w) (A.deeper (envAt w.params a s.heap.objs.size)) (execs body (envAt w.params a s.heap.objs.size)) (fun f s' => R (.ok (.ret (match f with | .ret v => v | _ => .none))) s') E' { s with heap := h₁, toks := tk₁ })
    (hco : (fdAt w.params a).scope.isCoroutine = false := by rfl) (hgen : (fdAt w.params a).scope.isGenerator = false := by rfl) (hk : (fdAt w.params a).scope.kind = .function := by rfl) :
    codeAny (model prg w) A (.call (.ref a) ⟨vals, []⟩) R s := by
  refine codeAny_call_cells hroom (G.X a _ ho) hdata G.lim (codeRec_of G.X hcd) hbody hbind hclo ?_ (fun s₁ C => ?_) hco hgen hk
  · intro x hx
    have := List.all_eq_true.mp hkind x hx
    rw [Bool.or_eq_true, Bool.and_eq_true] at this
    rcases this with q | ⟨q, r⟩
    · exact .inl (by simpa using q)
    · exact .inr ⟨by simpa using q, r⟩
  · obtain ⟨h₁, tk₁, rfl, hk₁⟩ := C.done
    exact h h₁ tk₁ hk₁ C.toInCall.ns C.cell _
end
def intsOf : List PySem.Expr → Option (List Int)
  | [] => some []
  | .Constant (.int k) 0 _ :: es => (intsOf es).map (k :: ·)
  | _ :: _ => none
section
variable {w : World} {A : Around} {E : Value → Shared → Prop} {s : Shared} {env : Env}
/-- a display of written ints -/
theorem args_ints_aux {pos : Pos} : ∀ (es : List PySem.Expr) (ks : List Int) {s : Shared} {Q : List Value → Shared → Prop}, intsOf es = some ks → (∀ vs tk, vs.length = ks.length → (∀ i, i < ks.length → ∃ t, vs[i]? = some (.int (ks.getD i 0) t)) → Q vs { s with toks := tk }) →
    wpAny (model prg w) A (spliced (backTo pos (starEach es env))) Q E s
  | [], ks, s, Q, e, h => by
    cases e
    exact args_nil (h [] s.toks rfl fun i hi => absurd hi (Nat.not_lt_zero _))
  | x :: es, ks, s, Q, e, h => by
    unfold intsOf at e
    split at e
    · rename_i he; cases he
    · rename_i k p es' he
      cases he
      cases hq : intsOf es with
      | none => rw [hq] at e; cases e
      | some ks' =>
        rw [hq] at e
        cases e
        refine args_cons (wpAny_Constant_int (args_ints_aux es ks' hq fun vs tk hl hv => ?_))
        refine h (.int k s.toks :: vs) tk (by simp [hl]) fun i hi => ?_
        cases i with
        | zero => exact ⟨s.toks, rfl⟩
        | succ i =>
          obtain ⟨t, e⟩ := hv i (by simpa using hi)
          exact ⟨t, by simpa using e⟩
    · cases e
theorem args_ints {pos : Pos} {es : List PySem.Expr} {ks : List Int} {Q : List Value → Shared → Prop} (e : intsOf es = some ks) (h : ∀ vs tk, vs.length = ks.length → (∀ i, i < ks.length → ∃ t, vs[i]? = some (.int (ks.getD i 0) t)) → Q vs { s with toks := tk }) :
    wpAny (model prg w) A (spliced (backTo pos (starEach es env))) Q E s := args_ints_aux es ks e h
theorem new_list {vs : List Value} {Q : Value → Shared → Prop} (hn : vs.length ≤ 1000) (h : ∀ h' (l : Nat), Keep s.heap h' → s.heap.get? l = none → h'.get? l = some { cls := .type "list", data := .seq vs.toArray } → Q (.ref l) { s with heap := h' }) : wpAny (model prg w) A (newList vs) Q E s :=
  wpAny_newObj_type (h _ _ (fun _ _ e => Heap.get?_push_of_some _ e) (Heap.get?_none_of_le (Nat.le_refl _)) (Heap.get?_push_size _ rfl)) (by
    show vs.toArray.size ≤ sizeLine
    rw [List.size_toArray, show sizeLine = 2 ^ 24 from rfl]; omega)
theorem new_tuple {vs : List Value} {Q : Value → Shared → Prop} (hn : vs.length ≤ 1000) (h : ∀ h' (l : Nat), Keep s.heap h' → s.heap.get? l = none → h'.get? l = some { cls := .type "tuple", data := .seq vs.toArray } → Q (.ref l) { s with heap := h' }) : wpAny (model prg w) A (newTuple vs) Q E s :=
  wpAny_newObj_type (h _ _ (fun _ _ e => Heap.get?_push_of_some _ e) (Heap.get?_none_of_le (Nat.le_refl _)) (Heap.get?_push_size _ rfl)) (by
    show vs.toArray.size ≤ sizeLine
    rw [List.size_toArray, show sizeLine = 2 ^ 24 from rfl]; omega)
theorem cInt {i : Int} {k : Nat} {pos : Pos} {Q : Value → Shared → Prop} (h : ∀ t tk, Q (.int i t) { s with toks := tk }) : wpAny (model prg w) A (eval (.Constant (.int i) k pos) env) Q E s := wpAny_Constant_int (h _ _)
theorem iter_list {l : Nat} {items : Array Value} {Q : Value → Shared → Prop} (hl : s.heap.IsList l items) (h : ∀ h' (I : Nat), Keep s.heap h' → s.heap.get? I = none → h'.IsListIter I l 0 → @LT.lt Nat _ I h'.objs.size → Q (.ref I) { s with heap := h' }) : wpAny (model prg w) A (pyIter (.ref l)) Q E s :=
  wpAny_pyIter_list hl (h _ _ (fun _ _ e => Heap.get?_push_of_some _ e) (Heap.get?_none_of_le (Nat.le_refl _)) ⟨_, Heap.get?_push_size _ rfl, rfl, rfl⟩ (by rw [Heap.size_push]; exact Nat.lt_succ_self _))
theorem iter_tuple {l : Nat} {items : Array Value} {Q : Value → Shared → Prop} (hl : s.heap.IsTuple l items) (h : ∀ h' (I : Nat), Keep s.heap h' → s.heap.get? I = none → h'.IsTupleIter I l 0 → @LT.lt Nat _ I h'.objs.size → Q (.ref I) { s with heap := h' }) : wpAny (model prg w) A (pyIter (.ref l)) Q E s :=
  wpAny_pyIter_tuple hl (h _ _ (fun _ _ e => Heap.get?_push_of_some _ e) (Heap.get?_none_of_le (Nat.le_refl _)) ⟨_, Heap.get?_push_size _ rfl, rfl, rfl⟩ (by rw [Heap.size_push]; exact Nat.lt_succ_self _))
end
end Mine
end

section
open PySem PySem.W PySem.Builtin PyProof.Rows PySem.Calls
set_option maxRecDepth 100000
set_option maxHeartbeats 4000000
namespace Mine
theorem list_cast (i : Nat) (hi : i < 11) : ([3, 5, 6, 7, 9, 10, 11, 12, 13, 14, 15] : List Int).getD i 0 = ((places.getD i 0 : Nat) : Int) := by
  have key : ∀ i : Fin 11, ([3, 5, 6, 7, 9, 10, 11, 12, 13, 14, 15] : List Int).getD i.val 0 = ((places.getD i.val 0 : Nat) : Int) := by decide
  exact key ⟨i, hi⟩
theorem places_lt (i : Nat) (hi : i < 11) : places.getD i 0 < 16 := by
  have key : ∀ i : Fin 11, places.getD i.val 0 < 16 := by decide
  exact key ⟨i, hi⟩
theorem bits_cast (i : Nat) (hi : i < 4) : ([1, 2, 4, 8] : List Int).getD i 0 = ((bits.getD i 0 : Nat) : Int) := by
  have key : ∀ i : Fin 4, ([1, 2, 4, 8] : List Int).getD i.val 0 = ((bits.getD i.val 0 : Nat) : Int) := by decide
  exact key ⟨i, hi⟩
theorem bits_lt (i : Nat) (hi : i < 4) : 0 < bits.getD i 0 ∧ bits.getD i 0 < 16 := by
  have key : ∀ i : Fin 4, 0 < bits.getD i.val 0 ∧ bits.getD i.val 0 < 16 := by decide
  exact key ⟨i, hi⟩
theorem sel_int (b i : Nat) : ((((i : Int).fdiv (b : Int)).fmod 2 == 1) : Bool) = selB b i := by
  unfold selB
  rw [Int.fdiv_eq_ediv_of_nonneg _ (by omega), Int.fmod_eq_emod_of_nonneg _ (by omega)]
  have e : (i : Int) / (b : Int) % 2 = ((i / b % 2 : Nat) : Int) := by norm_cast
  rw [e]
  by_cases q : i / b % 2 = 1
  · rw [q]; rfl
  · rw [show (i / b % 2 == 1) = false from by simpa using q]
    simp only [beq_eq_false_iff_ne, ne_eq]
    omega
section
variable {w : World} {A : Around} {s : Shared}
theorem ones_call {R : Result → Shared → Prop} {n : Int} {t : Tok} (G : Gr w s.heap) (ro : Room A 1 10)
    (post : ∀ h' tk (D : Nat), Keep s.heap h' → IntList h' D 16 (onesOf n) → s.heap.get? D = none → R (.ok (.ret (.ref D))) { s with heap := h', toks := tk }) :
    codeAny (model prg w) A (.call (.ref 77) ⟨[.int n t], []⟩) R s := by
  refine enter (binds := [("number", .int n t)]) G (by have := ro.depth; omega) rfl rfl (by rfl) rfl (by rfl) rfl (by rfl) ?_
  intro h₁ tk₁ hk₁ ns cells E'
  have c1 := cells "ones" (s.heap.objs.size + 1) rfl
  have c2 := cells "bit" (s.heap.objs.size + 1 + 1) rfl
  clear cells
  have G₁ := G.keeps hk₁
  have F₁ : Fr s.heap s.heap.objs.size h₁ _ := ⟨ns, hk₁, Nat.le_refl _⟩
  obtain ⟨o1, e1, d1⟩ := c1
  obtain ⟨o2, e2, d2⟩ := c2
  have N₁ : News s.heap s.heap.objs.size h₁ [(s.heap.objs.size + 1, o1), (s.heap.objs.size + 1 + 1, o2)] := by
    intro p hp
    simp only [List.mem_cons, List.not_mem_nil, or_false] at hp
    rcases hp with rfl | rfl
    · exact ⟨e1, by simp, fresh_above _ 1⟩
    · exact ⟨e2, by show s.heap.objs.size + 1 + 1 ≠ s.heap.objs.size; omega, fresh_above _ 2⟩
  refine wpAny_execs_cons (wpAny_Assign_Name (wpAny_BinOp (List_ (args_cons (wpAny_Constant_int (args_nil ?_))))))
  refine newList_N F₁ N₁ fun h₂ F₂ N₂ => ?_
  refine wpAny_Constant_int ?_
  dsimp only
  refine mul_list F₂ N₂ (N₂ _ List.mem_cons_self).1 (by decide) (by decide) (by show 1 * 16 ≤ 2 ^ 24; decide) fun h₃ F₃ N₃ => ?_
  dsimp only at N₂ N₃ ⊢
  have eO : h₃.get? (s.heap.objs.size + 1) = some o1 := N₃.get (List.mem_cons_of_mem _ (List.mem_cons_of_mem _ List.mem_cons_self))
  have eB : h₃.get? (s.heap.objs.size + 1 + 1) = some o2 := N₃.get (List.mem_cons_of_mem _ (List.mem_cons_of_mem _ (List.mem_cons_of_mem _ List.mem_cons_self)))
  obtain ⟨el, _, nl⟩ := N₃ _ List.mem_cons_self
  dsimp only at el nl
  have ea : (List.foldl (fun x1 x2 => x1 ++ x2) #[] (List.replicate (if (#[Value.int 0 tk₁] : Array Value).isEmpty = true then 0 else Int.toNat 16) #[Value.int 0 tk₁])) = Array.replicate 16 (Value.int 0 tk₁) := by kernel_rfl
  rw [ea] at el
  have il : IntList h₃ h₂.objs.size 16 (fill n 0) := ⟨_, ⟨_, el, rfl, _, rfl⟩, by simp, fun i hi => ⟨tk₁, by simp [Array.getElem?_replicate, hi, fill]⟩⟩
  generalize h₂.objs.size = lo at *
  refine wpAny_storeName_cell (c := s.heap.objs.size + 1) rfl rfl rfl ⟨o1, eO, d1⟩ fun h₄ cO₄ sb₄ => ?_
  obtain ⟨m, bv, hm, os⟩ : ∃ m bv, (∃ t', m "number" = some (.int (halves n 0) t')) ∧ OS s.heap s.heap.objs.size (s.heap.objs.size + 1) (s.heap.objs.size + 1 + 1) lo h₄ m bv (fill n 0) := by
    have x1 : lo ≠ s.heap.objs.size + 1 := Ne.symm (by obtain ⟨items, il', _⟩ := il; exact cell_list (v := _) ⟨o1, eO, d1⟩ il')
    refine ⟨_, _, ⟨t, by rfl⟩, fun b o e => sb₄.extBut b o (ne_of_none (fresh_above _ 1) e) (F₃.keep b o e), F₃.ns.sameBut sb₄ ?_, cO₄, OS.cellAt sb₄ ⟨o2, eB, d2⟩ ?_, OS.listAt sb₄ il x1, fresh_above _ 0, fresh_above _ 2, nl, ?_⟩
    · exact Nat.ne_of_lt (Nat.lt_succ_self _)
    · exact Nat.ne_of_gt (Nat.lt_succ_self _)
    · exact Nat.ne_of_lt (Nat.lt_succ_self _)
  have G₄ := G.keeps os.keep
  clear F₁ F₂ F₃ N₁ N₂ N₃ ea el il cO₄ sb₄ eO eB e1 e2 d1 d2 nl ns hk₁ G₁
  generalize hL : s.heap.objs.size = L at *
  -- the first loop
  refine wpAny_execs_cons ?_
  refine wpAny_For ?_
  refine List_ ?_
  refine @args_ints _ _ _ _ _ _ _ [3, 5, 6, 7, 9, 10, 11, 12, 13, 14, 15] _ rfl ?_
  intro vs tk₂ hvl hvi
  refine new_list (by rw [hvl]; decide) fun h₅ ax k₅ nax eax => ?_
  dsimp only at k₅ nax ⊢
  refine iter_list (items := vs.toArray) ⟨_, eax, rfl, _, rfl⟩ ?_
  intro h₆ I k₆ nI itI ltI
  dsimp only at k₆ nI ⊢
  have neax : ax ≠ lo := by
    obtain ⟨items, ⟨o, e, _⟩, _⟩ := os.li
    exact Ne.symm (ne_of_none nax e)
  have os₀ := os
  have k₄₆ : Keep h₄ h₆ := Keep.trans k₅ k₆
  have lax : h₆.IsList ax vs.toArray := ⟨_, k₆ _ _ eax, rfl, _, rfl⟩
  have neI : ax ≠ I := ne_of_none nI eax
  have hsz : vs.toArray.size = 11 := by rw [List.size_toArray]; exact hvl
  refine @for_gen w _ _ _ _ _ _ I [I, ax] vs.toArray.size _ _ (Walks.list (A := A.deeper _) ro.calm I ax neI vs.toArray)
    (fun i s' => ∃ h tk m bv, s' = { s with heap := h, toks := tk } ∧ (∃ t', m "number" = some (.int (halves n i) t')) ∧ OS s.heap L (L + 1) (L + 1 + 1) lo h m bv (fill n i) ∧ h.IsListIter I ax i ∧ h.IsList ax vs.toArray)
    ?_ ?_ ?_ ?_ ?_
  · exact ⟨h₆, tk₂, m, bv, rfl, hm, os.keeps k₄₆, itI, lax⟩
  · rintro i s' ⟨h, tk, m, bv, rfl, _, _, h1, h2⟩
    exact ⟨h1, h2⟩
  · rintro i s' v h' tk hi ⟨h, tk', m, bv, rfl, ⟨t', hm⟩, os, h1, h2⟩ hv ⟨st1, st2⟩ hk E''
    dsimp only at hk ⊢
    rw [hsz] at hi
    obtain ⟨tv, ev⟩ := hvi i hi
    have hv' : v = .int (places.getD i 0 : Nat) tv := by
      have e1 : vs[i]? = some v := by simpa using hv
      rw [ev] at e1
      cases e1
      congr 1
      exact list_cast i hi
    subst hv'
    have pl : places.getD i 0 < 16 := places_lt i hi
    obtain ⟨oI, eI, _, dI⟩ := h1
    have os' := os.move (h' := h') eI dI (none_of (Keep.trans os₀.keep k₅) nI) hk
    refine wpAny_assign_Name (wpAny_storeName_local rfl os'.ns ?_ rfl)
    intro h₇ ns₇ sb₇
    have os₇ := os'.store ns₇ sb₇
    have it₇ : h₇.IsListIter I ax (i + 1) := by
      obtain ⟨o, e, c, d⟩ := st1
      obtain ⟨oL, es, ep, eL, dL, _⟩ := os'.ns
      exact ⟨o, sb₇.extBut _ _ (Ne.symm (data_ne eL e (by rw [dL, d]; nofun))) e, c, d⟩
    have la₇ : h₇.IsList ax vs.toArray := st2.extBut sb₇.extBut (Ne.symm (ns_list os'.ns st2))
    clear sb₇ ns₇
    dsimp only
    refine wpAny_execs_cons ?_
    refine wpAny_Assign_Subscript ?_
    refine wpAny_BinOp ?_
    refine ldL (v := .int (halves n i) t') os₇.ns (by show (if _ then _ else _) = _; rw [if_neg (by decide)]; exact hm) ?_
    refine cInt ?_
    intro t₁ tk₁
    refine mod_int' (by decide) ?_
    refine ldC os₇.co ?_
    refine ldL (v := .int (places.getD i 0 : Nat) tv) os₇.ns (by show (if _ then _ else _) = _; rw [if_pos rfl]) ?_
    obtain ⟨items, il, ia⟩ := os₇.li
    refine wpAny_setItem_list il (by omega) (by omega) (by rw [ia.1]; omega) ?_
    intro h₈ il₈ sb₈
    have os₈ := os₇.setList (g := fill n (i + 1)) ⟨_, il₈, by simpa [fill] using arr_set ia pl⟩ sb₈
    have it₈ : h₈.IsListIter I ax (i + 1) := by
      obtain ⟨o, e, c, d⟩ := it₇
      obtain ⟨p, f, _, k, hp⟩ := il
      exact ⟨o, sb₈.extBut _ _ (Ne.symm (data_ne f e (by rw [hp, d]; nofun))) e, c, d⟩
    have la₈ : h₈.IsList ax vs.toArray := la₇.extBut sb₈.extBut neax
    clear sb₈ il₈ il ia os₇ it₇ la₇
    dsimp only
    refine wpAny_execs_cons ?_
    refine wpAny_Assign_Name ?_
    refine wpAny_BinOp ?_
    refine ldL (v := .int (halves n i) t') os₈.ns (by show (if _ then _ else _) = _; rw [if_neg (by decide)]; exact hm) ?_
    refine cInt ?_
    intro t₂ tk₂'
    refine floordiv_int (by decide) ?_ (Or.inl (PyProof.noPylong_of_log2 (by decide +kernel)))
    refine wpAny_storeName_local rfl os₈.ns ?_ rfl
    intro h₉ ns₉ sb₉
    have os₉ := os₈.store ns₉ sb₉
    refine wpAny_execs_nil ⟨h₉, _, _, _, rfl, ⟨_, by show (if _ then _ else _) = _; rw [if_pos rfl]; rfl⟩, os₉, ?_, ?_⟩
    · obtain ⟨o, e, c, d⟩ := it₈
      obtain ⟨oL, es, ep, eL, dL, _⟩ := os₈.ns
      exact ⟨o, sb₉.extBut _ _ (Ne.symm (data_ne eL e (by rw [dL, d]; nofun))) e, c, d⟩
    · exact la₈.extBut sb₉.extBut (Ne.symm (ns_list os₈.ns la₈))
  · rintro s' h' tk ⟨h, tk', m, bv, rfl, _, os, ⟨oI, eI, _, dI⟩, h2⟩ hk
    have os' := os.move (h' := h') eI dI (none_of (Keep.trans os₀.keep k₅) nI) hk
    rw [hsz] at os'
    clear os hk h2 eI dI itI ltI lax neI neax nI eax nax hvi hvl k₅ k₆ k₄₆ os₀
    dsimp only
    -- the second loop
    refine wpAny_execs_cons ?_
    refine wpAny_For ?_
    refine Tuple_ ?_
    refine @args_ints _ _ _ _ _ _ _ [1, 2, 4, 8] _ rfl ?_
    intro us tk₃ hul hui
    refine new_tuple (by rw [hul]; decide) ?_
    intro h₅ at₂ k₅ nat₂ eat₂
    dsimp only at k₅ nat₂ ⊢
    refine iter_tuple (items := us.toArray) ⟨_, eat₂, rfl, _, rfl⟩ ?_
    intro h₆ J k₆ nJ itJ ltJ
    dsimp only at k₆ nJ ⊢
    have neJ : at₂ ≠ J := ne_of_none nJ eat₂
    have os₆ := os'.keeps (Keep.trans k₅ k₆)
    have nJ₀ : s.heap.get? J = none := none_of (Keep.trans os'.keep k₅) nJ
    have tat : h₆.IsTuple at₂ us.toArray := ⟨_, k₆ _ _ eat₂, rfl, _, rfl⟩
    have nat₃ : at₂ ≠ lo := by
      obtain ⟨items, ⟨o, e, _⟩, _⟩ := os'.li
      exact Ne.symm (ne_of_none nat₂ e)
    have husz : us.toArray.size = 4 := by rw [List.size_toArray]; exact hul
    refine @for_gen w _ _ _ _ _ _ J [J, at₂] us.toArray.size _ _ (Walks.tuple (A := A.deeper _) ro.calm J at₂ neJ us.toArray)
      (fun i s' => ∃ h tk m bv, s' = { s with heap := h, toks := tk } ∧ OS s.heap L (L + 1) (L + 1 + 1) lo h m bv (evened (fill n 11) i) ∧ h.IsTupleIter J at₂ i ∧ h.IsTuple at₂ us.toArray)
      ?_ ?_ ?_ ?_ ?_
    · exact ⟨h₆, tk₃, m, bv, rfl, os₆, itJ, tat⟩
    · rintro i s' ⟨h, tk, m, bv, rfl, _, h1, h2⟩
      exact ⟨h1, h2⟩
    · rintro i s' v h' tk hi ⟨h, tk', m, bv, rfl, os, ⟨oJ, eJ, _, dJ⟩, h2⟩ hv ⟨st1, st2⟩ hk E''
      dsimp only at hk ⊢
      rw [husz] at hi
      obtain ⟨tv, ev⟩ := hui i hi
      have hv' : v = .int (bits.getD i 0 : Nat) tv := by
        have e1 : us[i]? = some v := by simpa using hv
        rw [ev] at e1
        cases e1
        congr 1
        exact bits_cast i hi
      subst hv'
      obtain ⟨pl0, pl⟩ := bits_lt i hi
      have os' := os.move (h' := h') eJ dJ nJ₀ hk
      have ef : evened (fill n 11) (i + 1) = upd (evened (fill n 11) i) (bits.getD i 0) ((selSum (selB (bits.getD i 0)) (evened (fill n 11) i) 16).fmod 2) := rfl
      rw [ef]
      generalize bits.getD i 0 = b at *
      generalize evened (fill n 11) i = f at *
      refine wpAny_assign_Name (wpAny_storeName_cell (c := L + 1 + 1) rfl rfl rfl os'.cb ?_)
      intro h₇ cb₇ sb₇
      have os₇ := os'.setBit cb₇ sb₇
      have it₇ : h₇.IsTupleIter J at₂ (i + 1) := by
        obtain ⟨o, e, c, d⟩ := st1
        obtain ⟨oL, eL, dL⟩ := os'.cb
        exact ⟨o, sb₇.extBut _ _ (Ne.symm (data_ne eL e (by rw [dL, d]; nofun))) e, c, d⟩
      have la₇ : h₇.IsTuple at₂ us.toArray := by
        obtain ⟨o, e, c, k, d⟩ := st2
        obtain ⟨oL, eL, dL⟩ := os'.cb
        exact ⟨o, sb₇.extBut _ _ (Ne.symm (data_ne eL e (by rw [dL, d]; nofun))) e, c, k, d⟩
      clear sb₇ cb₇ os' st1 st2 hk eJ dJ os h2
      have G₇ := G.keeps os₇.keep
      dsimp only
      refine wpAny_execs_cons ?_
      refine wpAny_Assign_Subscript ?_
      refine wpAny_BinOp ?_
      refine Call_ ?_
      refine ldB (v := .builtin "sum") G₇ (by rfl) (by decide +kernel) ?_
      refine PyProof.Rows.callWith_builtin1 ?_
      refine args_cons ?_
      refine comp_eval (n := 16) (P := fun i v => ∃ t, v = .int (0 + (i : Int)) t) (sel := selB b) (Y := fun i y => ∃ t, y = .int (f i) t) ?_ ?_ ?_
      · exact src_range ro.calm (fun Q' hQ => ev_range1 G₇ hQ) (by decide) (by decide)
      · rintro p v h tk C' m' hp ⟨t, rfl⟩ hk hns hm E'
        have os₈ := os₇.keeps hk
        rw [Int.zero_add] at hm
        dsimp only
        refine wpAny_tests_one ?_
        refine wpAny_isTrue_Compare1 ?_
        refine wpAny_BinOp ?_
        refine wpAny_BinOp ?_
        refine ldL hns hm ?_
        refine ldC os₈.cb ?_
        refine floordiv_int (by omega) ?_ (Or.inl (PyProof.noPylong_small (by omega)))
        refine cInt ?_
        intro t₁ tk₁
        refine mod_int' (by decide) ?_
        refine cInt ?_
        intro t₂ tk₂
        refine PySem.P.eq_int ?_
        refine wpAny_truthy_bool ?_
        refine ⟨sel_int b p, ⟨_, _, rfl, Keep.refl _⟩, fun hb => ?_⟩
        dsimp only
        refine Subscript_ ?_
        refine ldC os₈.co ?_
        refine ldL hns hm ?_
        refine item_int os₈.li hp (by decide) ?_
        intro t₃
        exact ⟨⟨_, rfl⟩, _, _, rfl, Keep.refl _⟩
      · intro D h₈ tk₈ ys hk₈ hD hpre hnew
        obtain ⟨val, hval, hsum⟩ := pre_sum hpre
        refine args_nil ?_
        refine call_sum (val := val) ro.calm ⟨_, hD, rfl, _, rfl⟩ (fun j hj => by
          obtain ⟨t, e⟩ := hval j (by simpa using hj)
          exact ⟨t, by simpa using e⟩) ?_
        intro h₉ tk₉ t₉ hk₉
        rw [List.size_toArray, hsum]
        dsimp only at hk₈ hk₉ ⊢
        refine cInt ?_
        intro t₁ tk₁
        refine mod_int' (by decide) ?_
        have hk := Keep.trans hk₈ hk₉
        have os₉ := os₇.keeps hk
        refine ldC os₉.co ?_
        refine ldC os₉.cb ?_
        obtain ⟨items, il, ia⟩ := os₉.li
        refine wpAny_setItem_list il (by omega) (by omega) (by rw [ia.1]; omega) ?_
        intro h₁₀ il₁₀ sb₁₀
        have os₁₀ := os₉.setList (g := upd f b ((selSum (selB b) f 16).fmod 2)) ⟨_, il₁₀, by simpa using arr_set ia pl⟩ sb₁₀
        refine wpAny_execs_nil ⟨h₁₀, _, _, _, rfl, os₁₀, ?_, ?_⟩
        · obtain ⟨o, e, c, d⟩ := it₇
          obtain ⟨p, f, _, k, hp⟩ := il
          exact ⟨o, sb₁₀.extBut _ _ (Ne.symm (data_ne f (hk _ _ e) (by rw [hp, d]; nofun))) (hk _ _ e), c, d⟩
        · obtain ⟨o, e, c, k, d⟩ := la₇
          exact ⟨o, sb₁₀.extBut _ _ nat₃ (hk _ _ e), c, k, d⟩
    · rintro s' h' tk ⟨h, tk', m, bv, rfl, os, ⟨oJ, eJ, _, dJ⟩, h2⟩ hk
      have os' := os.move (h' := h') eJ dJ nJ₀ hk
      rw [husz] at os'
      have G₇ := G.keeps os'.keep
      dsimp only
      -- the whole sum
      refine wpAny_execs_cons ?_
      refine wpAny_Assign_Subscript ?_
      refine wpAny_BinOp ?_
      refine Call_ ?_
      refine ldB (v := .builtin "sum") G₇ (by rfl) (by decide +kernel) ?_
      refine PyProof.Rows.callWith_builtin1 ?_
      refine args_cons ?_
      refine ldC os'.co ?_
      refine args_nil ?_
      obtain ⟨items, il, ia⟩ := os'.li
      refine call_sum (val := evened (fill n 11) 4) ro.calm il (fun j hj => ia.2 j (by rw [← ia.1]; exact hj)) ?_
      intro h₈ tk₈ t₈ hk₈
      rw [ia.1]
      dsimp only at hk₈ ⊢
      refine cInt ?_
      intro t₁ tk₁
      refine mod_int' (by decide) ?_
      have os₈ := os'.keeps hk₈
      refine ldC os₈.co ?_
      refine cInt ?_
      intro t₂ tk₂
      obtain ⟨items₈, il₈, ia₈⟩ := os₈.li
      refine wpAny_setItem_list il₈ (by decide) (by decide) (by rw [ia₈.1]; decide) ?_
      intro h₉ il₉ sb₉
      have os₉ := os₈.setList (g := onesOf n) ⟨_, il₉, by simpa [onesOf] using arr_set ia₈ (k := 0) (by decide)⟩ sb₉
      refine wpAny_execs_cons ?_
      refine wpAny_Return_some ?_
      refine ldC os₉.co ?_
      exact post h₉ _ lo os₉.keep os₉.li os₉.nlo
    · intro v; rfl
  · intro v; rfl
end
end Mine
end

section
open PySem PySem.W PySem.Builtin PyProof.Rows PySem.Calls
set_option maxRecDepth 100000
set_option maxHeartbeats 4000000
namespace Mine
/-- `fr` waits for a loop over `fs`, and goes on with `k` at the code `c`; it marks nothing and guards nothing -/
structure Waits (prog : Program) (w : World) (A : Around) (R : GenEnd) (Y : Protocol) (c : Code) (k : Flow → Sem Fin) (fs : List Frame) (fr : Frame) : Prop where
  whole : splitAtGen fs = none → splitAtGen (fr :: fs) = none
  bare : fr.guarded = false
  mark : ∀ x, marksOver (fr :: fs) x = marksOver fs x
  back : ∀ {j : Nat} {s₁ s₂ : Shared} {c₂ : Code} (f : Flow), Seg (model prog w) A R Y j s₁ c (k f) fs s₂ → Seg (model prog w) A R Y j s₁ c₂ (leafOf (.ok f)) (fr :: fs) s₂
section
variable {prog : Program} {w : World} {env : Env} {s s₀ : Shared} {n : Nat} {c : Code} {R : GenEnd} {Y : Protocol} {A : Around} {fs : List Frame}
section
variable {k : Flow → Sem Fin} {e : Value → Sem Fin} {gd : Bool → Bool} {lv : List Value → List Value}
/-- an if inside of a generator -/
theorem seg_If {test : PySem.Expr} {body orelse : List Stmt} {pos : Pos}
    (h : wpAny (model prog w) (A.over c fs) (isTrue test env (eval test env)) (fun b s' => Seg (model prog w) A R Y n s₀ c ((if b = true then execs body env else execs orelse env).wrap k e gd lv) fs s')
      (fun x s' => Seg (model prog w) A R Y n s₀ c (e x) fs s') s) :
    Seg (model prog w) A R Y n s₀ c ((exec (.If test body orelse pos) env).wrap k e gd lv) fs s := by
  show Seg _ A R Y n s₀ c (Sem.wrap k e gd lv (standAt pos >>= fun _ => isTrue test env (eval test env) >>= fun b => if b = true then execs body env else execs orelse env)) fs s
  exact seg_bind_wrap (wpAny_standAt (seg_bind_wrap h))
/-- a for inside of a generator: its loop is run under any frame that waits for it -/
theorem seg_For {target iter : PySem.Expr} {body orelse : List Stmt} {pos : Pos} (hg : gd false = false)
    (h : wpAny (model prog w) (A.over c fs) (eval iter env) (fun x s₁ => wpAny (model prog w) (A.over c fs) (pyIter x) (fun it s₂ => ∀ fr, Waits prog w A R Y c k fs fr →
      Seg (model prog w) A R Y n s₀ (.forLoop target it body orelse env) ((model prog w).den (.forLoop target it body orelse env)) (fr :: fs) s₂)
      (fun x s' => Seg (model prog w) A R Y n s₀ c (e x) fs s') s₁) (fun x s' => Seg (model prog w) A R Y n s₀ c (e x) fs s') s)
    (hs : ∀ x, foldedSetIterable iter env x = pure x := by intro _; rfl) :
    Seg (model prog w) A R Y n s₀ c ((exec (.For target iter body orelse pos) env).wrap k e gd lv) fs s := by
  rw [exec_For]
  refine seg_bind_wrap (wpAny_standAt (seg_bind_wrap (wpAny_mono h (fun x s₁ h₁ => ?_) fun _ _ z => z)))
  refine seg_bind_wrap (wpAny_of_eq (hs x) (seg_bind_wrap (wpAny_standAt ?_)))
  refine seg_bind_wrap (wpAny_holding (wpAny_mono h₁ (fun it s₂ h₂ => seg_call fun p => h₂ _ ?_) fun _ _ z => z))
  exact ⟨fun q => by rw [splitAtGen_ret, q]; rfl, hg, fun _ => rfl, fun f q => seg_leaf (.ok f) q⟩
end
/-- a turn of a for inside of a generator -/
theorem seg_forLoop {target : PySem.Expr} {body : List Stmt} {it : Value}
    (h : wpAny (model prog w) (A.over (.forLoop target it body [] env) fs) (pyNext it) (fun v s₁ => match v with
      | none => Seg (model prog w) A R Y n s₀ (.block [] env) ((model prog w).den (.block [] env)) fs s₁
      | some v => wpAny (model prog w) (A.over (.forLoop target it body [] env) fs) (assign target env v) (fun _ s₂ => ∀ H',
          Seg (model prog w) A R Y n s₀ (.forLoop target it body [] env) ((execs body env).wrap (fun f => match f with
            | .next | .cont => .pure (.again (.forLoop target it body [] env))
            | .brk => .pure (.done .next)
            | .ret v => .pure (.done (.ret v))) H' id id) fs s₂) (fun _ _ => False) s₁) (fun _ _ => False) s)
    (ht : ∀ v, letOwnedTupleGo target it v = pure () := by intro _; rfl) :
    Seg (model prog w) A R Y n s₀ (.forLoop target it body [] env) ((model prog w).den (.forLoop target it body [] env)) fs s := by
  show Seg _ A R Y n s₀ _ ((forTurn target it body [] env).onRaise (fun x => do noteFrame x env; theTreesLotGoes x)) fs s
  unfold forTurn
  rw [Sem.onRaise_eq_wrap]
  refine seg_bind_wrap (wpAny_standAt ?_)
  refine seg_bind_wrap (wpAny_onRaise (wpAny_mono h (fun v s₁ h₁ => ?_) fun _ _ e => e.elim))
  cases v with
  | none => exact seg_again rfl h₁
  | some v =>
    refine seg_bind_wrap (wpAny_of_eq (ht v) ?_)
    refine seg_bind_wrap (wpAny_mono h₁ (fun _ s₂ h₂ => ?_) fun _ _ e => e.elim)
    rw [Sem.bind_eq_wrap', Sem.wrap_wrap]
    have := h₂ (fun e => ((do noteFrame e env; theTreesLotGoes e : Sem Unit).bind fun _ => .raise e))
    rw [Sem.wrap_congr (execs body env) _ _ (K' := fun f => match f with
            | .next | .cont => .pure (.again (.forLoop target it body [] env))
            | .brk => .pure (.done .next)
            | .ret v => .pure (.done (.ret v))) (H' := fun e => ((do noteFrame e env; theTreesLotGoes e : Sem Unit).bind fun _ => .raise e)) (fun f => by cases f <;> rfl) (fun e => by rfl)]
    exact this
end
end Mine
end

section
open PySem PySem.W PySem.Builtin PyProof.Rows PySem.Calls
set_option maxRecDepth 100000
set_option maxHeartbeats 4000000
namespace Mine
/-- what the generator tells, from here on, `last` told before -/
def tells : List Int → Int → Nat → Option Int
  | [], _, _ => none
  | k :: r, last, j => if k = 127 then none else if k = 0 then some last else match j with
    | 0 => some k
    | j + 1 => tells r k j
noncomputable def gBody (P : Params) : List Stmt := match (fdAt P 38).body with
  | .stmts b => b
  | _ => []
noncomputable def gTarget (P : Params) : PySem.Expr := match gBody P with
  | [_, .For t _ _ _ _] => t
  | _ => .Name "" ⟨0, 0, 0, 0⟩
noncomputable def gTurn (P : Params) : List Stmt := match gBody P with
  | [_, .For _ _ b _ _] => b
  | _ => []
noncomputable abbrev genv (P : Params) (L : Nat) : Env := callEnv (fdAt P 38) L 38
/-- what the generator leaves alone -/
def GF (h₀ : Heap) (L B : Nat) (s₀ s : Shared) : Prop := ∃ h' tk, s = { s₀ with heap := h', toks := tk } ∧ Keep h₀ h' ∧ ∀ (b : Nat) o, b ≠ L → b < B → s₀.heap.get? b = some o → h'.get? b = some o
theorem GF.step {h₀ : Heap} {L B : Nat} {s₀ s : Shared} (x : GF h₀ L B s₀ s) {h' : Heap} {tk : Nat} (k : Keep h₀ h') (hk : ∀ (b : Nat) o, b ≠ L → b < B → s.heap.get? b = some o → h'.get? b = some o) : GF h₀ L B s₀ { s with heap := h', toks := tk } := by
  obtain ⟨h₁, tk₁, rfl, _, hk₁⟩ := x
  exact ⟨h', tk, rfl, k, fun b o hL hB e => hk b o hL hB (hk₁ b o hL hB e)⟩
theorem GF.refl {h₀ : Heap} {L B : Nat} {s : Shared} (k : Keep h₀ s.heap) : GF h₀ L B s s := ⟨s.heap, s.toks, rfl, k, fun _ _ _ _ e => e⟩
def gEnd (h₀ : Heap) (L B : Nat) (ks : List Int) : Nat → Shared → Shared → Prop := fun n s₀ s₁ => tells ks 0 (16 - n) = none ∧ GF h₀ L B s₀ s₁
def gR (h₀ : Heap) (L B : Nat) (ks : List Int) : GenEnd := fun n s₀ r s₁ => r = .ok (.ret .none) ∧ gEnd h₀ L B ks n s₀ s₁
def gY (h₀ : Heap) (L B : Nat) (ks : List Int) : Protocol := fun m s₀ v s kap =>
  (∃ k t, tells ks 0 (15 - m) = some k ∧ v = .int k t) ∧ GF h₀ L B s₀ s ∧ (0 < m → ∀ s'' : Shared, Keep h₀ s''.heap → (∀ (b : Nat) o, (b = L ∨ B ≤ b) → s.heap.get? b = some o → s''.heap.get? b = some o) → kap (.send .none) s'')
/-- a list of written ints -/
def IsKs (h : Heap) (K : Nat) (ks : List Int) : Prop := ∃ items : Array Value, h.IsList K items ∧ items.size = ks.length ∧ ∀ i, i < ks.length → ∃ t, items[i]? = some (.int (ks.getD i 0) t)
section
variable {w : World} {A : Around} {h₀ : Heap} {L B K : Nat} {ks : List Int}
theorem gen_while {fs : List Frame} (hfs : splitAtGen fs = none) (hfg : fs.any Frame.guarded = false) {p1 p2 p3 p4 : Pos} {last : Int} {t : Tok} :
    ∀ (n : Nat) (s₀ s : Shared) (m : PySem.Str → Option Value), 0 < n → n ≤ 16 → Keep h₀ s.heap → s.heap.Ns L m → m "last_interval" = some (.int last t) → GF h₀ L B s₀ s → (∀ j, 16 - n ≤ j → tells ks 0 j = some last) →
      Seg (model prg w) A (gR h₀ L B ks) (gY h₀ L B ks) n s₀ (.whileLoop (.Constant (.bool true) 0 p1) [.Expr (.Yield (some (.Name "last_interval" p2)) p3) p4] [] (genv w.params L))
        ((model prg w).den (.whileLoop (.Constant (.bool true) 0 p1) [.Expr (.Yield (some (.Name "last_interval" p2)) p3) p4] [] (genv w.params L))) fs s
  | 0, _, _, _, h, _, _, _, _, _, _ => absurd h (Nat.lt_irrefl 0)
  | n + 1, s₀, s, m, _, hn, hk, ns, hm, gf, ht => by
    refine seg_whileLoop ?_
    refine wpAny_isTrue_value ?_ (by rfl)
    refine wpAny_of_eq (a := .bool true) (by rfl) ?_
    refine wpAny_truthy_bool ?_
    rw [if_pos rfl]
    refine seg_execs_cons ?_
    refine seg_Expr_Yield hfs rfl hfg ?_
    refine ldL ns hm ?_
    intro kap hkap
    refine ⟨⟨last, t, ht _ (by omega), rfl⟩, gf, fun hn0 s'' hk'' hf'' => ?_⟩
    refine hkap .none s'' ?_
    show Seg _ _ _ _ _ _ _ _ _ _
    refine seg_execs_nil ?_
    refine seg_again rfl ?_
    exact gen_while hfs hfg n s'' s'' m hn0 (by omega) hk'' (ns.at' fun o e => hf'' L o (.inl rfl) e) hm (GF.refl hk'') (fun j hj => ht j (by omega))
end
end Mine
end

section
open PySem PySem.W PySem.Builtin PyProof.Rows PySem.Calls
set_option maxRecDepth 100000
set_option maxHeartbeats 4000000
namespace Mine
section
variable {w : World} {A : Around} {h₀ : Heap} {L B K I : Nat} {ks : List Int}
theorem gen_for {fs : List Frame} (hfs : splitAtGen fs = none) (hfg : fs.any Frame.guarded = false) (hh : (marksOver fs (A.handled, A.handled)).1 = none)
    (hret : ∀ n s₀ s c, gEnd h₀ L B ks n s₀ s → Seg (model prg w) A (gR h₀ L B ks) (gY h₀ L B ks) n s₀ c (leafOf (.ok (.ret .none))) fs s)
    (hnext : ∀ n s₀ s c, gEnd h₀ L B ks n s₀ s → Seg (model prg w) A (gR h₀ L B ks) (gY h₀ L B ks) n s₀ c (leafOf (.ok .next)) fs s)
    (G : Gr w h₀) (hks : IsKs h₀ K ks) (hL : h₀.get? L = none) (hI : h₀.get? I = none) (hLB : L < B) (hBI : B ≤ I) :
    ∀ (rest : List Int) (q n : Nat) (last : Int) (s₀ s : Shared) (m : PySem.Str → Option Value) (t : Tok), ks.drop q = rest → 0 < n → n ≤ 16 → Keep h₀ s.heap → s.heap.IsListIter I K q → s.heap.Ns L m →
      m "last_interval" = some (if q = 0 then .none else .int last t) → (q = 0 → rest.getD 0 1 ≠ 0) → GF h₀ L B s₀ s → (∀ j, tells ks 0 (16 - n + j) = tells rest last j) →
      Seg (model prg w) A (gR h₀ L B ks) (gY h₀ L B ks) n s₀ (.forLoop (gTarget w.params) (.ref I) (gTurn w.params) [] (genv w.params L)) ((model prg w).den (.forLoop (gTarget w.params) (.ref I) (gTurn w.params) [] (genv w.params L))) fs s := by
  obtain ⟨items, hlist, hsize, hitem⟩ := hks
  have hKI : K ≠ I := fun e => by
    subst e
    obtain ⟨o, e, _⟩ := hlist
    rw [hI] at e
    cases e
  have hKL : K ≠ L := fun e => by
    subst e
    obtain ⟨o, e, _⟩ := hlist
    rw [hL] at e
    cases e
  have hLI : L ≠ I := by omega
  have hA : (A.over (.forLoop (gTarget w.params) (.ref I) (gTurn w.params) [] (genv w.params L)) fs).handled = none := hh
  have W := Walks.list (prog := prg) (w := w) hA I K hKI items
  intro rest
  induction rest with
  | nil =>
    intro q n last s₀ s m t hd hn hn' hk hit ns hm hq gf ht
    have hql : ks.length ≤ q := List.drop_eq_nil_iff.mp hd
    refine seg_forLoop ?_
    refine wpAny_pyNext_list_end hA hit (hlist.at fun o e => hk K o e) (Array.getElem?_eq_none (by omega)) fun h' he' => ?_
    show Seg _ _ _ _ _ _ _ _ _ _
    refine hnext n s₀ _ _ ⟨?_, gf.step (tk := s.toks) (fun b o e => he' b o (fun x => by rw [x, hI] at e; cases e) (hk b o e)) (fun b o _ hb e => he' b o (by show b ≠ I; omega) e)⟩
    have := ht 0
    rw [Nat.add_zero] at this
    rw [this]; rfl
  | cons k rest ih =>
    intro q n last s₀ s m t hd hn hn' hk hit ns hm hq gf ht
    have hql : q < ks.length := by
      rcases Nat.lt_or_ge q ks.length with h | h
      · exact h
      · rw [List.drop_eq_nil_of_le h] at hd; cases hd
    have hkq : ks.getD q 0 = k := by
      have := congrArg (fun l => l[0]?) hd
      simp only [List.getElem?_drop, Nat.add_zero, List.getElem?_cons_zero] at this
      rw [List.getD_eq_getElem?_getD, this]; rfl
    have hd' : ks.drop (q + 1) = rest := by
      have := congrArg List.tail hd
      rwa [List.tail_drop] at this
    obtain ⟨tk, hx⟩ := hitem q hql
    rw [hkq] at hx
    refine seg_forLoop ?_
    refine wpAny_pyNext_list_item hit (hlist.at fun o e => hk K o e) hx fun h₁ hit₁ hs₁ => ?_
    have hk₁ : Keep h₀ h₁ := fun b o e => hs₁.extBut b o (fun x => by rw [x, hI] at e; cases e) (hk b o e)
    have gf₁ : GF h₀ L B s₀ { s with heap := h₁, toks := s.toks } := gf.step hk₁ (fun b o _ hb e => hs₁.extBut b o (by show b ≠ I; omega) e)
    have ns₁ : h₁.Ns L m := ns.sameBut hs₁ hLI
    show wpAny _ _ (assign _ _ _) _ _ _
    refine wpAny_assign_Name ?_
    refine wpAny_storeName_local (by rfl) ns₁ fun h₂ ns₂ hs₂ => ?_
    have hk₂ : Keep h₀ h₂ := fun b o e => hs₂.extBut b o (fun x => by rw [x] at e; exact absurd (e.symm.trans hL) (by simp)) (hk₁ b o e)
    have gf₂ : GF h₀ L B s₀ { s with heap := h₂, toks := s.toks + 1 } := gf₁.step hk₂ (fun b o hb _ e => hs₂.extBut b o hb e)
    have hit₂ : h₂.IsListIter I K (q + 1) := hit₁.extBut hs₂.extBut (Ne.symm hLI)
    clear hs₁ hs₂ ns₁ gf₁ hk₁ hit₁
    intro H'
    dsimp only
    have G₂ : Gr w h₂ := G.keeps hk₂
    have ht0 := ht 0
    rw [Nat.add_zero] at ht0
    refine seg_execs_cons ?_
    refine seg_If ?_
    refine wpAny_isTrue_Compare1 ?_
    refine ldL ns₂ (by rfl) ?_
    refine ldG (v := .int 127 284) G₂ (by rfl) ?_
    refine PySem.P.eq_int ?_
    refine wpAny_truthy_bool ?_
    by_cases k127 : k = 127
    · rw [show (k == 127) = true from by simpa using k127, if_pos rfl]
      refine seg_execs_cons ?_
      refine seg_wrap ?_
      refine wpAny_Return_none ?_
      refine hret n s₀ _ _ ⟨?_, gf₂⟩
      rw [ht0]; simp [tells, k127]
    · rw [show (k == 127) = false from by simpa using k127, if_neg Bool.false_ne_true]
      refine seg_execs_nil ?_
      dsimp only
      refine seg_execs_cons ?_
      refine seg_If ?_
      refine wpAny_isTrue_Compare1 ?_
      refine ldL ns₂ (by rfl) ?_
      refine cInt fun t₃ tk₃ => ?_
      refine PySem.P.eq_int ?_
      refine wpAny_truthy_bool ?_
      by_cases k0 : k = 0
      · rw [show (k == 0) = true from by simpa using k0, if_pos rfl]
        have q0 : q ≠ 0 := fun e => hq e (by simpa using k0)
        rw [if_neg q0] at hm
        refine seg_execs_cons ?_
        refine seg_If ?_
        refine wpAny_isTrue_Compare1 ?_
        refine ldL ns₂ (v := .int last t) hm ?_
        refine wpAny_of_eq (a := .none) (by rfl) ?_
        refine PyProof.Rows.is_int_none ?_
        refine wpAny_truthy_bool ?_
        rw [if_neg Bool.false_ne_true]
        refine seg_execs_nil ?_
        dsimp only
        refine seg_execs_cons ?_
        refine seg_While fun p => ?_
        refine gen_while (by simp only [splitAtGen, hfs]; rfl) (by simp only [List.any_cons, hfg]; rfl) n s₀ _ _ hn hn' hk₂ ns₂ hm (gf₂.step hk₂ fun _ _ _ _ e => e) ?_
        intro j hj
        have := ht (j - (16 - n))
        rw [show 16 - n + (j - (16 - n)) = j from by omega] at this
        rw [this]; simp [tells, k127, k0]
      · rw [show (k == 0) = false from by simpa using k0, if_neg Bool.false_ne_true]
        refine seg_execs_nil ?_
        dsimp only
        refine seg_execs_cons ?_
        obtain ⟨n', rfl⟩ : ∃ n', n = n' + 1 := ⟨n - 1, by omega⟩
        refine seg_Expr_Yield hfs rfl hfg ?_
        refine ldL ns₂ (by rfl) ?_
        intro kap hkap
        refine ⟨⟨k, tk, ?_, rfl⟩, gf₂.step hk₂ fun _ _ _ _ e => e, fun hn0 s'' hk'' hf'' => ?_⟩
        · rw [show 15 - n' = 16 - (n' + 1) from by omega, ht0]; simp [tells, k127, k0]
        · refine hkap .none s'' ?_
          show Seg _ _ _ _ _ _ _ _ _ _
          dsimp only
          refine seg_execs_cons ?_
          refine seg_wrap ?_
          have ns₃ : s''.heap.Ns L _ := ns₂.at' fun o e => hf'' L o (.inl rfl) e
          refine wpAny_Assign_Name ?_
          refine ldL ns₃ (by rfl) ?_
          refine wpAny_storeName_local (by rfl) ns₃ fun h₄ ns₄ hs₄ => ?_
          have hk₄ : Keep h₀ h₄ := fun b o e => hs₄.extBut b o (fun x => by rw [x] at e; exact absurd (e.symm.trans hL) (by simp)) (hk'' b o e)
          dsimp only
          refine seg_execs_nil ?_
          refine seg_again rfl ?_
          refine ih (q + 1) n' k s'' _ _ tk hd' hn0 (by omega) hk₄ ?_ ns₄ (by rfl) (fun e => absurd e (Nat.succ_ne_zero q)) ((GF.refl hk'').step hk₄ fun b o hb _ e => hs₄.extBut b o hb e) ?_
          · exact (hit₂.at fun o e => hf'' I o (.inr hBI) e).extBut hs₄.extBut (Ne.symm hLI)
          · intro j
            have := ht (j + 1)
            rw [show 16 - (n' + 1) + (j + 1) = 16 - n' + j from by omega] at this
            rw [this]
            simp [tells, k127, k0]
end
end Mine
end

section
open PySem PySem.W PySem.Builtin PyProof.Rows PySem.Calls
set_option maxRecDepth 100000
set_option maxHeartbeats 4000000
namespace Mine
section
variable {w : World} {A : Around} {h₀ : Heap} {L B K : Nat} {ks : List Int}
theorem gen_start {s : Shared} {m : PySem.Str → Option Value} (hA : A.handled = none) (G : Gr w h₀) (hks : IsKs h₀ K ks) (hL : h₀.get? L = none) (hLB : L < B) (hB : B ≤ s.heap.objs.size) (h00 : ks.getD 0 1 ≠ 0)
    (hk : Keep h₀ s.heap) (ns : s.heap.Ns L m) (hm : m "grouping" = some (.ref K)) :
    Seg (model prg w) A (gR h₀ L B ks) (gY h₀ L B ks) 16 s (.func (gBody w.params) (genv w.params L)) ((model prg w).den (.func (gBody w.params) (genv w.params L))) [] s := by
  obtain ⟨items, hlist, hsize, hitem⟩ := id hks
  refine seg_func ?_
  refine seg_execs_cons ?_
  refine seg_wrap ?_
  refine wpAny_Assign_Name ?_
  refine wpAny_of_eq (a := .none) (by rfl) ?_
  refine wpAny_storeName_local (by rfl) ns fun h₁ ns₁ hs₁ => ?_
  have hk₁ : Keep h₀ h₁ := fun b o e => hs₁.extBut b o (fun x => by rw [x] at e; exact absurd (e.symm.trans hL) (by simp)) (hk b o e)
  dsimp only
  refine seg_execs_cons ?_
  refine seg_For rfl ?_
  refine ldL ns₁ (v := .ref K) hm ?_
  refine wpAny_pyIter_list (hlist.at fun o e => hk₁ K o e) ?_
  intro fr W
  have hz : h₁.objs.size = s.heap.objs.size := hs₁.1
  have kp : Keep h₁ (h₁.push { cls := .type "list_iterator", data := .fields #[.ref K, .int 0 0] }) := fun _ _ e => Heap.get?_push_of_some _ e
  refine gen_for (I := h₁.objs.size) ?_ ?_ ?_ ?_ ?_ G hks hL ?_ hLB (by omega) ks 0 16 0 s _ _ 0 (by simp) (by decide) (by decide) (hk₁.trans kp) ⟨_, Heap.get?_push_size _ rfl, rfl, rfl⟩ (ns₁.keeps kp) (by rfl) (fun _ => h00) ?_ ?_
  · exact W.whole rfl
  · rw [List.any_cons, W.bare]; rfl
  · rw [W.mark]; exact hA
  · intro n s₀ s c he
    exact W.back (.ret .none) (seg_end (.ok (.ret .none)) ⟨rfl, he⟩)
  · intro n s₀ s c he
    exact W.back .next (seg_end (.ok (.ret .none)) ⟨rfl, he⟩)
  · cases e : h₀.get? h₁.objs.size with
    | none => rfl
    | some o => exact absurd (Heap.lt_size (hk₁ _ _ e)) (Nat.lt_irrefl _)
  · exact (GF.refl hk).step (hk₁.trans kp) fun b o hb _ e => kp b o (hs₁.extBut b o hb e)
  · intro j
    rw [show 16 - 16 + j = j from by omega]
end
end Mine
end

section
open PySem PySem.W PySem.Builtin PyProof.Rows PySem.Calls
set_option maxRecDepth 100000
set_option maxHeartbeats 4000000
namespace Mine
section
variable {w : World} {A : Around} {E : Value → Shared → Prop} {s : Shared}
theorem keep_push (h : Heap) (o : Obj) : Keep h (h.push o) := fun _ _ e => Heap.get?_push_of_some _ e
/-- StopIteration is raised; nothing that stands is changed -/
theorem raise_stop {α : Type} {Q : α → Shared → Prop} (hh : A.handled = none)
    (hE : ∀ h' (e : Addr), Keep s.heap h' → (∃ o, h'.get? e = some o ∧ o.cls = .type "StopIteration") → E (.ref e) { s with heap := h' }) :
    wpAny (model prg w) A (Builtin.SmallTypes.stopIteration : Sem α) Q E s := by
  obtain ⟨hp, g, d, tk, os⟩ := s
  wp_walk using wpAny_raiseNew_none hh
  exact hE _ _ ((keep_push _ _).trans (keep_push _ _)) ⟨_, Heap.get?_push_size _ rfl, rfl⟩
/-- one draw, by the slot of the iterator's type -/
theorem draw_by {T id : String} {b : Builtin} {it : Addr} {Q : Value → Shared → Prop} (hT : s.TypeIs (.ref it) T) (sl : Slot T "__next__" id) (en : entryFor table id = some b)
    (ar : argsOk id ⟨[.ref it], []⟩) (body : wpAny (model prg w) A.in1 (b ⟨[.ref it], []⟩) (fun fin s' => ∃ v, fin = .done (.ret v) ∧ Q v s') E s) :
    wpAny (model prg w) A (Builtin.SmallTypes.nextOf (.ref it)) Q E s := by
  refine wpAny_bind (wpAny_callSpecial?_slot hT sl (wpAny_call_entry sl hT en (wpAny_mono body ?_ fun _ _ e => e) ar))
  rintro _ s' ⟨v, rfl, q⟩
  exact ⟨v, rfl, wpAny_pure q⟩
/-- a draw from a range that is not used up -/
theorem range_draw {it : Addr} {x left step : Int} {Q : Value → Shared → Prop} (hit : IsRangeIter s.heap it x left step) (hleft : 0 < left)
    (hQ : ∀ h', IsRangeIter h' it (x + step) (left - 1) step → Heap.SameBut it s.heap h' → Q (.int x s.toks) { s with heap := h', toks := s.toks + 1 }) :
    wpAny (model prg w) A (Builtin.SmallTypes.nextOf (.ref it)) Q E s := by
  refine draw_by ⟨_, hit, rfl⟩ F.slot_range_iterator_next F.entry_range_iterator_next (F.args_range_iterator_next_1 _) ?_
  obtain ⟨hp, g, d, tk, os⟩ := s
  have hI : IsRangeIter hp it x left step := hit
  have hn : ¬ left ≤ 0 := by omega
  wp_walk
  refine ⟨_, rfl, hQ _ ?_ ?_⟩
  · exact Heap.get?_update_self _ (Heap.get?_update_self _ hit rfl) rfl
  · exact (Heap.SameBut.update ..).trans (Heap.SameBut.update ..)
/-- a draw from a range that is used up -/
theorem range_stop {it : Addr} {x left step : Int} {Q : Value → Shared → Prop} (hh : A.handled = none) (hit : IsRangeIter s.heap it x left step) (hleft : left ≤ 0)
    (hE : ∀ h' (e : Addr), Keep s.heap h' → (∃ o, h'.get? e = some o ∧ o.cls = .type "StopIteration") → E (.ref e) { s with heap := h' }) :
    wpAny (model prg w) A (Builtin.SmallTypes.nextOf (.ref it)) Q E s := by
  refine draw_by ⟨_, hit, rfl⟩ F.slot_range_iterator_next F.entry_range_iterator_next (F.args_range_iterator_next_1 _) ?_
  obtain ⟨hp, g, d, tk, os⟩ := s
  have hI : IsRangeIter hp it x left step := hit
  wp_walk using raise_stop (A := A.in1) hh
  exact hE
end
end Mine
end

section
open PySem PySem.W PySem.Builtin PyProof.Rows PySem.Calls
set_option maxRecDepth 100000
set_option maxHeartbeats 4000000
namespace Mine
section
variable {w : World} {A : Around} {E : Value → Shared → Prop} {s : Shared}
/-- a draw has ended the zip: its mark is taken off, and what was raised goes on -/
def Ended (z TI TO : Addr) (E : Value → Shared → Prop) (e : Value) (s : Shared) : Prop :=
  IsZip s.heap z TI TO .ellipsis ∧ ∀ h', Heap.SameBut z s.heap h' → E e { s with heap := h' }
/-- zip over any two iterators -/
theorem zip_any {z TI TO i1 i2 : Addr} {x0 y0 : Value} {Q : Value → Shared → Prop} (hz : IsZip s.heap z TI TO .none) (hTI : IsPair s.heap TI (.ref i1) (.ref i2))
    (draw : ∀ h₁, Heap.SameBut z s.heap h₁ → IsZip h₁ z TI TO .ellipsis → wpAny (model prg w) A (Builtin.SmallTypes.nextOf (.ref i1)) (fun x s₂ => IsPair s₂.heap TO x0 y0 ∧ ∀ h₃, Heap.SameBut TO s₂.heap h₃ → IsPair h₃ TO x y0 →
      wpAny (model prg w) A (Builtin.SmallTypes.nextOf (.ref i2)) (fun y s₄ => IsPair s₄.heap TO x y0 ∧ IsZip s₄.heap z TI TO .ellipsis ∧
        ∀ (T : Addr) h', s₄.heap.get? T = none → IsPair h' T x y → IsPair h' TO x y → IsZip h' z TI TO (rawInt T) → (∀ (c : Nat) o, c ≠ z → c ≠ TO → s₄.heap.get? c = some o → h'.get? c = some o) → Q (.ref T) { s₄ with heap := h' })
        (Ended z TI TO E) { s₂ with heap := h₃ }) (Ended z TI TO E) { s with heap := h₁ }) :
    wpAny (model prg w) A (Builtin.«zip.__next__» ⟨[.ref z], []⟩) (fun fin s' => ∃ v, fin = .done (.ret v) ∧ Q v s') E s := by
  obtain ⟨hp, g, d, tk, os⟩ := s
  have hz' : IsZip hp z TI TO .none := hz
  have hTI' : IsPair hp TI (.ref i1) (.ref i2) := hTI
  wp_walk using wpAny_onRaise, wpAny_mono (draw _ (Heap.SameBut.update ..) (Heap.get?_update_self _ hz rfl))
  · rintro x ⟨h₂, g₂, d₂, tk₂, os₂⟩ ⟨hTO₂, draw₂⟩
    have hTO₂' : IsPair h₂ TO x0 y0 := hTO₂
    wp_walk using wpAny_onRaise, wpAny_mono (draw₂ _ (Heap.SameBut.update ..) (Heap.get?_update_self _ hTO₂ rfl))
    · rintro y ⟨h₄, g₄, d₄, tk₄, os₄⟩ ⟨hTO₄, hz₄, post⟩
      have hTO₄' : IsPair h₄ TO x y0 := hTO₄
      have hz₄' : IsZip h₄ z TI TO .ellipsis := hz₄
      have zo : TO ≠ z := fun e => by subst e; exact absurd (show Value.type "tuple" = Value.type "zip" from congrArg Obj.cls (Option.some.inj (hTO₄'.symm.trans hz₄'))) (by decide)
      clear draw draw₂ hTI hTI' hz hz' hTO₂ hTO₂'
      wp_walk
      have one := Heap.SameBut.update h₄ TO (Obj.mapSeq fun v => v.setIfInBounds (0 + 1) y)
      have pair : IsPair _ TO x y := Heap.get?_update_self (Obj.mapSeq fun v => v.setIfInBounds (0 + 1) y) hTO₄' rfl
      have zip₁ := one.extBut _ _ (Ne.symm zo) hz₄'
      revert pair zip₁ one
      generalize h₄.update TO (Obj.mapSeq fun v => v.setIfInBounds (0 + 1) y) = h₅
      intro one pair zip₁
      have zT : h₅.objs.size ≠ z := Nat.ne_of_gt (Heap.lt_size zip₁)
      have kp : ∀ (c : Nat) o, c ≠ z → h₅.get? c = some o → _ := fun c o n e =>
        (Heap.SameBut.update ((h₅.push _).update z (Obj.mapFields fun v => v.setIfInBounds 0 (rawInt h₅.objs.size))) z (Obj.mapFields fun v => v.setIfInBounds 1 (.bool false))).extBut c o n
          ((Heap.SameBut.update (h₅.push { cls := .type "tuple", data := .seq #[x, y] }) z _).extBut c o n (Heap.get?_push_of_some _ e))
      refine ⟨_, rfl, post _ _ (Heap.get?_none_of_le (Nat.le_of_eq one.1.symm)) ?_ (kp TO _ zo pair) ?_ fun c o n1 n2 e => kp c o n1 (one.extBut c o n2 e)⟩
      · exact (Heap.SameBut.update ..).extBut _ _ zT ((Heap.SameBut.update ..).extBut _ _ zT (Heap.get?_push_size _ rfl))
      · exact Heap.get?_update_self _ (Heap.get?_update_self _ (Heap.get?_push_of_some _ zip₁) rfl) rfl
    · rintro e ⟨h₄, g₄, d₄, tk₄, os₄⟩ ⟨hz₄, post⟩
      have hz₄' : IsZip h₄ z TI TO .ellipsis := hz₄
      wp_walk
      exact post _ (Heap.SameBut.update ..)
  · rintro e ⟨h₂, g₂, d₂, tk₂, os₂⟩ ⟨hz₂, post⟩
    have hz₂' : IsZip h₂ z TI TO .ellipsis := hz₂
    wp_walk
    exact post _ (Heap.SameBut.update ..)
end
end Mine
end

section
open PySem PySem.W PySem.Builtin PyProof.Rows PySem.Calls
set_option maxRecDepth 100000
set_option maxHeartbeats 4000000
namespace Mine
theorem bare_set {gens : Array GenState} {g : Nat} {x : GenState} (h : AllBare gens) (hx : x.bare = true) : AllBare (gens.setIfInBounds g x) := fun y hy => by
  rcases Array.mem_or_eq_of_mem_setIfInBounds hy with h1 | h1
  · exact h y h1
  · rw [h1]; exact hx
/-- the generator after i of its numbers -/
def GenAt (w : World) (A : Around) (a g : Nat) (h₀ : Heap) (L B : Nat) (ks : List Int) (i : Nat) (s : Shared) : Prop :=
  s.heap.IsGen a g ∧ ∃ gs, s.gens[g]? = some gs ∧ (i < 16 → ∀ s'' : Shared, Keep h₀ s''.heap → (∀ (b : Nat) o, (b = L ∨ B ≤ b) → s.heap.get? b = some o → s''.heap.get? b = some o) → (i = 0 → B ≤ s''.heap.objs.size) →
    gs.Goes (model prg w) A (gR h₀ L B ks) (gY h₀ L B ks) (16 - i) (.send .none) s'')
section
variable {w : World} {A : Around} {E : Value → Shared → Prop} {s : Shared} {a g L B i : Nat} {h₀ : Heap} {ks : List Int}
/-- wake the generator once -/
theorem next_gen {Q : Value → Shared → Prop} (hh : A.handled = none) (hl : s.heap.NoLimit) (hroom : A.depth < recursionLimit) (hg : GenAt w A.in1 a g h₀ L B ks i s) (hi : i < 16) (haL : a ≠ L) (haB : a < B) (hk : Keep h₀ s.heap) (hb : AllBare s.gens) (hB0 : i = 0 → B ≤ s.heap.objs.size)
    (item : ∀ k t h' g' tk, tells ks 0 i = some k → Keep h₀ h' → AllBare g' → (∀ (b : Nat) o, b ≠ L → b < B → s.heap.get? b = some o → h'.get? b = some o) → GenAt w A.in1 a g h₀ L B ks (i + 1) { s with heap := h', gens := g', toks := tk } →
      Q (.int k t) { s with heap := h', gens := g', toks := tk })
    (stop : tells ks 0 i = none → ∀ h' g' tk e, Keep h₀ h' → AllBare g' → (∀ (b : Nat) o, b ≠ L → b < B → s.heap.get? b = some o → h'.get? b = some o) → (∃ o, h'.get? e = some o ∧ o.cls = .type "StopIteration") → E (.ref e) { s with heap := h', gens := g', toks := tk }) :
    wpAny (model prg w) A (Builtin.SmallTypes.nextOf (.ref a)) Q E s := by
  obtain ⟨hgen, gs, hgs, hgo⟩ := hg
  have wakes := hgo hi (s.setGen g .running) hk (fun _ _ _ e => e) hB0
  refine draw_by hgen.typeIs slot_gen_next entry_gen_next (args_gen_next _) ?_
  suffices go : ∀ k : GenResult → Sem Fin, (∀ v, k (.yielded v) = ret v) →
      (∀ s' P, (∀ h' (e : Addr), Keep s'.heap h' → (∃ o, h'.get? e = some o ∧ o.cls = .type "StopIteration") → E (.ref e) { s' with heap := h' }) → wpAny (model prg w) A.in1 (k (.returned .none)) P E s') →
      wpAny (model prg w) A.in1 (resume g (.send .none) >>= k) (fun fin s' => ∃ v, fin = .done (.ret v) ∧ Q v s') E s by
    have up : gs.status = .fresh ∨ gs.status = .suspended := by cases gs <;> first | exact .inl rfl | exact .inr rfl | exact wakes.elim
    clear item stop hgo wakes
    obtain ⟨hp, gg, d, tk, os⟩ := s
    wp_walk using wpAny_genNumber hgen, wpAny_genState hgs
    rcases up with e | e <;> rw [e] <;> refine wpAny_bind (wpAny_roomToWake hl hroom (go _ (fun _ => rfl) fun s' P raised => ?_))
    all_goals
      obtain ⟨h₂, g₂, d₂, tk₂, os₂⟩ := s'
      wp_walk using wpAny_raiseNew_none (A := A.in1) hh
      exact raised _ _ ((keep_push _ _).trans (keep_push _ _)) ⟨_, Heap.get?_push_size _ rfl, rfl⟩
  intro k yields returns
  refine wpAny_resumeQ hgs wakes ?_ ?_
  · rintro _ s₁ ⟨rfl, over, hn, tn, rfl, kept, rest⟩
    rw [Nat.sub_sub_self (Nat.le_of_lt hi)] at over
    show wpAny _ _ (k (.returned .none)) _ _ _
    refine returns _ _ fun h' e more what => ?_
    exact stop over h' _ tn e (kept.trans more) (bare_set (bare_set hb rfl) rfl) (fun b o b1 b2 ob => more b o (rest b o b1 b2 ob)) what
  · rintro _ s₁ gs' quiet ⟨⟨v, t, told, rfl⟩, ⟨hn, tn, rfl, kept, rest⟩, again⟩
    rw [show 15 - (16 - i - 1) = i by omega] at told
    show wpAny _ _ (k (.yielded _)) _ _ _
    rw [yields]
    refine wpAny_pure ⟨_, rfl, item v t hn _ tn told kept (bare_set (bare_set hb rfl) quiet) rest ⟨?_, gs', setGen_self (setGen_self hgs), fun more s'' k'' f'' _ => ?_⟩⟩
    · exact hgen.imp fun o q => q.imp fun nm q => q.imp fun qn q => ⟨rest a o haL haB q.1, q.2⟩
    · have goes := again (Nat.sub_pos_of_lt (show 1 < 16 - i by omega)) s'' k'' f''
      obtain ⟨j, hj⟩ : ∃ j, 16 - i = j + 1 := ⟨15 - i, by omega⟩
      rw [hj] at goes
      rw [show 16 - (i + 1) = j by omega]
      exact goes
end
end Mine
end

section
open PySem PySem.W PySem.Builtin PyProof.Rows PySem.Calls
set_option maxRecDepth 100000
set_option maxHeartbeats 4000000
namespace Mine
section
variable {w : World} {A : Around} {E : Value → Shared → Prop} {s : Shared}
/-- what asks for one item more, by the slot of the iterator's type: a StopIteration is the end -/
theorem next_by {T id : String} {b : Builtin} {it : Addr} {Q : Option Value → Shared → Prop} (hT : s.TypeIs (.ref it) T) (sl : Slot T "__next__" id) (en : entryFor table id = some b)
    (ar : argsOk id ⟨[.ref it], []⟩) (body : wpAny (model prg w) A.in1 (b ⟨[.ref it], []⟩) (fun fin s' => ∃ v, fin = .done (.ret v) ∧ Q (some v) s')
      (fun x s' => Q none s' ∧ ∃ (e : Addr) (o : Obj), x = .ref e ∧ s'.heap.get? e = some o ∧ o.cls = .type "StopIteration") s) :
    wpAny (model prg w) A (pyNext (.ref it)) Q E s := by
  unfold pyNext
  refine wpAny_bind (wpAny_attempt (wpAny_callSpecial?_slot hT sl (wpAny_call_entry sl hT en (wpAny_mono body ?_ ?_) ar)))
  · rintro _ s' ⟨v, rfl, q⟩
    exact ⟨v, rfl, wpAny_pure q⟩
  · rintro _ s' ⟨q, e, o, rfl, at', cls⟩
    exact wpAny_bind (wpAny_isInstance (T := "StopIteration") (b := true) ⟨o, at', cls⟩ isSubtype_stop (wpAny_pure q))
end
theorem stop_off {h : Heap} {e z TI TO : Addr} {v : Value} (zip : IsZip h z TI TO v) (what : ∃ o, h.get? e = some o ∧ o.cls = .type "StopIteration") : e ≠ z := by
  rintro rfl
  obtain ⟨o, at', cls⟩ := what
  rw [Option.some.inj (at'.symm.trans zip)] at cls
  exact absurd (show Value.type "zip" = Value.type "StopIteration" from cls) (by decide)
/-- the zip after i of its pairs -/
structure ZS (w : World) (A : Around) (z TI TO i1 a g : Nat) (h₀ : Heap) (L B : Nat) (ks : List Int) (f0 : Value) (i : Nat) (s : Shared) : Prop where
  zip : IsZip s.heap z TI TO f0
  its : IsPair s.heap TI (.ref i1) (.ref a)
  out : ∃ x y, IsPair s.heap TO x y
  ran : IsRangeIter s.heap i1 (i : Int) ((16 : Int) - i) 1
  gen : GenAt w A.in1.in1 a g h₀ L B ks i s
  keep : Keep h₀ s.heap
  bare : AllBare s.gens
  big : i = 0 → B ≤ s.heap.objs.size
structure ZA (z TI TO i1 a L B : Nat) (h₀ : Heap) : Prop where
  zN : h₀.get? z = none
  oN : h₀.get? TO = none
  rN : h₀.get? i1 = none
  zB : z < B
  tB : TI < B
  oB : TO < B
  rB : i1 < B
  aB : a < B
  Lz : z ≠ L
  LT : TI ≠ L
  LO : TO ≠ L
  Lr : i1 ≠ L
  La : a ≠ L
  zt : TI ≠ z
  zo : TO ≠ z
  zr : i1 ≠ z
  za : a ≠ z
  to : TI ≠ TO
  tr : TI ≠ i1
  ro : TO ≠ i1
  ao : a ≠ TO
  ar : a ≠ i1
theorem ZA.off {z TI TO i1 a L B b : Nat} {h₀ : Heap} (D : ZA z TI TO i1 a L B h₀) (h : b = L ∨ B ≤ b ∨ b = a) : b ≠ z ∧ b ≠ TO ∧ b ≠ i1 := by
  have := D.Lz; have := D.LO; have := D.Lr; have := D.zB; have := D.oB; have := D.rB; have := D.za; have := D.ao; have := D.ar
  omega
theorem ZA.out {z TI TO i1 a L B : Nat} {h₀ : Heap} (D : ZA z TI TO i1 a L B h₀) {b : Nat} {o : Obj} (h : h₀.get? b = some o) : b ≠ z ∧ b ≠ TO ∧ b ≠ i1 := by
  refine ⟨?_, ?_, ?_⟩ <;> rintro rfl
  · rw [D.zN] at h; cases h
  · rw [D.oN] at h; cases h
  · rw [D.rN] at h; cases h
theorem GenAt.carry {w : World} {A : Around} {a g L B i : Nat} {h₀ : Heap} {ks : List Int} {s s' : Shared} (G : GenAt w A a g h₀ L B ks i s) (hg : s'.gens = s.gens)
    (up : ∀ (b : Nat) o, (b = L ∨ B ≤ b ∨ b = a) → s.heap.get? b = some o → s'.heap.get? b = some o) : GenAt w A a g h₀ L B ks i s' := by
  obtain ⟨isg, gs, own, goes⟩ := G
  refine ⟨?_, gs, hg ▸ own, fun lt s'' k'' f'' b'' => goes lt s'' k'' (fun b o off e => f'' b o off (up b o (off.imp_right .inl) e)) b''⟩
  exact isg.imp fun o q => q.imp fun nm q => q.imp fun qn q => ⟨up a o (.inr (.inr rfl)) q.1, q.2⟩
section
variable {w : World} {A : Around} {E : Value → Shared → Prop} {s : Shared} {z TI TO i1 a g L B i : Nat} {h₀ : Heap} {ks : List Int}
/-- one pair of the zip -/
theorem zip_core {Q : Value → Shared → Prop} (hh : A.handled = none) (G : Gr w h₀) (hroom : A.depth < recursionLimit) (D : ZA z TI TO i1 a L B h₀) (Z : ZS w A z TI TO i1 a g h₀ L B ks .none i s) (hi : i ≤ 16)
    (item : ∀ k t t' (T : Nat) h' g' tk, i < 16 → tells ks 0 i = some k → IsPair h' T (.int i t) (.int k t') → ZS w A z TI TO i1 a g h₀ L B ks (rawInt T) (i + 1) { s with heap := h', gens := g', toks := tk } →
      (∀ (b : Nat) o, b ≠ L → b ≠ z → b ≠ TO → b ≠ i1 → b < B → s.heap.get? b = some o → h'.get? b = some o) → Q (.ref T) { s with heap := h', gens := g', toks := tk })
    (stop : (i = 16 ∨ tells ks 0 i = none) → ∀ h' g' tk e, Keep h₀ h' → AllBare g' → (∀ (b : Nat) o, b ≠ L → b ≠ z → b ≠ TO → b ≠ i1 → b < B → s.heap.get? b = some o → h'.get? b = some o) → (∃ o, h'.get? e = some o ∧ o.cls = .type "StopIteration") → E (.ref e) { s with heap := h', gens := g', toks := tk }) :
    wpAny (model prg w) A.in1 (Builtin.«zip.__next__» ⟨[.ref z], []⟩) (fun fin s' => ∃ v, fin = .done (.ret v) ∧ Q v s') E s := by
  obtain ⟨x0, y0, out⟩ := Z.out
  refine zip_any (A := A.in1) (x0 := x0) (y0 := y0) Z.zip Z.its fun h₁ same₁ zip₁ => ?_
  have ran₁ : IsRangeIter h₁ i1 (i : Int) ((16 : Int) - i) 1 := same₁.extBut _ _ D.zr Z.ran
  by_cases lt : i < 16
  · refine range_draw ran₁ (by omega) fun h₂ ran₂ same₂ => ⟨same₂.extBut _ _ D.ro (same₁.extBut _ _ D.zo out), fun h₃ same₃ out₃ => ?_⟩
    have old : ∀ (b : Nat) o, b ≠ z ∧ b ≠ TO ∧ b ≠ i1 → s.heap.get? b = some o → h₃.get? b = some o := fun b o off e => same₃.extBut _ _ off.2.1 (same₂.extBut _ _ off.2.2 (same₁.extBut _ _ off.1 e))
    have zip₃ : IsZip h₃ z TI TO .ellipsis := same₃.extBut _ _ (Ne.symm D.zo) (same₂.extBut _ _ (Ne.symm D.zr) zip₁)
    have ran₃ := same₃.extBut _ _ (Ne.symm D.ro) ran₂
    have keep₃ : Keep h₀ h₃ := fun b o e => old b o (D.out e) (Z.keep b o e)
    have big₃ : i = 0 → B ≤ h₃.objs.size := fun e => by rw [same₃.1, same₂.1, same₁.1]; exact Z.big e
    refine next_gen hh (G.keeps keep₃).lim hroom (Z.gen.carry (s' := { s with heap := h₃, toks := s.toks + 1 }) rfl fun b o h e => old b o (D.off h) e) lt D.La D.aB keep₃ Z.bare big₃ ?_ ?_
    · intro k t' h₄ g₄ tk₄ told keep₄ bare₄ rest gen₄
      refine ⟨rest _ _ D.LO D.oB out₃, rest _ _ D.Lz D.zB zip₃, fun T h' new pairT out' zip' old' => ?_⟩
      refine item k s.toks t' T h' g₄ tk₄ lt told pairT ⟨zip', old' _ _ D.zt D.to (rest _ _ D.LT D.tB (old _ _ ⟨D.zt, D.to, D.tr⟩ Z.its)), ⟨_, _, out'⟩, ?_,
        gen₄.carry rfl fun b o h e => old' b o (D.off h).1 (D.off h).2.1 e, fun b o e => old' b o (D.out e).1 (D.out e).2.1 (keep₄ b o e), bare₄, fun e => absurd e (Nat.succ_ne_zero i)⟩ ?_
      · rw [Int.natCast_succ, ← Int.sub_sub]
        exact old' _ _ D.zr (Ne.symm D.ro) (rest _ _ D.Lr D.rB ran₃)
      · exact fun b o bL bz bO br bB e => old' b o bz bO (rest b o bL bB (old b o ⟨bz, bO, br⟩ e))
    · intro told h₄ g₄ tk₄ e keep₄ bare₄ rest what
      have zip₄ := rest _ _ D.Lz D.zB zip₃
      refine ⟨zip₄, fun h' same' => stop (.inr told) h' g₄ tk₄ e (fun b o q => same'.extBut _ _ (D.out q).1 (keep₄ b o q)) bare₄ ?_ ?_⟩
      · exact fun b o bL bz bO br bB q => same'.extBut _ _ bz (rest b o bL bB (old b o ⟨bz, bO, br⟩ q))
      · exact what.imp fun o q => ⟨same'.extBut _ _ (stop_off zip₄ what) q.1, q.2⟩
  · refine range_stop (A := A.in1) hh ran₁ (by omega) fun h₂ e more what => ⟨more _ _ zip₁, fun h' same' => ?_⟩
    have old : ∀ (b : Nat) o, b ≠ z → s.heap.get? b = some o → h'.get? b = some o := fun b o bz q => same'.extBut _ _ bz (more b o (same₁.extBut _ _ bz q))
    exact stop (.inl (Nat.le_antisymm hi (Nat.not_lt.mp lt))) h' _ _ e (fun b o q => old b o (D.out q).1 (Z.keep b o q)) Z.bare (fun b o _ bz _ _ _ q => old b o bz q)
      (what.imp fun o q => ⟨same'.extBut _ _ (stop_off (more _ _ zip₁) what) q.1, q.2⟩)
/-- one pair of the zip more, or its end -/
theorem zip_next {Q : Option Value → Shared → Prop} (hh : A.handled = none) (G : Gr w h₀) (hroom : A.depth < recursionLimit) (D : ZA z TI TO i1 a L B h₀) (Z : ZS w A z TI TO i1 a g h₀ L B ks .none i s) (hi : i ≤ 16)
    (item : ∀ k t t' (T : Nat) h' g' tk, i < 16 → tells ks 0 i = some k → IsPair h' T (.int i t) (.int k t') → ZS w A z TI TO i1 a g h₀ L B ks (rawInt T) (i + 1) { s with heap := h', gens := g', toks := tk } →
      (∀ (b : Nat) o, b ≠ L → b ≠ z → b ≠ TO → b ≠ i1 → b < B → s.heap.get? b = some o → h'.get? b = some o) → Q (some (.ref T)) { s with heap := h', gens := g', toks := tk })
    (stop : (i = 16 ∨ tells ks 0 i = none) → ∀ h' g' tk, Keep h₀ h' → AllBare g' → (∀ (b : Nat) o, b ≠ L → b ≠ z → b ≠ TO → b ≠ i1 → b < B → s.heap.get? b = some o → h'.get? b = some o) → Q none { s with heap := h', gens := g', toks := tk }) :
    wpAny (model prg w) A (pyNext (.ref z)) Q E s := by
  refine next_by ⟨_, Z.zip, rfl⟩ F.slot_zip_next F.entry_zip_next (F.args_zip_next_1 _) (zip_core (Q := fun v => Q (some v)) hh G hroom D Z hi item ?_)
  exact fun why h' g' tk e kept bare rest what => ⟨stop why h' g' tk kept bare rest, e, what.imp fun _ q => ⟨rfl, q⟩⟩
end
end Mine
end

section
open PySem PySem.W PySem.Builtin PyProof.Rows PySem.Calls
set_option maxRecDepth 100000
set_option maxHeartbeats 4000000
namespace Mine
abbrev zH1 (h : Heap) : Heap := h.push { cls := .type "range_iterator", data := .fields #[rawInt 0, rawInt (Builtin.Range.rangeSize 0 16 1), rawInt 1] }
abbrev zH3 (h : Heap) (a : Addr) : Heap := (zH1 h).push { cls := .type "tuple", data := .seq #[.ref h.objs.size, .ref a] }
abbrev zH4 (h : Heap) (a : Addr) : Heap := (zH3 h a).push { cls := .type "tuple", data := .seq #[.none, .none] }
abbrev zH5 (h : Heap) (a : Addr) : Heap := (zH4 h a).push { cls := .type "zip", data := .fields #[.none, .bool false, .bool false, .ref (zH1 h).objs.size, .ref (zH3 h a).objs.size] }
theorem meets_zip_gen (r a : Addr) (g : Nat) (t u v : Tok) :
    Meets (Builtin.«zip.__new__» ⟨[.type "zip", .ref r, .ref a], []⟩) (fun _ R s => IsRange s.heap r 0 16 1 t u v ∧ s.heap.IsGen a g ∧
      R (.ok (.ret (.ref (zH4 s.heap a).objs.size))) { s with heap := zH5 s.heap a }) :=
  .of_wp fun prog w A R s h => by
    obtain ⟨hp, gs, d, tk, os⟩ := s; obtain ⟨hl1, hl2, h⟩ := h
    have hsub := sub_zip
    have hL1 : IsRange (Shared.heap ⟨hp, gs, d, tk, os⟩) r 0 16 1 t u v := hl1
    have hL2 : Heap.IsGen (Shared.heap ⟨zH1 hp, gs, d, tk, os⟩) a g := Heap.IsGen.push hl2 _
    wp_walk using wpAny_pyIter_range hL1 (by decide), wpAny_pyIter_gen hL2
    exact ⟨_, rfl, h⟩
section
variable {w : World} {A : Around} {E : Value → Shared → Prop} {s : Shared}
theorem call_zip_gen {r a : Addr} {g : Nat} {t u v : Tok} {Q : Value → Shared → Prop} (hl1 : IsRange s.heap r 0 16 1 t u v) (hl2 : s.heap.IsGen a g)
    (h : ∀ h', IsZip h' (s.heap.objs.size + 3) (s.heap.objs.size + 1) (s.heap.objs.size + 2) .none → IsPair h' (s.heap.objs.size + 1) (.ref s.heap.objs.size) (.ref a) →
      IsPair h' (s.heap.objs.size + 2) .none .none → IsRangeIter h' s.heap.objs.size 0 16 1 → h'.objs.size = s.heap.objs.size + 4 →
      Keep s.heap h' → Q (.ref (s.heap.objs.size + 3)) { s with heap := h' }) :
    wpAny (model prg w) A (call (.type "zip") [.ref r, .ref a]) Q E s := by
  refine callType_new F.called_zip (by decide) (F.typeCall_zip_2 _ _) (F.newCall_zip_2 _ _) (fun obj => F.args_object_init_3 obj _ _) F.entry_zip_new
    (meets_zip_gen r a g t u v) ⟨hl1, hl2, ?_⟩
  have z1 : (zH1 s.heap).objs.size = s.heap.objs.size + 1 := Heap.size_push ..
  have z3 : (zH3 s.heap a).objs.size = s.heap.objs.size + 2 := by rw [Heap.size_push, z1]
  have z4 : (zH4 s.heap a).objs.size = s.heap.objs.size + 3 := by rw [Heap.size_push, z3]
  have z5 : (zH5 s.heap a).objs.size = s.heap.objs.size + 4 := by rw [Heap.size_push, z4]
  have g5 : (zH5 s.heap a).get? (zH4 s.heap a).objs.size = some _ := Heap.get?_push_size _ rfl
  have g4 : (zH5 s.heap a).get? (zH3 s.heap a).objs.size = some _ := Heap.get?_push_of_some _ (Heap.get?_push_size _ rfl)
  have g3 : (zH5 s.heap a).get? (zH1 s.heap).objs.size = some _ := Heap.get?_push_of_some _ (Heap.get?_push_of_some _ (Heap.get?_push_size _ rfl))
  have g1 : (zH5 s.heap a).get? s.heap.objs.size = some _ := Heap.get?_push_of_some _ (Heap.get?_push_of_some _ (Heap.get?_push_of_some _ (Heap.get?_push_size _ rfl)))
  show _ ∧ _
  rw [z1, z3, z4] at g5
  rw [z1] at g3
  rw [z3] at g4
  rw [z4]
  exact ⟨⟨_, g5, rfl⟩, h _ g5 g3 g4 g1 z5 fun c o x =>
    Heap.get?_push_of_some _ (Heap.get?_push_of_some _ (Heap.get?_push_of_some _ (Heap.get?_push_of_some _ x)))⟩
/-- the call that makes the generator -/
theorem gen_call {K : Nat} {R : Result → Shared → Prop} (G : Gr w s.heap) (hroom : A.depth < recursionLimit)
    (h : ∀ h' tk (L a : Nat), Keep s.heap h' → h'.Ns L (fun x => [(("grouping" : PySem.Str), Value.ref K)].reverse.lookup x) → h'.IsGen a s.gens.size → s.heap.get? L = none → s.heap.get? a = none → L < a → a < h'.objs.size →
      R (.ok (.ret (.ref a))) { s with heap := h', gens := s.gens.push (.fresh (.func (gBody w.params) (genv w.params L))), toks := tk }) :
    codeAny (model prg w) A (.call (.ref 38) ⟨[.ref K], []⟩) R s := by
  refine codeAny_call_generator (body := gBody w.params) hroom (G.X 38 _ rfl) rfl rfl rfl (by rfl) (codeRec_of G.X (by rfl)) ?_
  refine wpAny_of_eq (a := [(("grouping" : PySem.Str), Value.ref K)]) (by rfl) ?_
  refine wpAny_newFunctionEnv (by decide) (locs (by rfl)) (fun h₁ ns₁ hs₁ => ?_) rfl
  have hk₁ : Keep s.heap h₁ := fun b o e => hs₁.extBut b o (Nat.ne_of_lt (Heap.lt_size e)) (Heap.get?_push_of_some _ e)
  have hz : h₁.objs.size = s.heap.objs.size + 1 := by rw [hs₁.1, Heap.size_push]
  refine ⟨(G.keeps hk₁).lim, ?_⟩
  refine h _ _ s.heap.objs.size h₁.objs.size (fun b o e => Heap.get?_push_of_some _ (hk₁ b o e)) (ns₁.push _) ⟨_, _, _, Heap.get?_push_size _ rfl, rfl, rfl, rfl⟩ (Heap.get?_none_of_le (Nat.le_refl _)) (Heap.get?_none_of_le (by rw [hz]; exact Nat.le_succ _)) (by rw [hz]; exact Nat.lt_succ_self _) (by rw [Heap.size_push]; exact Nat.lt_succ_self _)
end
end Mine
end

section
open PySem PySem.W PySem.Builtin PyProof.Rows PySem.Calls
set_option maxRecDepth 100000
set_option maxHeartbeats 4000000
namespace Mine
/-- the rows cut after i turns, and the place behind them -/
def cutS (ks : List Int) : Nat → List (Nat × Nat) × Nat
  | 0 => ([], 0)
  | i + 1 => match tells ks 0 i with
    | some k => if (cutS ks i).2 < 16 then ((cutS ks i).1 ++ [((cutS ks i).2, k.toNat)], (cutS ks i).2 + k.toNat) else cutS ks i
    | none => cutS ks i
theorem cut_len (ks : List Int) : ∀ i, (cutS ks i).1.length ≤ i
  | 0 => Nat.le_refl _
  | i + 1 => by
    have ih := cut_len ks i
    unfold cutS
    cases tells ks 0 i with
    | none => dsimp only; omega
    | some k =>
      dsimp only
      split
      · rw [List.length_append]; simp; omega
      · omega
def rowS (x : PySem.Str) (r : Nat × Nat) : PySem.Str := Txt.slice x (some (r.1 : Int)) (some ((r.1 + r.2 : Nat) : Int))
noncomputable def pTarget (P : Params) : PySem.Expr := match (fdAt P 67).body with
  | .stmts [_, _, .For t _ _ _ _, _] => t
  | _ => .Name "" ⟨0, 0, 0, 0⟩
noncomputable def pTurn (P : Params) : List Stmt := match (fdAt P 67).body with
  | .stmts [_, _, .For _ _ b _ _, _] => b
  | _ => []
structure PA (Lp D z TO i1 L B : Nat) (h₀ : Heap) : Prop where
  pN : h₀.get? Lp = none
  dN : h₀.get? D = none
  pB : Lp < B
  dB : D < B
  pL : Lp ≠ L
  pz : Lp ≠ z
  po : Lp ≠ TO
  pr : Lp ≠ i1
  dL : D ≠ L
  dz : D ≠ z
  do_ : D ≠ TO
  dr : D ≠ i1
  pd : Lp ≠ D
theorem GenAt.move {w : World} {A : Around} {a g : Nat} {h₀ : Heap} {L B : Nat} {ks : List Int} {i : Nat} {s : Shared} {h' : Heap} {tk : Nat} (x : GenAt w A a g h₀ L B ks i s) (ha : ∀ o, s.heap.get? a = some o → h'.get? a = some o)
    (hk : ∀ (b : Nat) o, (b = L ∨ B ≤ b) → s.heap.get? b = some o → h'.get? b = some o) : GenAt w A a g h₀ L B ks i { s with heap := h', toks := tk } := by
  obtain ⟨⟨o, nm, qn, ho, r⟩, gs, hgs, hgo⟩ := x
  exact ⟨⟨o, nm, qn, ha o ho, r⟩, gs, hgs, fun hi s'' k'' f'' B'' => hgo hi s'' k'' (fun b o hb e => f'' b o hb (hk b o hb e)) B''⟩
section
variable {w : World} {A : Around} {z TI TO i1 a g L B Lp D i : Nat} {h₀ : Heap} {ks : List Int} {f0 : Value} {s : Shared}
/-- the page's own writes leave the zip alone -/
theorem ZS.move (Z : ZS w A z TI TO i1 a g h₀ L B ks f0 i s) (V : PA Lp D z TO i1 L B h₀) (hta : TI ≠ Lp ∧ TI ≠ D ∧ a ≠ Lp ∧ a ≠ D) (hi0 : i ≠ 0) {h' : Heap} {tk : Nat} (hk : ∀ (b : Nat) o, b ≠ Lp → b ≠ D → s.heap.get? b = some o → h'.get? b = some o) :
    ZS w A z TI TO i1 a g h₀ L B ks f0 i { s with heap := h', toks := tk } := by
  obtain ⟨hz, hTI, ⟨x0, y0, hTO⟩, h1, hgen, hkeep, hbare, _⟩ := Z
  obtain ⟨t1, t2, a1, a2⟩ := hta
  refine ⟨hk _ _ (Ne.symm V.pz) (Ne.symm V.dz) hz, hk _ _ t1 t2 hTI, ⟨x0, y0, hk _ _ (Ne.symm V.po) (Ne.symm V.do_) hTO⟩, hk _ _ (Ne.symm V.pr) (Ne.symm V.dr) h1, hgen.move (fun o e => hk _ _ a1 a2 e) (fun b o hb e => hk b o ?_ ?_ e), ?_, hbare, fun e => absurd e hi0⟩
  · have := V.pB; have := V.pL; omega
  · have := V.dB; have := V.dL; omega
  · intro b o e
    refine hk b o (fun x => ?_) (fun x => ?_) (hkeep b o e)
    · rw [x, V.pN] at e; cases e
    · rw [x, V.dN] at e; cases e
end
/-- the state of the page's loop -/
structure PS (w : World) (A : Around) (x : PySem.Str) (t : Tok) (z TI TO i1 a g : Nat) (h₀ : Heap) (L B Lp D : Nat) (ks : List Int) (i : Nat) (s : Shared) : Prop where
  zs : ZS w A z TI TO i1 a g h₀ L B ks .none i s
  ns : ∃ m, s.heap.Ns Lp m ∧ m "word" = some (.str x t) ∧ m "rows" = some (.ref D) ∧ ∃ tp, m "place" = some (.int (((cutS ks i).2 : Nat) : Int) tp)
  rows : ∃ l n, s.heap.get? D = some { cls := .type "list", data := .seq (strValues l).toArray n } ∧ l.map (·.1) = (cutS ks i).1.map (rowS x)
section
variable {w : World} {A : Around} {E : Value → Shared → Prop} {s : Shared} {env : Env}
/-- a slice of a text -/
theorem slice_ev {value lo up : PySem.Expr} {p pos : Pos} {Q : Value → Shared → Prop} {x : PySem.Str} {t : Tok}
    (h : wpAny (model prg w) A (eval value env) (fun o s₁ => o = .str x t ∧ wpAny (model prg w) A (eval lo env) (fun vl s₂ => wpAny (model prg w) A (eval up env) (fun vu s₃ =>
      ∃ i ti j tj, vl = .int i ti ∧ vu = .int j tj ∧ x.length ≤ sizeLine ∧ ∀ h' t' tk, Keep s₃.heap h' → Q (.str (Txt.slice x (some i) (some j)) t') { s₃ with heap := h', toks := tk }) E s₂) E s₁) E s)
    (ht : ∀ o r, letTemporaryGo value o r = pure () := by intro _ _; rfl) :
    wpAny (model prg w) A (eval (.Subscript value (.Slice (some lo) (some up) none p) pos) env) Q E s := by
  refine wpAny_Subscript_str_slice ?_ ht
  refine wpAny_mono h (fun o s₁ h₁ => ?_) fun _ _ e => e
  obtain ⟨rfl, h₁⟩ := h₁
  rw [evalPart_some, evalPart_some]
  refine wpAny_mono h₁ (fun vl s₂ h₂ => wpAny_mono h₂ (fun vu s₃ h₃ => ?_) fun _ _ e => e) fun _ _ e => e
  obtain ⟨i, ti, j, tj, rfl, rfl, hx, hq⟩ := h₃
  refine ⟨x, t, some (i, ti), some (j, tj), rfl, rfl, rfl, ?_⟩
  exact post_val_or_str ⟨Nat.le_trans (Txt.slice_le x (some i) (some j)) hx, fun t' k => hq _ t' k (fun _ _ e => Heap.get?_push_of_some _ e)⟩
theorem slice_from {value lo : PySem.Expr} {p pos : Pos} {Q : Value → Shared → Prop} {x : PySem.Str} {t : Tok}
    (h : wpAny (model prg w) A (eval value env) (fun o s₁ => o = .str x t ∧ wpAny (model prg w) A (eval lo env) (fun vl s₂ =>
      ∃ i ti, vl = .int i ti ∧ x.length ≤ sizeLine ∧ ∀ h' t' tk, Keep s₂.heap h' → Q (.str (Txt.slice x (some i) none) t') { s₂ with heap := h', toks := tk }) E s₁) E s)
    (ht : ∀ o r, letTemporaryGo value o r = pure () := by intro _ _; rfl) :
    wpAny (model prg w) A (eval (.Subscript value (.Slice (some lo) none none p) pos) env) Q E s := by
  refine wpAny_Subscript_str_slice ?_ ht
  refine wpAny_mono h (fun o s₁ h₁ => ?_) fun _ _ e => e
  obtain ⟨rfl, h₁⟩ := h₁
  rw [evalPart_some, evalPart_none]
  refine wpAny_mono h₁ (fun vl s₂ h₂ => wpAny_pure ?_) fun _ _ e => e
  obtain ⟨i, ti, rfl, hx, hq⟩ := h₂
  refine ⟨x, t, some (i, ti), none, rfl, rfl, rfl, ?_⟩
  exact post_val_or_str ⟨Nat.le_trans (Txt.slice_le x (some i) none) hx, fun t' k => hq _ t' k (fun _ _ e => Heap.get?_push_of_some _ e)⟩
theorem slice_to {value up : PySem.Expr} {p pos : Pos} {Q : Value → Shared → Prop} {x : PySem.Str} {t : Tok}
    (h : wpAny (model prg w) A (eval value env) (fun o s₁ => o = .str x t ∧ wpAny (model prg w) A (eval up env) (fun vu s₂ =>
      ∃ j tj, vu = .int j tj ∧ x.length ≤ sizeLine ∧ ∀ h' t' tk, Keep s₂.heap h' → Q (.str (Txt.slice x none (some j)) t') { s₂ with heap := h', toks := tk }) E s₁) E s)
    (ht : ∀ o r, letTemporaryGo value o r = pure () := by intro _ _; rfl) :
    wpAny (model prg w) A (eval (.Subscript value (.Slice none (some up) none p) pos) env) Q E s := by
  refine wpAny_Subscript_str_slice ?_ ht
  refine wpAny_mono h (fun o s₁ h₁ => ?_) fun _ _ e => e
  obtain ⟨rfl, h₁⟩ := h₁
  rw [evalPart_some, evalPart_none]
  refine wpAny_pure ?_
  refine wpAny_mono h₁ (fun vl s₂ h₂ => ?_) fun _ _ e => e
  obtain ⟨j, tj, rfl, hx, hq⟩ := h₂
  refine ⟨x, t, none, some (j, tj), rfl, rfl, rfl, ?_⟩
  exact post_val_or_str ⟨Nat.le_trans (Txt.slice_le x none (some j)) hx, fun t' k => hq _ t' k (fun _ _ e => Heap.get?_push_of_some _ e)⟩
end
end Mine
end

section
open PySem PySem.W PySem.Builtin PyProof.Rows PySem.Calls
set_option maxRecDepth 100000
set_option maxHeartbeats 4000000
namespace Mine
section
variable {w : World} {A : Around} {z TI TO i1 a g L B Lp D : Nat} {h₀ : Heap} {ks : List Int} {s : Shared} {x : PySem.Str} {t : Tok}
theorem page_loop {R : Result → Shared → Prop} (G : Gr w h₀) (hh : A.handled = none) (hroom : A.depth < recursionLimit) (U : ZA z TI TO i1 a L B h₀) (V : PA Lp D z TO i1 L B h₀) (hta : TI ≠ Lp ∧ TI ≠ D ∧ a ≠ Lp ∧ a ≠ D) (hx : x.length ≤ 1000)
    (hpos : ∀ i, i < 16 → 0 ≤ (tells ks 0 i).getD 0)
    (h0 : PS w A x t z TI TO i1 a g h₀ L B Lp D ks 0 s)
    (done : ∀ i h g' tk, i ≤ 16 → (i = 16 ∨ tells ks 0 i = none) → Keep h₀ h → AllBare g' → (∃ m, h.Ns Lp m ∧ m "word" = some (.str x t) ∧ m "rows" = some (.ref D) ∧ ∃ tp, m "place" = some (.int (((cutS ks i).2 : Nat) : Int) tp)) →
      (∃ l n, h.get? D = some { cls := .type "list", data := .seq (strValues l).toArray n } ∧ l.map (·.1) = (cutS ks i).1.map (rowS x)) → R (.ok .next) { s with heap := h, gens := g', toks := tk }) :
    codeAny (model prg w) A (.forLoop (pTarget w.params) (.ref z) (pTurn w.params) [] (envAt w.params 67 Lp)) R s := by
  refine codeAny_forLoop_any (fun k s' => ∃ i h g' tk, i ≤ 16 ∧ k = 17 - i ∧ s' = { s with heap := h, gens := g', toks := tk } ∧ PS w A x t z TI TO i1 a g h₀ L B Lp D ks i s') ?_ 17 ⟨0, s.heap, s.gens, s.toks, Nat.zero_le _, rfl, rfl, h0⟩
  rintro k s' ⟨i, h, g', tk, hi, rfl, rfl, Z, ⟨m, ns, mw, mr, tp, mp⟩, l, n, hD, hl⟩
  refine zip_next hh G hroom U Z hi ?_ ?_
  · intro k t1 t2 T h₁ g₁ tk₁ hlt hp hT Z₁ up₁
    dsimp only at Z₁ up₁ ns hD ⊢
    have hzT : T ≠ z := fun e => by
      subst e
      have q := congrArg (fun o : Option Obj => o.map (·.cls)) (Z₁.zip.symm.trans hT)
      simp at q
    refine wpAny_letOwnedTupleGo_zip Z₁.zip fun h₂ hz₂ hs₂ => ?_
    have ns₂ : h₂.Ns Lp m := (ns.at' fun o e => up₁ Lp o V.pL V.pz V.po V.pr V.pB e).sameBut hs₂ V.pz
    have hD₂ : h₂.get? D = _ := hs₂.extBut _ _ V.dz (up₁ D _ V.dL V.dz V.do_ V.dr V.dB hD)
    have hT₂ : IsPair h₂ T (.int i t1) (.int k t2) := hs₂.extBut _ _ hzT hT
    have Z₂ : ZS w A z TI TO i1 a g h₀ L B ks .none (i + 1) { s with heap := h₂, gens := g₁, toks := tk₁ } := by
      obtain ⟨hz, hTI, ⟨x0, y0, hTO⟩, h1, hgen, hkeep, hbare, _⟩ := Z₁
      refine ⟨hz₂, hs₂.extBut _ _ U.zt hTI, ⟨x0, y0, hs₂.extBut _ _ U.zo hTO⟩, hs₂.extBut _ _ U.zr h1, ?_, ?_, hbare, fun e => absurd e (Nat.succ_ne_zero i)⟩
      · refine GenAt.move (tk := tk₁) hgen (fun o e => hs₂.extBut _ _ U.za e) (fun b o hb e => hs₂.extBut _ _ ?_ e)
        have := U.zB; have := U.Lz; show b ≠ z; omega
      · exact fun b o e => hs₂.extBut _ _ (fun q => by rw [q, U.zN] at e; cases e) (hkeep b o e)
    clear Z₁ up₁ hs₂ hz₂ hT ns hD Z
    refine wpAny_assign_Tuple (items := #[.int i t1, .int k t2]) hh ⟨_, hT₂, rfl, _, rfl⟩ (by rfl) (by rfl) fun h₃ he₃ => ?_
    have kp₃ : Keep h₂ h₃ := fun b o e => he₃ b o (Nat.ne_of_lt (Heap.lt_size e)) e
    refine wpAny_assignInOrder_more ?_
    refine wpAny_assign_Name ?_
    refine wpAny_storeName_local (by rfl) (ns₂.keeps kp₃) fun h₄ ns₄ hs₄ => ?_
    refine wpAny_assignInOrder_more ?_
    refine wpAny_assign_Name ?_
    refine wpAny_storeName_local (by rfl) ns₄ fun h₅ ns₅ hs₅ => ?_
    refine wpAny_assignInOrder_none ?_
    have up₅ : ∀ (b : Nat) o, b ≠ Lp → h₂.get? b = some o → h₅.get? b = some o := fun b o hb e => hs₅.extBut _ _ hb (hs₄.extBut _ _ hb (kp₃ b o e))
    have Z₅ := Z₂.move (h' := h₅) (tk := tk₁ + 1 + 1) V hta (Nat.succ_ne_zero i) fun b o hb _ e => up₅ b o hb e
    have hD₅ : h₅.get? D = _ := up₅ _ _ (Ne.symm V.pd) hD₂
    clear Z₂ hD₂ up₅ hs₅ hs₄ ns₄ kp₃ he₃ hT₂ ns₂
    dsimp only at Z₅ ⊢
    refine wpAny_execs_cons ?_
    refine wpAny_If ?_
    refine wpAny_isTrue_Compare1 ?_
    refine ldL ns₅ (v := .int (((cutS ks i).2 : Nat) : Int) tp) mp ?_
    refine cInt fun t3 tk3 => ?_
    refine PySem.P.lt_int ?_
    refine wpAny_truthy_bool ?_
    have hk0 : 0 ≤ k := by have := hpos i hlt; rw [hp] at this; exact this
    by_cases hpl : (cutS ks i).2 < 16
    · rw [show (decide ((((cutS ks i).2 : Nat) : Int) < 16)) = true from by rw [decide_eq_true_eq]; omega, if_pos rfl]
      refine wpAny_execs_cons ?_
      refine wpAny_Expr_any ?_
      refine MethodCall_ ?_
      refine ldL ns₅ (v := .ref D) mr ?_
      refine PySem.Calls.getMethod_list_append hD₅ rfl rfl ?_
      refine callWith_method1 ?_
      refine args_cons ?_
      refine slice_ev (x := x) (t := t) ?_
      refine ldL ns₅ mw ⟨rfl, ?_⟩
      refine ldL ns₅ (v := .int (((cutS ks i).2 : Nat) : Int) tp) mp ?_
      refine wpAny_BinOp ?_
      refine ldL ns₅ (v := .int (((cutS ks i).2 : Nat) : Int) tp) mp ?_
      refine ldL ns₅ (v := .int k t2) (by rfl) ?_
      refine PySem.P.add_int ?_
      refine ⟨_, _, _, _, rfl, rfl, by rw [show sizeLine = 2 ^ 24 from rfl]; omega, fun h₆ t6 tk₆ kp₆ => ?_⟩
      dsimp only at kp₆ ⊢
      refine args_nil ?_
      have hsz : (strValues l).toArray.size ≤ sizeLine := by
        have h1 := cut_len ks i
        have h2 := congrArg List.length hl
        rw [List.length_map, List.length_map] at h2
        rw [List.size_toArray, show (strValues l).length = l.length from by simp [strValues], show sizeLine = 2 ^ 24 from rfl]
        omega
      refine append_at (hsz := hsz) (kp₆ _ _ hD₅) fun h₇ hs₇ hD₇ => ?_
      dsimp only at hs₇ ⊢
      have ns₇ := (ns₅.keeps kp₆).sameBut hs₇ V.pd
      refine wpAny_execs_cons ?_
      refine wpAny_AugAssign_Name ?_
      refine wpAny_loadName_local (v := .int (((cutS ks i).2 : Nat) : Int) tp) (by rfl) (by rfl) ns₇ mp ?_
      refine ldL ns₇ (v := .int k t2) (by rfl) ?_
      refine PyProof.Rows.iadd_int ?_
      refine wpAny_storeName_local (by rfl) ns₇ fun h₈ ns₈ hs₈ => ?_
      refine wpAny_execs_nil ?_
      refine wpAny_execs_nil ?_
      dsimp only
      have up₈ : ∀ (b : Nat) o, b ≠ Lp → b ≠ D → h₅.get? b = some o → h₈.get? b = some o := fun b o hb hd e => hs₈.extBut _ _ hb (hs₇.extBut _ _ hd (kp₆ b o e))
      have e1 : cutS ks (i + 1) = ((cutS ks i).1 ++ [((cutS ks i).2, k.toNat)], (cutS ks i).2 + k.toNat) := by
        show (match tells ks 0 i with | some k => _ | none => _) = _
        rw [hp]
        dsimp only
        rw [if_pos hpl]
      have e2 : (((cutS ks i).2 + k.toNat : Nat) : Int) = (((cutS ks i).2 : Nat) : Int) + k := by omega
      refine ⟨17 - (i + 1), by omega, i + 1, h₈, g₁, _, hlt, rfl, rfl, Z₅.move V hta (Nat.succ_ne_zero i) up₈, ?_, ?_⟩
      · refine ⟨_, ns₈, mw, mr, ?_⟩
        rw [e1]
        dsimp only
        rw [e2]
        exact ⟨_, rfl⟩
      · refine ⟨l ++ [(rowS x ((cutS ks i).2, k.toNat), t6)], n + 1, ?_, ?_⟩
        · have := hs₈.extBut _ _ (Ne.symm V.pd) hD₇
          rw [← strs_snoc]
          rw [show rowS x ((cutS ks i).2, k.toNat) = Txt.slice x (some (((cutS ks i).2 : Nat) : Int)) (some ((((cutS ks i).2 : Nat) : Int) + k)) from by unfold rowS; dsimp only; rw [e2]]
          exact this
        · rw [e1]
          simp [hl]
    · rw [show (decide ((((cutS ks i).2 : Nat) : Int) < 16)) = false from by simp; omega, if_neg Bool.false_ne_true]
      refine wpAny_execs_nil ?_
      refine wpAny_execs_nil ?_
      have e1 : cutS ks (i + 1) = cutS ks i := by
        show (match tells ks 0 i with | some k => _ | none => _) = _
        rw [hp]
        dsimp only
        rw [if_neg hpl]
      refine ⟨17 - (i + 1), by omega, i + 1, h₅, g₁, _, hlt, rfl, rfl, Z₅.move V hta (Nat.succ_ne_zero i) (fun _ _ _ _ e => e), ?_, ?_⟩
      · rw [e1]
        exact ⟨_, ns₅, mw, mr, tp, mp⟩
      · rw [e1]
        exact ⟨l, n, hD₅, hl⟩
  · intro hstop h₁ g₁ tk₁ keep₁ bare₁ up₁
    dsimp only at up₁ ns hD ⊢
    refine wpAny_execs_nil ?_
    exact done i h₁ g₁ tk₁ hi hstop keep₁ bare₁ ⟨m, ns.at' fun o e => up₁ Lp o V.pL V.pz V.po V.pr V.pB e, mw, mr, tp, mp⟩ ⟨l, n, up₁ D _ V.dL V.dz V.do_ V.dr V.dB hD, hl⟩
end
end Mine
end

section
open PySem PySem.W PySem.Builtin PyProof.Rows PySem.Calls
set_option maxRecDepth 100000
set_option maxHeartbeats 4000000
namespace Mine
theorem signs_aux : ∀ (vs : List Value) (cs : List Nat), vs.length = cs.length → (∀ (j : Nat) v, vs[j]? = some v → ∃ c u, cs[j]? = some c ∧ v = .str ⟨#[c]⟩ u) → ∃ l, vs = strValues l ∧ l.map (·.1) = cs.map fun c => (⟨#[c]⟩ : PySem.Str)
  | [], [], _, _ => ⟨[], rfl, rfl⟩
  | [], _ :: _, h, _ => by simp at h
  | _ :: _, [], h, _ => by simp at h
  | v :: vs, c :: cs, h, hv => by
    obtain ⟨c', u, e1, rfl⟩ := hv 0 v rfl
    simp at e1
    subst e1
    obtain ⟨l, rfl, e2⟩ := signs_aux vs cs (by simpa using h) (fun j v e => by
      have := hv (j + 1) v (by simpa using e)
      simpa using this)
    exact ⟨(⟨#[c]⟩, u) :: l, by simp [strValues], by simp [e2]⟩
theorem signs_values {y : PySem.Str} {acc : Array Value} (h : ItemsOf (SignAt y) acc y.cps.size) : ∃ l, acc = (strValues l).toArray ∧ l.map (·.1) = signs y := by
  obtain ⟨hs, hv⟩ := h
  obtain ⟨l, e1, e2⟩ := signs_aux acc.toList y.cps.toList (by simpa using hs) (fun j v e => by
    obtain ⟨c, u, h1, h2⟩ := hv j v (by simpa using e)
    exact ⟨c, u, by simpa using h1, h2⟩)
  exact ⟨l, by rw [← e1], e2⟩
theorem neN {h : Heap} {c : Nat} (n : h.get? c = none) {b : Nat} {o : Obj} (e : h.get? b = some o) : b ≠ c := fun q => by rw [q, n] at e; cases e
/-- a call of a def of the text -/
theorem fn_call {w : World} {A : Around} {E : Value → Shared → Prop} {s : Shared} {env : Env} {pos : Pos} {f : Nat} {e : PySem.Expr} {rest : List PySem.Expr} {Q : Value → Shared → Prop} (hf : ∃ o fd, (hd.heap_39 w.params).lookup f = some o ∧ o.data = .func fd)
    (h : wpAny (model prg w) A (spliced (backTo pos (starEach (e :: rest) env))) (fun vs s₁ => Gr w s₁.heap ∧ wpAny (model prg w) A (call (.ref f) vs) Q E s₁) E s)
    (he : starEach (e :: rest) env = (false, eval e env) :: starEach rest env := by rfl) :
    wpAny (model prg w) A (callWith pos (.ref f) [] (backTo pos (starEach (e :: rest) env)) []) Q E s := by
  obtain ⟨o, fd, ho, hd⟩ := hf
  exact callWith_def hd (wpAny_mono h (fun vs s₁ h₁ => ⟨h₁.1.X f o ho, h₁.2⟩) fun _ _ e => e) he
/-- the text of a page -/
def pageOf (x : PySem.Str) (ks : List Int) (i : Nat) : PySem.Str := Txt.join "\n" ((cutS ks i).1.map (rowS x) ++ signs (Txt.slice x (some (((cutS ks i).2 : Nat) : Int)) none))
section
variable {w : World} {A : Around} {s : Shared}
theorem page_call {R : Result → Shared → Prop} {x : PySem.Str} {t : Tok} {K : Nat} {ks : List Int} (G : Gr w s.heap) (ro : Room A 2 10) (hx : x.length = 16) (hK : IsKs s.heap K ks) (hb : AllBare s.gens)
    (hpos : ∀ i, i < 16 → 0 ≤ (tells ks 0 i).getD 0) (h00 : ks.getD 0 1 ≠ 0)
    (hok : ∀ i, i ≤ 16 → (i = 16 ∨ tells ks 0 i = none) → JoinOk "\n" ((cutS ks i).1.map (rowS x) ++ signs (Txt.slice x (some (((cutS ks i).2 : Nat) : Int)) none)) = true)
    (post : ∀ i h' g' tk tok, i ≤ 16 → (i = 16 ∨ tells ks 0 i = none) → Keep s.heap h' → AllBare g' → R (.ok (.ret (.str (pageOf x ks i) tok))) { s with heap := h', gens := g', toks := tk }) :
    codeAny (model prg w) A (.call (.ref 67) ⟨[.str x t, .ref K], []⟩) R s := by
  refine enter (binds := [("word", .str x t), ("sizes", .ref K)]) G (by have := ro.depth; omega) rfl rfl (by rfl) rfl (by rfl) rfl (by rfl) ?_
  intro h₁ tk₁ hk₁ ns₁ cells E'
  clear cells
  have hpN : s.heap.get? s.heap.objs.size = none := Heap.get?_none_of_le (Nat.le_refl _)
  generalize hLp : s.heap.objs.size = Lp at *
  have calm : (A.deeper (envAt w.params 67 Lp)).handled = none := ro.calm
  have room : (A.deeper (envAt w.params 67 Lp)).depth < recursionLimit := by
    have := ro.depth
    show A.depth + 1 < recursionLimit
    omega
  refine wpAny_execs_cons ?_
  refine wpAny_Assign_Name ?_
  refine List_ ?_
  refine args_nil ?_
  refine new_list (by decide) fun h₂ D hk₂ hD2 hD => ?_
  refine wpAny_storeName_local (by rfl) (ns₁.keeps hk₂) fun h₃ ns₃ hs₃ => ?_
  have hDp : D ≠ Lp := fun e => by
    obtain ⟨o, _, _, q, _⟩ := ns₁
    rw [← e] at q
    exact absurd (q.symm.trans hD2) (by simp)
  have hD₃ := hs₃.extBut _ _ hDp hD
  have hk₃ : Keep s.heap h₃ := fun b o e => hs₃.extBut _ _ (neN hpN e) (hk₂ b o (hk₁ b o e))
  dsimp only
  refine wpAny_execs_cons ?_
  refine wpAny_Assign_Name ?_
  refine cInt fun t4 tk4 => ?_
  refine wpAny_storeName_local (by rfl) ns₃ fun h₄ ns₄ hs₄ => ?_
  have hD₄ := hs₄.extBut _ _ hDp hD₃
  have hk₄ : Keep s.heap h₄ := fun b o e => hs₄.extBut _ _ (neN hpN e) (hk₃ b o e)
  have hDN : s.heap.get? D = none := by
    cases e : s.heap.get? D with
    | none => rfl
    | some o => exact absurd ((hk₁ _ _ e).symm.trans hD2) (by simp)
  clear hk₃ hD₃ ns₃ hs₃ hs₄ hk₂ hD hD2 ns₁ hk₁
  dsimp only
  have G₄ := G.keeps hk₄
  refine wpAny_execs_cons ?_
  refine wpAny_For ?_
  refine Call_ ?_
  refine ldB (v := .type "zip") G₄ (by rfl) (by decide +kernel) ?_
  refine PyProof.Rows.callWith_type1 ?_
  refine args_cons ?_
  refine ev_range1 G₄ fun h₅ tk₅ r t5 u5 v5 hk₅ hr => ?_
  refine args_cons ?_
  refine Call_ ?_
  have G₅ := G₄.keeps hk₅
  refine ldG (v := .ref 38) G₅ (by rfl) ?_
  refine fn_call ⟨_, _, rfl, rfl⟩ ?_
  refine args_cons ?_
  refine ldL (ns₄.keeps hk₅) (v := .ref K) (by rfl) ?_
  refine args_nil ?_
  refine ⟨G₅, ?_⟩
  refine wpAny_call ?_
  refine gen_call G₅ room fun h₆ tk₆ L a hk₆ nsL hgen hL ha hLa haS => ?_
  dsimp only
  refine args_nil ?_
  refine call_zip_gen (hk₆ _ _ hr) hgen fun h₇ hz hTI hTO hi1 hsz₇ hk₇ => ?_
  dsimp only at hz hTI hTO hi1 hsz₇ hk₇ hL ha hk₆ ⊢
  refine wpAny_pyIter_zip hz ?_
  have nsP : h₆.Ns Lp _ := (ns₄.keeps hk₅).keeps hk₆
  have hDS : h₆.get? D = _ := hk₆ _ _ (hk₅ _ _ hD₄)
  have lp : @LT.lt Nat _ Lp h₆.objs.size := nsP.lt
  have ld : @LT.lt Nat _ D h₆.objs.size := Heap.lt_size hDS
  have la : @LT.lt Nat _ a h₆.objs.size := haS
  have n1 : L ≠ Lp := by
    obtain ⟨o, _, _, q, _⟩ := ns₄.keeps hk₅
    exact Ne.symm (neN hL q)
  have n2 : L ≠ D := Ne.symm (neN hL (hk₅ _ _ hD₄))
  have n3 : a ≠ Lp := by
    obtain ⟨o, _, _, q, _⟩ := ns₄.keeps hk₅
    exact Ne.symm (neN ha q)
  have n4 : a ≠ D := Ne.symm (neN ha (hk₅ _ _ hD₄))
  have keep₇ : Keep s.heap h₇ := fun b o e => hk₇ _ _ (hk₆ _ _ (hk₅ _ _ (hk₄ b o e)))
  have hLN : s.heap.get? L = none := by
    cases e : s.heap.get? L with
    | none => rfl
    | some o => exact absurd ((hk₅ _ _ (hk₄ _ _ e)).symm.trans hL) (by simp)
  generalize hN : h₆.objs.size = N at *
  have above : ∀ k, s.heap.get? (N + k) = none := fun k => Heap.get?_none_of_le (show s.heap.objs.size ≤ N + k by omega)
  have U : ZA (N + 3) (N + 1) (N + 2) N a L (N + 4) s.heap := ⟨above 3, above 2, above 0, by omega, by omega, by omega, by omega, by omega, by omega, by omega, by omega, by omega, by omega, by omega, by omega, by omega, by omega, by omega, by omega, by omega, by omega, by omega⟩
  have V : PA Lp D (N + 3) (N + 2) N L (N + 4) s.heap := ⟨hpN, hDN, by omega, by omega, Ne.symm n1, by omega, by omega, by omega, Ne.symm n2, by omega, by omega, by omega, Ne.symm hDp⟩
  have nsL₇ : h₇.Ns L _ := nsL.keeps hk₇
  have gat : GenAt w (A.deeper (envAt w.params 67 Lp)).in1.in1 a s.gens.size s.heap L (N + 4) ks 0 { s with heap := h₇, gens := s.gens.push (.fresh (.func (gBody w.params) (genv w.params L))), toks := tk₆ } := by
    refine ⟨hgen.keeps hk₇, .fresh (.func (gBody w.params) (genv w.params L)), by simp, fun _ s'' k'' f'' b'' => ⟨rfl, ?_⟩⟩
    exact gen_start (K := K) calm G hK hLN (by omega) (b'' rfl) h00 k'' (nsL₇.at' fun o e => f'' L o (.inl rfl) e) (by rfl)
  refine page_loop (x := x) (t := t) (ks := ks) (g := s.gens.size) G calm room U V ⟨by omega, by omega, n3, n4⟩ (by omega) hpos ⟨⟨hz, hTI, ⟨_, _, hTO⟩, hi1, gat, keep₇, hb.push rfl, fun _ => by show N + 4 ≤ h₇.objs.size; omega⟩, ⟨_, nsP.keeps hk₇, by rfl, by rfl, t4, by rfl⟩, ⟨[], 0, hk₇ _ _ hDS, rfl⟩⟩ ?_
  intro i h₈ g₈ tk₈ hi hstop keep₈ bare₈ hns hrows
  obtain ⟨m, ns₈, mw, mr, tp, mp⟩ := hns
  obtain ⟨l, n, hD₈, hl⟩ := hrows
  dsimp only
  have G₈ := G.keeps keep₈
  refine wpAny_execs_cons ?_
  refine wpAny_Return_some ?_
  refine MethodCall_ ?_
  refine Constant_str ?_
  refine GM.join ?_
  refine callWith_method1 ?_
  refine args_cons ?_
  refine wpAny_BinOp ?_
  refine ldL ns₈ mr ?_
  refine Call_ ?_
  refine ldB (v := .type "list") G₈ (by rfl) (by decide +kernel) ?_
  refine PyProof.Rows.callWith_type1 ?_
  refine args_cons ?_
  refine slice_from (x := x) (t := t) ?_
  refine ldL ns₈ mw ⟨rfl, ?_⟩
  refine ldL ns₈ mp ⟨_, _, rfl, by rw [show sizeLine = 2 ^ 24 from rfl]; omega, fun h₉ t9 tk₉ kp₉ => ?_⟩
  dsimp only at kp₉ ⊢
  refine args_nil ?_
  have hsl : (Txt.slice x (some (((cutS ks i).2 : Nat) : Int)) none).length ≤ 16 := hx ▸ Txt.slice_le x _ _
  refine call_list_str (hn := by rw [show sizeLine = 2 ^ 24 from rfl]; exact Nat.le_trans hsl (by decide)) calm _ _ fun ha tka acc c kpa hacc items => ?_
  obtain ⟨la, rfl, ela⟩ := signs_values items
  dsimp only at kpa hacc ⊢
  have len1 : l.length ≤ 16 := by
    have h1 := cut_len ks i
    have h2 := congrArg List.length hl
    rw [List.length_map, List.length_map] at h2
    omega
  have len2 : la.length ≤ 16 := by
    have h2 := congrArg List.length ela
    rw [List.length_map] at h2
    rw [h2]
    unfold signs
    rw [List.length_map]
    simpa [PySem.Str.length] using hsl
  refine PySem.P.add_list (n := n) (kpa _ _ (kp₉ _ _ hD₈)) hacc ?_ (by
    rw [List.size_toArray, List.size_toArray, show sizeLine = 2 ^ 24 from rfl]
    simp [strValues]
    omega)
  refine args_nil ?_
  have ev : (strValues l).toArray ++ (strValues la).toArray = (strValues (l ++ la)).toArray := by simp [strValues]
  rw [ev]
  refine SC.join (l := l ++ la) ⟨_, Heap.get?_push_size _ rfl, rfl, _, rfl⟩ (by rw [List.map_append, hl, ela]) (hok i hi hstop) ?_
  intro tok tkf
  exact post i _ g₈ tkf tok hi hstop (fun b o e => Heap.get?_push_of_some _ (kpa _ _ (kp₉ _ _ (keep₈ b o e)))) bare₈
end
end Mine
end

section
open PySem PySem.W PySem.Builtin PyProof.Rows PySem.Calls
set_option maxRecDepth 100000
set_option maxHeartbeats 4000000
namespace Mine
theorem walks_imp {w : World} {A : Around} {I : Addr} {fp wr : List Addr} {n : Nat} {P P' : Nat → Value → Prop} {St : Nat → Heap → Prop} (W : Walks prg w A I fp wr n P St) (h : ∀ i v, i < n → P i v → P' i v) : Walks prg w A I fp wr n P' St where
  sub := W.sub
  frame := W.frame
  item := fun i s Q E hi st hQ => W.item i s Q E hi st fun v h' tk hP => hQ v h' tk (h i v hi hP)
  done := W.done
  self := W.self
/-- a row as the hearer takes it -/
def heardOf (r : PySem.Str) : PySem.Str := if (Txt.slice r none (some 1) == (".":PySem.Str)) = true then Txt.slice r (some 1) none else r
section
variable {w : World} {A : Around} {E : Value → Shared → Prop} {s : Shared} {env : Env}
theorem src_strs {parts : List PySem.Str} {iter : PySem.Expr} (hh : A.handled = none)
    (hev : ∀ Q' : Value → Shared → Prop, (∀ h₁ tk₁ (D : Nat) l, Keep s.heap h₁ → l.map (·.1) = parts → h₁.IsList D (strValues l).toArray → Q' (.ref D) { s with heap := h₁, toks := tk₁ }) → wpAny (model prg w) A (eval iter env) Q' E s) :
    Source w A E env iter parts.length (fun i v => ∃ t, v = .str (parts.getD i ⟨#[]⟩) t) s := by
  intro Q' hQ
  refine hev _ fun h₁ tk₁ l la hk hl hlist => ?_
  have hlt : @LT.lt Nat _ l h₁.objs.size := by obtain ⟨_, e, _⟩ := hlist; exact Heap.lt_size e
  refine wpAny_pyIter_list hlist ?_
  have up : Keep h₁ (h₁.push { cls := .type "list_iterator", data := .fields #[.ref l, .int 0 0] }) := fun _ _ e => Heap.get?_push_of_some _ e
  have hn : (strValues la).toArray.size = parts.length := by
    rw [← hl, List.length_map]; simp [strValues]
  have W := Walks.list (prog := prg) (w := w) hh h₁.objs.size l (Nat.ne_of_lt hlt) (strValues la).toArray
  rw [hn] at W
  have W' : Walks prg w A h₁.objs.size [h₁.objs.size, l] [h₁.objs.size] parts.length (fun i v => ∃ t, v = .str (parts.getD i ⟨#[]⟩) t) _ := walks_imp W fun i v hi hv => by
    have hv' : (strValues la)[i]? = some v := by simpa using hv
    unfold strValues at hv'
    rw [List.getElem?_map] at hv'
    cases e : la[i]? with
    | none => rw [e] at hv'; cases hv'
    | some p =>
      rw [e] at hv'
      cases hv'
      refine ⟨p.2, ?_⟩
      rw [List.getD_eq_getElem?_getD, ← hl, List.getElem?_map, e]
      rfl
  refine hQ h₁.objs.size [h₁.objs.size, l] _ _ _ (Keep.trans hk up) W' ⟨⟨_, Heap.get?_push_size _ rfl, rfl, rfl⟩, hlist.push _⟩ (fun b hb => ?_) (none_of hk (Heap.get?_none_of_le (Nat.le_refl _))) ?_
  · show @LT.lt Nat _ b (h₁.push _).objs.size
    rw [Heap.size_push]
    simp only [List.mem_cons, List.not_mem_nil, or_false] at hb
    rcases hb with rfl | rfl
    · exact Nat.lt_succ_self _
    · exact Nat.lt_succ_of_lt hlt
  · show @LT.lt Nat _ h₁.objs.size (h₁.push _).objs.size
    rw [Heap.size_push]; exact Nat.lt_succ_self _
end
/-- what is to be so of the page's text -/
structure GrownOk (x y : PySem.Str) : Prop where
  size : y.cps.size ≤ 100
  no13 : ∀ q, y.cps.getD q 0 ≠ 13
  sent : (quoted y).length ≤ 400
  parts : (Txt.split (quoted y) "\r\n").length ≤ 400
  parts2 : (Str.partsBetween (quoted y) (Str.occurrences (quoted y) "\r\n" 0 (quoted y).length ((quoted y).length + 1)) ("\r\n" : PySem.Str).length).length ≤ 400
  each : ∀ r ∈ Txt.split (quoted y) "\r\n", r.length ≤ 400
  heard : Txt.join "" ((Txt.split (quoted y) "\r\n").map heardOf) = x
  join : JoinOk "" ((Txt.split (quoted y) "\r\n").map heardOf) = true
section
variable {w : World} {A : Around} {s : Shared}
theorem grown_call {R : Result → Shared → Prop} {x : PySem.Str} {t : Tok} {K : Nat} {ks : List Int} (G : Gr w s.heap) (ro : Room A 3 20) (hx : x.length = 16) (hK : IsKs s.heap K ks) (hb : AllBare s.gens)
    (hpos : ∀ i, i < 16 → 0 ≤ (tells ks 0 i).getD 0) (h00 : ks.getD 0 1 ≠ 0)
    (hok : ∀ i, i ≤ 16 → (i = 16 ∨ tells ks 0 i = none) → JoinOk "\n" ((cutS ks i).1.map (rowS x) ++ signs (Txt.slice x (some (((cutS ks i).2 : Nat) : Int)) none)) = true)
    (hgr : ∀ i, i ≤ 16 → (i = 16 ∨ tells ks 0 i = none) → GrownOk x (pageOf x ks i))
    (post : ∀ i h' g' tk tok, i ≤ 16 → (i = 16 ∨ tells ks 0 i = none) → Keep s.heap h' → AllBare g' → R (.ok (.ret (.int ((((quoted (pageOf x ks i)).length : Nat) : Int) - (((pageOf x ks i).length : Nat) : Int) - Txt.count (pageOf x ks i) "\n") tok))) { s with heap := h', gens := g', toks := tk }) :
    codeAny (model prg w) A (.call (.ref 72) ⟨[.str x t, .ref K], []⟩) R s := by
  refine enter (binds := [("word", .str x t), ("sizes", .ref K)]) G (by have := ro.depth; omega) rfl rfl (by rfl) rfl (by rfl) rfl (by rfl) ?_
  intro h₁ tk₁ hk₁ ns₁ cells E'
  clear cells
  have hpN : s.heap.get? s.heap.objs.size = none := Heap.get?_none_of_le (Nat.le_refl _)
  have hle : s.heap.objs.size ≤ s.heap.objs.size := Nat.le_refl _
  generalize hLp : s.heap.objs.size = Lp at *
  have calm : (A.deeper (envAt w.params 72 Lp)).handled = none := ro.calm
  have room : Room (A.deeper (envAt w.params 72 Lp)) 2 10 := ⟨by have := ro.depth; show A.depth + 1 + 2 < recursionLimit; omega, by have := ro.units; show A.units + 3 + 10 < cLine; omega, ro.calm⟩
  have G₁ := G.keeps hk₁
  refine wpAny_execs_cons ?_
  refine wpAny_Assign_Name ?_
  refine Call_ ?_
  refine ldG (v := .ref 67) G₁ (by rfl) ?_
  refine fn_call ⟨_, _, rfl, rfl⟩ ?_
  refine args_cons ?_
  refine ldL ns₁ (v := .str x t) (by rfl) ?_
  refine args_cons ?_
  refine ldL ns₁ (v := .ref K) (by rfl) ?_
  refine args_nil ?_
  refine ⟨G₁, ?_⟩
  refine wpAny_call ?_
  have hK₁ : IsKs h₁ K ks := by
    obtain ⟨items, hl, r⟩ := hK
    exact ⟨items, hl.at fun o e => hk₁ _ _ e, r⟩
  refine page_call G₁ room hx hK₁ hb hpos h00 hok fun i h₂ g₂ tk₂ t2 hi hstop hk₂ bare₂ => ?_
  dsimp only
  have ok := hgr i hi hstop
  refine wpAny_storeName_local (by rfl) (ns₁.keeps hk₂) fun h₃ ns₃ hs₃ => ?_
  have hk₃ : Keep s.heap h₃ := fun b o e => hs₃.extBut _ _ (neN hpN e) (hk₂ b o (hk₁ b o e))
  generalize hy : pageOf x ks i = y at *
  have G₃ := G.keeps hk₃
  dsimp only
  refine wpAny_execs_cons ?_
  refine wpAny_Assign_Name ?_
  refine Call_ ?_
  refine ldG (v := .ref 55) G₃ (by rfl) ?_
  refine fn_call ⟨_, _, rfl, rfl⟩ ?_
  refine args_cons ?_
  refine ldL ns₃ (v := .str y t2) (by rfl) ?_
  refine args_nil ?_
  refine ⟨G₃, ?_⟩
  refine wpAny_call ?_
  refine quote_call G₃ ⟨by have := room.depth; omega, room.units, room.calm⟩ (by have := ok.size; omega) ok.no13 fun h₄ tk₄ t4 hk₄ => ?_
  dsimp only
  refine wpAny_storeName_local (by rfl) (ns₃.keeps hk₄) fun h₅ ns₅ hs₅ => ?_
  have hk₅ : Keep s.heap h₅ := fun b o e => hs₅.extBut _ _ (neN hpN e) (hk₄ b o (hk₃ b o e))
  have F₅ : Fr s.heap Lp h₅ _ := ⟨ns₅, hk₅, by rw [hLp]; exact Nat.le_refl _⟩
  dsimp only
  refine wpAny_execs_cons ?_
  refine comp_used (n := (Txt.split (quoted y) "\r\n").length) (P := fun i v => ∃ t, v = .str ((Txt.split (quoted y) "\r\n").getD i ⟨#[]⟩) t) (sel := fun _ => true) (Y := fun i v => ∃ t, v = .str (heardOf ((Txt.split (quoted y) "\r\n").getD i ⟨#[]⟩)) t) F₅ ?_ ?_ ?_ (hn := by have := ok.parts; omega)
  · refine src_strs calm fun Q' hQ => ?_
    refine MethodCall_ ?_
    refine ldL ns₅ (v := .str (quoted y) t4) (by rfl) ?_
    refine GM.split ?_
    refine callWith_method1 ?_
    refine args_cons ?_
    refine Constant_str ?_
    refine args_nil ?_
    refine SCH.split1 (P := fun h => Keep h₅ h) (fun h ob p b o e => Heap.get?_push_of_some _ (p b o e)) (Keep.refl _) (by decide) ?_ ?_ ?_
    · intro D l h' k hl hkk hlist
      exact hQ h' k D l hkk hl hlist
    · have := ok.sent
      rw [show sizeLine = 2 ^ 24 from rfl]; omega
    · have := ok.parts2
      rw [show sizeLine = 2 ^ 24 from rfl]; exact Nat.le_trans this (by decide)
  · rintro i v h tk C m' hi ⟨tr, rfl⟩ hkk hns hm E''
    have hlen : ((Txt.split (quoted y) "\r\n").getD i ⟨#[]⟩).length ≤ sizeLine := by
      rw [show sizeLine = 2 ^ 24 from rfl]
      refine Nat.le_trans (ok.each _ ?_) (by decide)
      rw [List.getD_eq_getElem?_getD, List.getElem?_eq_getElem hi]
      exact List.getElem_mem hi
    generalize (Txt.split (quoted y) "\r\n").getD i ⟨#[]⟩ = r at hm hlen ⊢
    refine wpAny_tests_nil ⟨rfl, ⟨_, _, rfl, Keep.refl _⟩, fun _ => ?_⟩
    dsimp only
    refine IfExp_ ?_
    refine wpAny_isTrue_Compare1 ?_
    refine slice_to (x := r) (t := tr) ?_
    refine ldL hns hm ⟨rfl, ?_⟩
    refine cInt fun t5 tk5 => ⟨_, _, rfl, hlen, fun h6 t6 tk6 kp6 => ?_⟩
    dsimp only at kp6 ⊢
    refine Constant_str ?_
    refine PyProof.Rows.eq_str ?_
    refine wpAny_truthy_bool ?_
    by_cases q : (Txt.slice r none (some 1) == (".":PySem.Str)) = true
    · rw [if_pos q]
      refine slice_from (x := r) (t := tr) ?_
      refine ldL (hns.keeps kp6) hm ⟨rfl, ?_⟩
      refine cInt fun t7 tk7 => ⟨_, _, rfl, hlen, fun h8 t8 tk8 kp8 => ?_⟩
      refine ⟨⟨t8, by rw [heardOf, if_pos q]⟩, h8, tk8, rfl, fun b o e => kp8 b o (kp6 b o e)⟩
    · rw [if_neg q]
      refine ldL (hns.keeps kp6) hm ?_
      refine ⟨⟨tr, by rw [heardOf, if_neg q]⟩, h6, _, rfl, kp6⟩
  · intro D h₆ tk₆ ys F₆ kp₆ hD hpre hDN
    obtain ⟨l, rfl, e⟩ := pre_strs hpre
    have e' : l.map (·.1) = (Txt.split (quoted y) "\r\n").map heardOf := by
      rw [e]
      apply List.ext_getElem
      · simp
      · intro j h1 h2
        simp at h1 h2 ⊢
        rw [List.getElem?_eq_getElem h1]; rfl
    have G₆ := G.keeps F₆.keep
    dsimp only
    refine wpAny_execs_cons ?_
    refine wpAny_If ?_
    refine wpAny_isTrue_Compare1 ?_
    refine MethodCall_ ?_
    refine Constant_str ?_
    refine GM.join ?_
    refine callWith_method1 ?_
    refine args_cons ?_
    refine ldL F₆.ns (v := .ref D) (by rfl) ?_
    refine args_nil ?_
    refine SC.join (l := l) ⟨_, hD, rfl, _, rfl⟩ e' ok.join ?_
    intro t7 tk7
    refine ldL F₆.ns (v := .str x t) (by rfl) ?_
    refine PyProof.Rows.ne_str ?_
    refine wpAny_truthy_bool ?_
    rw [ok.heard, show (x != x) = false from by simp, if_neg Bool.false_ne_true]
    refine wpAny_execs_nil ?_
    dsimp only
    refine wpAny_execs_cons ?_
    refine wpAny_Return_some ?_
    refine wpAny_BinOp ?_
    refine wpAny_BinOp ?_
    refine Call_ ?_
    refine ldB (v := .builtin "len") G₆ (by rfl) (by decide +kernel) ?_
    refine PyProof.Rows.callWith_builtin1 ?_
    refine args_cons ?_
    refine ldL F₆.ns (v := .str (quoted y) t4) (by rfl) ?_
    refine args_nil ?_
    refine PySem.P.len_str (by have := ok.sent; omega) ?_
    refine Call_ ?_
    refine ldB (v := .builtin "len") G₆ (by rfl) (by decide +kernel) ?_
    refine PyProof.Rows.callWith_builtin1 ?_
    refine args_cons ?_
    refine ldL F₆.ns (v := .str y t2) (by rfl) ?_
    refine args_nil ?_
    refine PySem.P.len_str (by have := ok.size; show ¬ ((y.cps.size : Nat) : Int) ≥ 2 ^ 63; omega) ?_
    refine PySem.P.sub_int ?_
    refine MethodCall_ ?_
    refine ldL F₆.ns (v := .str y t2) (by rfl) ?_
    refine GM.count ?_
    refine callWith_method1 ?_
    refine args_cons ?_
    refine Constant_str ?_
    refine args_nil ?_
    refine SC.count ?_
    refine PySem.P.sub_int ?_
    exact hy ▸ post i h₆ g₂ _ _ hi hstop F₆.keep bare₂
end
end Mine
end

section
open PySem PySem.W PySem.Builtin PyProof.Rows PySem.Calls
set_option maxRecDepth 100000
set_option maxHeartbeats 4000000
namespace Mine
/-! texts as lists of signs -/
def joinL (sep : List Nat) : List (List Nat) → List Nat
  | [] => []
  | [r] => r
  | r :: q :: rs => r ++ sep ++ joinL sep (q :: rs)
def mk (l : List Nat) : PySem.Str := ⟨l.toArray⟩
theorem mk_len (l : List Nat) : (mk l).length = l.length := by simp [mk, PySem.Str.length]
theorem mk_toList (l : List Nat) : (mk l).cps.toList = l := rfl
theorem mk_ext {y : PySem.Str} {l : List Nat} (h : y.cps.toList = l) : y = mk l := by
  cases y with
  | mk a => cases a with
    | mk l' => simp at h; subst h; rfl
theorem join_mk (sep : PySem.Str) : ∀ rows : List (List Nat), PySem.Str.join sep (rows.map mk) = mk (joinL sep.cps.toList rows)
  | [] => rfl
  | [r] => rfl
  | r :: q :: rs => by
    have ih := join_mk sep (q :: rs)
    show mk r ++ sep ++ PySem.Str.join sep ((q :: rs).map mk) = _
    rw [ih]
    apply mk_ext
    show (mk r ++ sep ++ mk (joinL sep.cps.toList (q :: rs))).cps.toList = _
    simp [PySem.Str.cps_append, mk, joinL]
theorem txt_join (sep : PySem.Str) (rows : List (List Nat)) : Txt.join sep (rows.map mk) = mk (joinL sep.cps.toList rows) := by
  rw [← join_mk]
  exact StrLaws.glued_eq_join sep _
/-- returns set in -/
def rep2 (l : List Nat) : List Nat := l.flatMap fun c => if c = 10 then [13, 10] else [c]
/-- dots doubled -/
def rep1 : Bool → List Nat → List Nat
  | _, [] => []
  | b, c :: r => (if b = true ∧ c = 46 then [46, 46] else [c]) ++ rep1 (c == 10) r
theorem drop_cons {a : Array Nat} {p : Nat} (h : p < a.size) : a.toList.drop p = a.getD p 0 :: a.toList.drop (p + 1) := by
  rw [List.drop_eq_getElem_cons (by simpa using h)]
  simp [Array.getD, h]
theorem out2 (text : Array Nat) : ∀ n p, p + n = text.size → outH (hit2 text) text [13, 10] p n = rep2 (text.toList.drop p)
  | 0, p, h => by rw [List.drop_eq_nil_of_le (by simp; omega)]; rfl
  | n + 1, p, h => by
    rw [drop_cons (by omega)]
    unfold outH
    rw [out2 text n (p + 1) (by omega)]
    show _ = (if text.getD p 0 = 10 then [13, 10] else [text.getD p 0]) ++ rep2 _
    unfold hit2
    by_cases q : text.getD p 0 = 10
    · rw [if_pos q, if_pos (by simpa using q)]
    · rw [if_neg q, if_neg (by simpa using q)]
theorem out1 (text : Array Nat) : ∀ n p, p + n = text.size → outH (hit1 text) text [46, 46] p n = rep1 (rowStart text p) (text.toList.drop p)
  | 0, p, h => by rw [List.drop_eq_nil_of_le (by simp; omega)]; rfl
  | n + 1, p, h => by
    rw [drop_cons (by omega)]
    unfold outH
    rw [out1 text n (p + 1) (by omega)]
    have e : rowStart text (p + 1) = (text.getD p 0 == 10) := by
      unfold rowStart
      simp
    show _ = (if rowStart text p = true ∧ text.getD p 0 = 46 then [46, 46] else [text.getD p 0]) ++ rep1 (text.getD p 0 == 10) _
    rw [e]
    unfold hit1
    by_cases q : rowStart text p = true ∧ text.getD p 0 = 46
    · rw [if_pos q, if_pos (by simpa using q)]
    · rw [if_neg q, if_neg (by simpa using q)]
theorem quoted_mk (l : List Nat) : quoted (mk l) = mk (rep1 true (rep2 l)) := by
  unfold quoted
  have e2 : outH (hit2 (mk l).cps) (mk l).cps [13, 10] 0 (mk l).cps.size = rep2 l := by
    rw [out2 _ _ 0 (by simp)]
    rfl
  dsimp only
  rw [e2, out1 _ _ 0 (by simp)]
  rfl
end Mine
namespace Mine
def Clean (rows : List (List Nat)) : Prop := ∀ r ∈ rows, r ≠ [] ∧ 10 ∉ r ∧ 13 ∉ r
theorem rep2_none : ∀ {l : List Nat}, 10 ∉ l → rep2 l = l
  | [], _ => rfl
  | c :: r, h => by
    have h1 : c ≠ 10 := fun e => h (by simp [e])
    have ih := rep2_none (l := r) fun e => h (by simp [e])
    show (if c = 10 then [13, 10] else [c]) ++ rep2 r = _
    rw [if_neg h1, ih]; rfl
theorem rep2_app (a b : List Nat) : rep2 (a ++ b) = rep2 a ++ rep2 b := by simp [rep2]
theorem rep2_join : ∀ {rows : List (List Nat)}, Clean rows → rep2 (joinL [10] rows) = joinL [13, 10] rows
  | [], _ => rfl
  | [r], h => rep2_none (h r (by simp)).2.1
  | r :: q :: rs, h => by
    show rep2 (r ++ [10] ++ joinL [10] (q :: rs)) = r ++ [13, 10] ++ joinL [13, 10] (q :: rs)
    rw [rep2_app, rep2_app, rep2_none (h r (by simp)).2.1, rep2_join fun x hx => h x (by simp [hx])]
    rfl
def dotted : List Nat → List Nat
  | [] => []
  | c :: r => if c = 46 then 46 :: c :: r else c :: r
theorem rep1_false : ∀ {l rest : List Nat}, 10 ∉ l → rep1 false (l ++ rest) = l ++ rep1 false rest
  | [], _, _ => rfl
  | c :: r, rest, h => by
    have h1 : c ≠ 10 := fun e => h (by simp [e])
    have ih := rep1_false (l := r) (rest := rest) fun e => h (by simp [e])
    show (if false = true ∧ c = 46 then [46, 46] else [c]) ++ rep1 (c == 10) (r ++ rest) = _
    rw [if_neg (by simp), show (c == 10) = false from by simpa using h1, ih]; rfl
theorem rep1_row {r rest : List Nat} (h : r ≠ [] ∧ 10 ∉ r ∧ 13 ∉ r) : rep1 true (r ++ rest) = dotted r ++ rep1 false rest := by
  cases r with
  | nil => exact absurd rfl h.1
  | cons c r =>
    have h1 : c ≠ 10 := fun e => h.2.1 (by simp [e])
    have h2 : 10 ∉ r := fun e => h.2.1 (by simp [e])
    show (if true = true ∧ c = 46 then [46, 46] else [c]) ++ rep1 (c == 10) (r ++ rest) = _
    rw [show (c == 10) = false from by simpa using h1, rep1_false h2]
    by_cases q : c = 46
    · rw [if_pos ⟨rfl, q⟩]; simp [dotted, q]
    · rw [if_neg (by simp [q])]; simp [dotted, q]
theorem rep1_join : ∀ {rows : List (List Nat)}, Clean rows → rep1 true (joinL [13, 10] rows) = joinL [13, 10] (rows.map dotted)
  | [], _ => rfl
  | [r], h => by
    have := rep1_row (rest := []) (h r (by simp))
    simpa [joinL, rep1] using this
  | r :: q :: rs, h => by
    have ih := rep1_join (rows := q :: rs) fun x hx => h x (by simp [hx])
    show rep1 true (r ++ [13, 10] ++ joinL [13, 10] (q :: rs)) = dotted r ++ [13, 10] ++ joinL [13, 10] ((q :: rs).map dotted)
    rw [List.append_assoc, rep1_row (h r (by simp)), ← ih]
    simp [rep1]
theorem quoted_rows {rows : List (List Nat)} (h : Clean rows) : quoted (mk (joinL [10] rows)) = mk (joinL [13, 10] (rows.map dotted)) := by
  rw [quoted_mk, rep2_join h, rep1_join h]
/-! where the separators stand -/
open PySem.StrLaws in
theorem chainG_unique {s sub : PySem.Str} {hi : Nat} : ∀ {a : Nat} {c d : List Nat} {f g : Nat}, ChainG s sub hi a c f → (∀ k, f ≤ k → ¬ At s sub hi k) → ChainG s sub hi a d g → (∀ k, g ≤ k → ¬ At s sub hi k) → c = d
  | _, [], [], _, _, _, _, _, _ => rfl
  | a, [], y :: d, f, g, h1, h2, h3, _ => by
    have e : f = a := h1
    subst e
    exact absurd h3.2.1 (h2 y h3.1)
  | a, x :: c, [], f, g, h1, _, h3, h4 => by
    have e : g = a := h3
    subst e
    exact absurd h1.2.1 (h4 x h1.1)
  | a, x :: c, y :: d, f, g, h1, h2, h3, h4 => by
    have e : x = y := by
      rcases Nat.lt_trichotomy x y with q | q | q
      · exact absurd h1.2.1 (h3.2.2.1 x h1.1 q)
      · exact q
      · exact absurd h3.2.1 (h1.2.2.1 y h3.1 q)
    subst e
    rw [chainG_unique h1.2.2.2 h2 h3.2.2.2 h4]
end Mine
end

section
open PySem PySem.W PySem.Builtin PyProof.Rows PySem.Calls
set_option maxRecDepth 100000
set_option maxHeartbeats 4000000
namespace Mine
open PySem.StrLaws PySem.Builtin.Str
def cutsL (w : Nat) : Nat → List (List Nat) → List Nat
  | _, [] => []
  | _, [_] => []
  | a, r :: q :: rs => (a + r.length) :: cutsL w (a + r.length + w) (q :: rs)
theorem cutsL_len (w : Nat) : ∀ (rows : List (List Nat)) (a : Nat), (cutsL w a rows).length = rows.length - 1
  | [], _ => rfl
  | [_], _ => rfl
  | r :: q :: rs, a => by
    have := cutsL_len w (q :: rs) (a + r.length + w)
    simp [cutsL, this]
theorem not_at {T tl : List Nat} {c k hi : Nat} (h : T[k]? ≠ some c) : ¬ At (mk T) (mk (c :: tl)) hi k := by
  rintro ⟨_, h2⟩
  rw [subAt_eq] at h2
  have h3 : (T.drop k).take (mk (c :: tl)).length = c :: tl := by simpa [mk] using h2
  have h4 := congrArg List.head? h3
  rw [mk_len, List.length_cons, List.head?_take] at h4
  simp at h4
  exact h h4
theorem is_at {pre tl rest : List Nat} {c : Nat} : At (mk (pre ++ (c :: tl) ++ rest)) (mk (c :: tl)) (mk (pre ++ (c :: tl) ++ rest)).length pre.length := by
  refine ⟨by rw [mk_len, mk_len]; simp, ?_⟩
  rw [subAt_eq, mk_len]
  have : ((pre ++ (c :: tl) ++ rest).drop pre.length).take (c :: tl).length = c :: tl := by
    rw [List.append_assoc, List.drop_left, List.take_left]
  show (List.take _ (List.drop _ (mk _).cps.toList) == _) = true
  rw [mk_toList, this]
  simp [mk]
theorem mid_ne {pre r rest : List Nat} {c k : Nat} (h : c ∉ r) (h1 : pre.length ≤ k) (h2 : k < pre.length + r.length) : (pre ++ (r ++ rest))[k]? ≠ some c := by
  intro e
  rw [List.getElem?_append_right h1, List.getElem?_append_left (by omega)] at e
  exact h (List.mem_of_getElem? e)
theorem chain_rows {c : Nat} {tl : List Nat} : ∀ (rows : List (List Nat)) (pre T : List Nat), T = pre ++ joinL (c :: tl) rows → rows ≠ [] → (∀ r ∈ rows, c ∉ r) →
    (∃ f, ChainG (mk T) (mk (c :: tl)) (mk T).length pre.length (cutsL (mk (c :: tl)).length pre.length rows) f ∧ ∀ k, f ≤ k → ¬ At (mk T) (mk (c :: tl)) (mk T).length k) ∧
    partsFrom (mk T) (mk (c :: tl)).length pre.length (cutsL (mk (c :: tl)).length pre.length rows) = rows.map mk
  | [], _, _, _, h, _ => absurd rfl h
  | [r], pre, T, hT, _, hr => by
    subst hT
    refine ⟨⟨pre.length, rfl, fun k hk => not_at ?_⟩, ?_⟩
    · show (pre ++ r)[k]? ≠ some c
      rcases Nat.lt_or_ge k (pre.length + r.length) with q | q
      · have := mid_ne (pre := pre) (r := r) (rest := []) (hr r (by simp)) hk q
        simpa using this
      · rw [List.getElem?_eq_none (by simpa using q)]; simp
    · show [strSub _ _ _] = [mk r]
      congr 1
      apply mk_ext
      rw [strSub_toList, mk_toList, mk_len]
      show List.take _ (List.drop _ (pre ++ r)) = r
      rw [List.drop_left]
      exact List.take_of_length_le (by show r.length ≤ (pre ++ r).length - pre.length; simp)
  | r :: q :: rs, pre, T, hT, _, hr => by
    have e : T = (pre ++ r ++ (c :: tl)) ++ joinL (c :: tl) (q :: rs) := by rw [hT]; simp [joinL]
    obtain ⟨⟨f, hG, hn⟩, hp⟩ := chain_rows (q :: rs) (pre ++ r ++ (c :: tl)) T e (by simp) fun x hx => hr x (by simp [hx])
    have el : (pre ++ r ++ (c :: tl)).length = pre.length + r.length + (mk (c :: tl)).length := by rw [mk_len]; simp [Nat.add_assoc]
    rw [el] at hG hp
    refine ⟨⟨f, ⟨Nat.le_add_right _ _, ?_, fun k h1 h2 => not_at ?_, hG⟩, hn⟩, ?_⟩
    · have := is_at (pre := pre ++ r) (tl := tl) (rest := joinL (c :: tl) (q :: rs)) (c := c)
      rw [← e, List.length_append] at this
      exact this
    · have := mid_ne (pre := pre) (r := r) (rest := (c :: tl) ++ joinL (c :: tl) (q :: rs)) (c := c) (hr r (by simp)) h1 h2
      rw [e]
      simpa using this
    · show strSub _ _ _ :: partsFrom _ _ _ _ = mk r :: (q :: rs).map mk
      rw [hp]
      congr 1
      apply mk_ext
      rw [strSub_toList, mk_toList, e, List.append_assoc, List.append_assoc, List.drop_left]
      rw [show pre.length + r.length - pre.length = r.length by omega, List.take_left]
theorem occ_rows {c : Nat} {tl : List Nat} {rows : List (List Nat)} (h0 : rows ≠ []) (hr : ∀ r ∈ rows, c ∉ r) :
    occurrences (mk (joinL (c :: tl) rows)) (mk (c :: tl)) 0 (mk (joinL (c :: tl) rows)).length ((mk (joinL (c :: tl) rows)).length + 1) = cutsL (mk (c :: tl)).length 0 rows := by
  obtain ⟨⟨f, hG, hn⟩, _⟩ := chain_rows (c := c) (tl := tl) rows [] _ rfl h0 hr
  obtain ⟨g, hG', hn'⟩ := occ_tight (mk (joinL (c :: tl) rows)) (mk (c :: tl)) (by rw [mk_len]; simp)
  exact chainG_unique hG' hn' hG hn
theorem parts_rows {c : Nat} {tl : List Nat} {rows : List (List Nat)} (h0 : rows ≠ []) (hr : ∀ r ∈ rows, c ∉ r) :
    partsBetween (mk (joinL (c :: tl) rows)) (occurrences (mk (joinL (c :: tl) rows)) (mk (c :: tl)) 0 (mk (joinL (c :: tl) rows)).length ((mk (joinL (c :: tl) rows)).length + 1)) (mk (c :: tl)).length = rows.map mk := by
  rw [occ_rows h0 hr, partsBetween_eq]
  exact (chain_rows (c := c) (tl := tl) rows [] _ rfl h0 hr).2
theorem kind_small {l : List Nat} (h : ∀ c ∈ l, c < 256) : Str.strKind (mk l) = 1 := by
  unfold Str.strKind
  rw [if_pos]
  rw [← Array.all_toList, List.all_eq_true]
  intro c hc
  simpa using h c hc
theorem joinL_len (sep : List Nat) : ∀ rows : List (List Nat), (joinL sep rows).length = rows.flatten.length + (rows.length - 1) * sep.length
  | [] => by simp [joinL]
  | [r] => by simp [joinL]
  | r :: q :: rs => by
    have := joinL_len sep (q :: rs)
    simp only [joinL, List.length_append, this, List.flatten_cons, List.length_cons]
    have e : (rs.length + 1 + 1 - 1) * sep.length = (rs.length + 1 - 1) * sep.length + sep.length := by
      rw [show rs.length + 1 + 1 - 1 = (rs.length + 1 - 1) + 1 by omega, Nat.add_mul, Nat.one_mul]
    omega
theorem split_rows {c : Nat} {tl : List Nat} {rows : List (List Nat)} (hs : ∀ x ∈ c :: tl, x < 256) (h0 : rows ≠ []) (hr : ∀ r ∈ rows, c ∉ r) :
    Txt.split (mk (joinL (c :: tl) rows)) (mk (c :: tl)) = rows.map mk := by
  have key := parts_rows (tl := tl) h0 hr
  have one : rows.length = 1 → rows.map mk = [mk (joinL (c :: tl) rows)] := fun h => by
    match rows, h with
    | [r], _ => rfl
  unfold Txt.split
  split
  · rename_i hc
    refine (one ?_).symm
    rw [Bool.or_eq_true, decide_eq_true_eq, decide_eq_true_eq] at hc
    rcases hc with hc | hc
    · rw [mk_len, mk_len, joinL_len] at hc
      have : rows.length ≠ 0 := by simpa using h0
      rcases Nat.lt_or_ge 1 rows.length with q | q
      · have : 1 * (c :: tl).length ≤ (rows.length - 1) * (c :: tl).length := Nat.mul_le_mul_right _ (by omega)
        omega
      · omega
    · rw [kind_small hs] at hc
      have := strKind_pos (mk (joinL (c :: tl) rows))
      omega
  · split
    · rename_i hc
      refine (one ?_).symm
      rw [occ_rows h0 hr, List.isEmpty_iff] at hc
      have h1 := cutsL_len (mk (c :: tl)).length rows 0
      rw [hc, List.length_nil] at h1
      have h2 : rows.length ≠ 0 := by simpa using h0
      omega
    · exact key
theorem count_rows {c : Nat} {rows : List (List Nat)} (h0 : rows ≠ []) (hr : ∀ r ∈ rows, c ∉ r) : Txt.count (mk (joinL [c] rows)) (mk [c]) = ((rows.length - 1 : Nat) : Int) := by
  unfold Txt.count
  rw [occ_rows h0 hr, cutsL_len]
end Mine
end

section
open PySem PySem.W PySem.Builtin PyProof.Rows PySem.Calls
set_option maxRecDepth 100000
set_option maxHeartbeats 4000000
namespace Mine
open PySem.StrLaws PySem.Builtin.Str
theorem feed_mk : (PySem.Str.ofString "\n") = mk [10] := by decide +kernel
theorem crlf_mk : (PySem.Str.ofString "\r\n") = mk [13, 10] := by decide +kernel
theorem dot_mk : (PySem.Str.ofString ".") = mk [46] := by decide +kernel
theorem none_mk : (PySem.Str.ofString "") = mk [] := by decide +kernel
theorem slice_head {l : List Nat} (h : l ≠ []) : Txt.slice (mk l) none (some 1) = mk (l.take 1) := by
  have h1 : 1 ≤ l.length := Nat.one_le_iff_ne_zero.mpr (by simpa using h)
  have := slice_closes_toL (x := mk l) (j := 1) (by decide) (by rw [mk_len]; omega)
  exact eq_of_beq this
theorem slice_tail {l : List Nat} (h : l ≠ []) : Txt.slice (mk l) (some 1) none = mk (l.drop 1) := by
  have h1 : 1 ≤ l.length := Nat.one_le_iff_ne_zero.mpr (by simpa using h)
  have := eq_of_beq (slice_closes_fromL (x := mk l) (i := 1) (b := ((mk l).length : Int)) (by decide) (by rw [mk_len]; omega) rfl)
  rw [this]
  apply mk_ext
  show ((mk l).cps.toList.drop (1 : Int).toNat).take _ = l.drop 1
  rw [mk_toList]
  exact List.take_of_length_le (by rw [mk_len]; simp)
theorem heard_dotted {r : List Nat} (h : r ≠ []) : heardOf (mk (dotted r)) = mk r := by
  cases r with
  | nil => exact absurd rfl h
  | cons c t =>
    unfold heardOf
    by_cases q : c = 46
    · have e : dotted (c :: t) = 46 :: c :: t := by simp [dotted, q]
      rw [e, slice_head (by simp), slice_tail (by simp), dot_mk, if_pos (by simp)]
      rfl
    · have e : dotted (c :: t) = c :: t := by simp [dotted, q]
      rw [e, slice_head (by simp), dot_mk, if_neg]
      intro h
      have := congrArg (fun z : PySem.Str => z.cps.toList) (eq_of_beq h)
      simp [mk] at this
      exact q this
/-- how many rows begin with a dot -/
def dots (rows : List (List Nat)) : Nat := (rows.map fun r => if r.head? = some 46 then 1 else 0).sum
theorem dotted_len (r : List Nat) : (dotted r).length = r.length + (if r.head? = some 46 then 1 else 0) := by
  cases r with
  | nil => rfl
  | cons c t =>
    by_cases q : c = 46
    · simp [dotted, q]
    · simp [dotted, q]
theorem flat_dotted : ∀ rows : List (List Nat), (rows.map dotted).flatten.length = rows.flatten.length + dots rows
  | [] => rfl
  | r :: rs => by
    have ih := flat_dotted rs
    have e : dots (r :: rs) = (if r.head? = some 46 then 1 else 0) + dots rs := by simp [dots]
    rw [e]
    simp only [List.map_cons, List.flatten_cons, List.length_append, ih, dotted_len]
    omega
theorem rows_le : ∀ {rows : List (List Nat)}, (∀ r ∈ rows, r ≠ []) → rows.length ≤ rows.flatten.length
  | [], _ => Nat.le_refl _
  | r :: rs, h => by
    have ih := rows_le (rows := rs) fun x hx => h x (by simp [hx])
    have h1 : 1 ≤ r.length := Nat.one_le_iff_ne_zero.mpr (by simpa using h r (by simp))
    simp only [List.length_cons, List.flatten_cons, List.length_append]
    omega
theorem row_le {p : List Nat} : ∀ {rows : List (List Nat)}, p ∈ rows → p.length ≤ rows.flatten.length
  | r :: rs, h => by
    rw [List.flatten_cons, List.length_append]
    rcases List.mem_cons.mp h with rfl | h
    · omega
    · have := row_le h
      omega
theorem sum_len : ∀ rows : List (List Nat), ((rows.map mk).map (·.length)).sum = rows.flatten.length
  | [] => rfl
  | r :: rs => by
    simp only [List.map_cons, List.sum_cons, List.flatten_cons, List.length_append, mk_len]
    rw [sum_len rs]
theorem dots_le (rows : List (List Nat)) : dots rows ≤ rows.length := by
  unfold dots
  induction rows with
  | nil => exact Nat.le_refl _
  | cons r rs ih =>
    simp only [List.map_cons, List.sum_cons, List.length_cons]
    split <;> omega
theorem joinL_mem {sep : List Nat} {c : Nat} : ∀ {rows : List (List Nat)}, c ∈ joinL sep rows → c ∈ sep ∨ ∃ r ∈ rows, c ∈ r
  | [], h => by simp [joinL] at h
  | [r], h => .inr ⟨r, by simp, h⟩
  | r :: q :: rs, h => by
    simp only [joinL, List.mem_append] at h
    rcases h with (h | h) | h
    · exact .inr ⟨r, by simp, h⟩
    · exact .inl h
    · rcases joinL_mem h with h | ⟨x, hx, h⟩
      · exact .inl h
      · exact .inr ⟨x, by simp [hx], h⟩
theorem grown_rows {rows : List (List Nat)} (hc : Clean rows) (h0 : rows ≠ []) (hl : rows.flatten.length ≤ 16) :
    GrownOk (mk rows.flatten) (mk (joinL [10] rows)) ∧ ((((quoted (mk (joinL [10] rows))).length : Nat) : Int) - (((mk (joinL [10] rows)).length : Nat) : Int) - Txt.count (mk (joinL [10] rows)) "\n") = ((dots rows : Nat) : Int) := by
  have hq := quoted_rows hc
  have hne : rows.map dotted ≠ [] := by simpa using h0
  have h13 : ∀ r ∈ rows.map dotted, 13 ∉ r := by
    intro r hr
    obtain ⟨q, hq, rfl⟩ := List.mem_map.mp hr
    have := (hc q hq).2.2
    cases q with
    | nil => simp [dotted]
    | cons c t =>
      by_cases e : c = 46
      · simp [dotted, e] at this ⊢; exact this
      · simp [dotted, e] at this ⊢; exact this
  have hle := rows_le (rows := rows) fun r hr => (hc r hr).1
  have hd := dots_le rows
  have hsplit : Txt.split (quoted (mk (joinL [10] rows))) (PySem.Str.ofString "\r\n") = (rows.map dotted).map mk := by
    rw [hq, crlf_mk]
    exact split_rows (by simp) hne h13
  have hheard : ((rows.map dotted).map mk).map heardOf = rows.map mk := by
    rw [List.map_map, List.map_map]
    apply List.map_congr_left
    intro r hr
    exact heard_dotted (hc r hr).1
  have lq : (quoted (mk (joinL [10] rows))).length = rows.flatten.length + dots rows + (rows.length - 1) * 2 := by
    rw [hq, mk_len, joinL_len, flat_dotted, List.length_map]; rfl
  have ly : (mk (joinL [10] rows)).length = rows.flatten.length + (rows.length - 1) * 1 := by
    rw [mk_len, joinL_len]; rfl
  have hpos : rows.length ≠ 0 := by simpa using h0
  refine ⟨⟨?_, ?_, ?_, ?_, ?_, ?_, ?_, ?_⟩, ?_⟩
  · show (mk (joinL [10] rows)).length ≤ 100
    omega
  · intro q e
    have hm : 13 ∈ joinL [10] rows := by
      have e' : (joinL [10] rows).getD q 0 = 13 := by simpa [mk] using e
      rw [List.getD_eq_getElem?_getD] at e'
      cases hx : (joinL [10] rows)[q]? with
      | none => rw [hx] at e'; simp at e'
      | some c =>
        rw [hx] at e'
        simp at e'
        subst e'
        exact List.mem_of_getElem? hx
    rcases joinL_mem hm with h | ⟨r, hr, h⟩
    · simp at h
    · exact (hc r hr).2.2 h
  · omega
  · rw [hsplit]; simp; omega
  · rw [hq, crlf_mk, parts_rows hne h13]; simp; omega
  · intro r hr
    rw [hsplit] at hr
    obtain ⟨q, hq', rfl⟩ := List.mem_map.mp hr
    obtain ⟨p, hp, rfl⟩ := List.mem_map.mp hq'
    rw [mk_len, dotted_len]
    have : p.length ≤ rows.flatten.length := row_le hp
    split <;> omega
  · rw [hsplit, hheard, txt_join, none_mk]
    show mk (joinL [] rows) = _
    congr 1
    clear hc h0 hl hq hne h13 hle hd hsplit hheard lq ly hpos
    induction rows with
    | nil => rfl
    | cons r rs ih =>
      cases rs with
      | nil => simp [joinL]
      | cons q rs => simp only [joinL, List.append_nil, ih, List.flatten_cons]
  · rw [hsplit, hheard]
    refine joinOk_of_weight ?_ (by decide +kernel)
    rw [sum_len, List.length_map]
    omega
  · rw [lq, ly, feed_mk, count_rows h0 fun r hr => (hc r hr).2.1]
    omega
end Mine
end

section
open PySem PySem.W PySem.Builtin PyProof.Rows PySem.Calls
set_option maxRecDepth 100000
set_option maxHeartbeats 4000000
namespace Mine
open PySem.StrLaws PySem.Builtin.Str
theorem slice_clip {x : PySem.Str} {i j : Int} (h : (x.length : Int) ≤ j) : Txt.slice x (some i) (some j) = Txt.slice x (some i) (some (x.length : Int)) := by
  have e : strSliceIndices (some i) (some j) 1 x.length = strSliceIndices (some i) (some (x.length : Int)) 1 x.length := by
    unfold strSliceIndices
    have h1 : ¬ j < 0 := by omega
    have h2 : ¬ ((x.length : Int)) < 0 := by omega
    simp only [h1, h2, if_false]
    rw [Int.min_eq_right h, Int.min_self]; rfl
  unfold Txt.slice
  rw [e]
theorem row_mk {l : List Nat} {p k : Nat} (hp : p ≤ l.length) : rowS (mk l) (p, k) = mk ((l.drop p).take k) := by
  unfold rowS
  dsimp only
  rcases Nat.le_total (p + k) l.length with h | h
  · rw [eq_of_beq (slice_closesL (x := mk l) (i := (p : Int)) (j := ((p + k : Nat) : Int)) (by omega) (by omega) (by rw [mk_len]; omega))]
    apply mk_ext
    show ((mk l).cps.toList.drop (p : Int).toNat).take _ = _
    rw [mk_toList]
    congr 1
    omega
  · rw [slice_clip (by rw [mk_len]; omega), eq_of_beq (slice_closesL (x := mk l) (i := (p : Int)) (j := ((mk l).length : Int)) (by omega) (by rw [mk_len]; omega) (Int.le_refl _))]
    apply mk_ext
    show ((mk l).cps.toList.drop (p : Int).toNat).take _ = _
    rw [mk_toList]
    rw [List.take_of_length_le, List.take_of_length_le]
    · rfl
    · simp; omega
    · rw [mk_len]; simp
theorem rest_mk {l : List Nat} {p : Nat} : Txt.slice (mk l) (some (p : Int)) none = mk (l.drop p) := by
  rcases Nat.le_total p l.length with h | h
  · rw [eq_of_beq (slice_closes_fromL (x := mk l) (i := (p : Int)) (b := ((mk l).length : Int)) (by omega) (by rw [mk_len]; omega) rfl)]
    apply mk_ext
    show ((mk l).cps.toList.drop (p : Int).toNat).take _ = _
    rw [mk_toList]
    exact List.take_of_length_le (by rw [mk_len]; simp)
  · rw [slice_from_beyond (by rw [mk_len]; omega), List.drop_eq_nil_of_le h]
    rfl
def rowsOf (l : List Nat) (c : List (Nat × Nat) × Nat) : List (List Nat) := (c.1.map fun r => (l.drop r.1).take r.2) ++ (l.drop c.2).map fun a => [a]
theorem rows_mk {l : List Nat} {c : List (Nat × Nat) × Nat} (h : ∀ r ∈ c.1, r.1 ≤ l.length) : c.1.map (rowS (mk l)) ++ signs (Txt.slice (mk l) (some ((c.2 : Nat) : Int)) none) = (rowsOf l c).map mk := by
  unfold rowsOf
  rw [List.map_append, List.map_map, List.map_map, rest_mk]
  congr 1
  apply List.map_congr_left
  intro r hr
  exact row_mk (h r hr)
/-! the six rows of sizes -/
def sizesOf : List (List Int) := [[16], [127, 16, 0], [1, 2, 0], [2, 1, 3, 1, 3, 1, 3], [4, 1, 1, 1, 5, 127, 0], [8, 1, 0]]
def startsOf : List (List Nat) := [[0], [0, 1, 2, 3, 4, 5, 6, 7, 8, 9, 10, 11, 12, 13, 14, 15], [0, 1, 3, 5, 7, 9, 11, 13, 15], [0, 2, 3, 6, 7, 10, 11, 14, 15], [0, 4, 5, 6, 7, 12, 13, 14, 15], [0, 8, 9, 10, 11, 12, 13, 14, 15]]
def cutsOf : List (List (Nat × Nat) × Nat) := [([(0, 16)], 16), ([], 0), ([(0, 1), (1, 2), (3, 2), (5, 2), (7, 2), (9, 2), (11, 2), (13, 2), (15, 2)], 17), ([(0, 2), (2, 1), (3, 3), (6, 1), (7, 3), (10, 1), (11, 3)], 14), ([(0, 4), (4, 1), (5, 1), (6, 1), (7, 5)], 12), ([(0, 8), (8, 1), (9, 1), (10, 1), (11, 1), (12, 1), (13, 1), (14, 1), (15, 1)], 16)]
def bit (o : Nat → Int) (p : Nat) : Nat := if o p = 1 then 1 else 0
def gval (o : Nat → Int) (j : Nat) : Nat := ((startsOf.getD j []).map (bit o)).sum
theorem cut_fin : ∀ j, j < 6 → ∀ i, i ≤ 16 → (i = 16 ∨ tells (sizesOf.getD j []) 0 i = none) → cutS (sizesOf.getD j []) i = cutsOf.getD j ([], 0) := by
  have key : ∀ j : Fin 6, ∀ i : Fin 17, (i.val = 16 ∨ tells (sizesOf.getD j.val []) 0 i.val = none) → cutS (sizesOf.getD j.val []) i.val = cutsOf.getD j.val ([], 0) := by decide +kernel
  intro j hj i hi h
  exact key ⟨j, hj⟩ ⟨i, by omega⟩ h
theorem six_pos : ∀ j, j < 6 → ∀ i, i < 16 → 0 ≤ (tells (sizesOf.getD j []) 0 i).getD 0 := by
  have key : ∀ j : Fin 6, ∀ i : Fin 16, 0 ≤ (tells (sizesOf.getD j.val []) 0 i.val).getD 0 := by decide +kernel
  intro j hj i hi
  exact key ⟨j, hj⟩ ⟨i, hi⟩
theorem six_first : ∀ j, j < 6 → (sizesOf.getD j []).getD 0 1 ≠ 0 := by
  have key : ∀ j : Fin 6, (sizesOf.getD j.val []).getD 0 1 ≠ 0 := by decide
  intro j hj
  exact key ⟨j, hj⟩
theorem six_le : ∀ j, j < 6 → ∀ r ∈ (cutsOf.getD j ([], 0)).1, r.1 ≤ 16 := by
  have key : ∀ j : Fin 6, ∀ r ∈ (cutsOf.getD j.val ([], 0)).1, r.1 ≤ 16 := by decide
  intro j hj
  exact key ⟨j, hj⟩
/-- the word's signs -/
def wordL (o : Nat → Int) : List Nat := (List.range 16).map (sign o)
theorem word_mk (o : Nat → Int) : wordOf o = mk (wordL o) := rfl
theorem sign_ne (o : Nat → Int) (i : Nat) : sign o i ≠ 10 ∧ sign o i ≠ 13 := by
  unfold sign
  split <;> omega
theorem sign_dot (o : Nat → Int) (i : Nat) (hi : i < 16) : (if (some (sign o i)) = some 46 then 1 else 0) = bit o i := by
  unfold sign bit
  by_cases h : o i = 1
  · simp [h]
  · rw [if_neg h, if_neg h]
    rw [if_neg]
    simp
    omega
theorem six_flat (o : Nat → Int) : ∀ j, j < 6 → (rowsOf (wordL o) (cutsOf.getD j ([], 0))).flatten = wordL o ∧ rowsOf (wordL o) (cutsOf.getD j ([], 0)) ≠ []
  | 0, _ => ⟨rfl, by simp [rowsOf, cutsOf]⟩
  | 1, _ => ⟨rfl, by simp [rowsOf, cutsOf, wordL]⟩
  | 2, _ => ⟨rfl, by simp [rowsOf, cutsOf]⟩
  | 3, _ => ⟨rfl, by simp [rowsOf, cutsOf]⟩
  | 4, _ => ⟨rfl, by simp [rowsOf, cutsOf]⟩
  | 5, _ => ⟨rfl, by simp [rowsOf, cutsOf]⟩
  | n + 6, h => absurd h (by omega)
theorem six_full (o : Nat → Int) : ∀ j, j < 6 → ∀ r ∈ rowsOf (wordL o) (cutsOf.getD j ([], 0)), r ≠ [] := by
  intro j hj r hr
  have key : ∀ j, j < 6 → ((rowsOf (wordL o) (cutsOf.getD j ([], 0))).map List.length).all (fun n => 0 < n) = true
    | 0, _ => rfl
    | 1, _ => rfl
    | 2, _ => rfl
    | 3, _ => rfl
    | 4, _ => rfl
    | 5, _ => rfl
    | n + 6, h => absurd h (by omega)
  have := List.all_eq_true.mp (key j hj) r.length (List.mem_map.mpr ⟨r, hr, rfl⟩)
  intro e
  subst e
  simp at this
theorem six_clean (o : Nat → Int) (j : Nat) (hj : j < 6) : Clean (rowsOf (wordL o) (cutsOf.getD j ([], 0))) := by
  intro r hr
  have hm : ∀ c ∈ r, ∃ i, c = sign o i := by
    intro c hc
    have : c ∈ (rowsOf (wordL o) (cutsOf.getD j ([], 0))).flatten := List.mem_flatten.mpr ⟨r, hr, hc⟩
    rw [(six_flat o j hj).1] at this
    obtain ⟨i, _, rfl⟩ := List.mem_map.mp this
    exact ⟨i, rfl⟩
  refine ⟨six_full o j hj r hr, fun h => ?_, fun h => ?_⟩
  · obtain ⟨i, e⟩ := hm _ h
    exact (sign_ne o i).1 e.symm
  · obtain ⟨i, e⟩ := hm _ h
    exact (sign_ne o i).2 e.symm
theorem six_dots (o : Nat → Int) : ∀ j, j < 6 → dots (rowsOf (wordL o) (cutsOf.getD j ([], 0))) = gval o j := by
  have key : ∀ j, j < 6 → (rowsOf (wordL o) (cutsOf.getD j ([], 0))).map List.head? = (startsOf.getD j []).map fun i => some (sign o i)
    | 0, _ => rfl
    | 1, _ => rfl
    | 2, _ => rfl
    | 3, _ => rfl
    | 4, _ => rfl
    | 5, _ => rfl
    | n + 6, h => absurd h (by omega)
  have lt : ∀ j : Fin 6, ∀ i ∈ startsOf.getD j.val [], i < 16 := by decide
  intro j hj
  unfold dots gval
  have e : (rowsOf (wordL o) (cutsOf.getD j ([], 0))).map (fun r => if r.head? = some 46 then 1 else 0) = ((rowsOf (wordL o) (cutsOf.getD j ([], 0))).map List.head?).map (fun h => if h = some 46 then 1 else 0) := by
    rw [List.map_map]; rfl
  rw [e, key j hj, List.map_map]
  congr 1
  apply List.map_congr_left
  intro i hi
  exact sign_dot o i (lt ⟨j, hj⟩ i hi)
section
variable {w : World} {A : Around} {s : Shared}
/-- _law_grown at the six rows of sizes -/
theorem grown6 {R : Result → Shared → Prop} {o : Nat → Int} {t : Tok} {K j : Nat} (hj : j < 6) (G : Gr w s.heap) (ro : Room A 3 20) (hK : IsKs s.heap K (sizesOf.getD j [])) (hb : AllBare s.gens)
    (post : ∀ h' g' tk tok, Keep s.heap h' → AllBare g' → R (.ok (.ret (.int (((gval o j : Nat) : Int)) tok))) { s with heap := h', gens := g', toks := tk }) :
    codeAny (model prg w) A (.call (.ref 72) ⟨[.str (wordOf o) t, .ref K], []⟩) R s := by
  have rows : ∀ i, i ≤ 16 → (i = 16 ∨ tells (sizesOf.getD j []) 0 i = none) → (cutS (sizesOf.getD j []) i).1.map (rowS (wordOf o)) ++ signs (Txt.slice (wordOf o) (some (((cutS (sizesOf.getD j []) i).2 : Nat) : Int)) none) = (rowsOf (wordL o) (cutsOf.getD j ([], 0))).map mk := by
    intro i hi h
    rw [cut_fin j hj i hi h, word_mk]
    exact rows_mk fun r hr => Nat.le_trans (six_le j hj r hr) (by simp [wordL])
  have hg := grown_rows (six_clean o j hj) (six_flat o j hj).2 (by rw [(six_flat o j hj).1]; simp [wordL])
  rw [(six_flat o j hj).1, six_dots o j hj] at hg
  have page : ∀ i, i ≤ 16 → (i = 16 ∨ tells (sizesOf.getD j []) 0 i = none) → pageOf (wordOf o) (sizesOf.getD j []) i = mk (joinL [10] (rowsOf (wordL o) (cutsOf.getD j ([], 0)))) := by
    intro i hi h
    unfold pageOf
    rw [rows i hi h, txt_join, feed_mk]
    rfl
  refine grown_call G ro (by simp [wordOf, PySem.Str.length]) hK hb (six_pos j hj) (six_first j hj) ?_ ?_ ?_
  · intro i hi h
    rw [rows i hi h]
    refine joinOk_of_weight ?_ (by decide +kernel)
    rw [sum_len, List.length_map]
    have := rows_le (six_full o j hj)
    have e : (rowsOf (wordL o) (cutsOf.getD j ([], 0))).flatten.length = 16 := by rw [(six_flat o j hj).1]; simp [wordL]
    omega
  · intro i hi h
    rw [page i hi h]
    exact hg.1
  · intro i h' g' tk tok hi h hk hbb
    rw [page i hi h, hg.2]
    exact post h' g' tk tok hk hbb
end
end Mine
end

section
open PySem PySem.W PySem.Builtin PyProof.Rows PySem.Calls
set_option maxRecDepth 100000
set_option maxHeartbeats 4000000
namespace Mine
/-- all but the law's own frame is kept -/
abbrev KeepB (L : Nat) (h h' : Heap) : Prop := ∀ (b : Nat) o, (b < L ∨ L + 4 < b) → h.get? b = some o → h'.get? b = some o
theorem KeepB.of_keep {L : Nat} {h h' : Heap} (k : Keep h h') : KeepB L h h' := fun b o _ e => k b o e
theorem KeepB.of_same {L a : Nat} {h h' : Heap} (sb : Heap.SameBut a h h') (h1 : L ≤ a) (h2 : a ≤ L + 4) : KeepB L h h' := fun b o hb e => sb.extBut b o (by show b ≠ a; omega) e
theorem KeepB.trans {L : Nat} {a b c : Heap} (x : KeepB L a b) (y : KeepB L b c) : KeepB L a c := fun p o hp e => y p o hp (x p o hp e)
/-- the law's frame -/
structure LS (h₀ : Heap) (L : Nat) (h : Heap) (m : PySem.Str → Option Value) (v1 v2 v3 v4 : Option Value) : Prop where
  size : h₀.objs.size = L
  old : Keep h₀ h
  ns : h.Ns L m
  k1 : h.IsCell (L + 1) v1
  k2 : h.IsCell (L + 2) v2
  k3 : h.IsCell (L + 3) v3
  k4 : h.IsCell (L + 4) v4
namespace LS
variable {h₀ h h' : Heap} {L : Nat} {m m' : PySem.Str → Option Value} {v1 v2 v3 v4 : Option Value}
theorem keeps (x : LS h₀ L h m v1 v2 v3 v4) (k : Keep h h') : LS h₀ L h' m v1 v2 v3 v4 :=
  ⟨x.size, Keep.trans x.old k, x.ns.keeps k, x.k1.keeps k, x.k2.keeps k, x.k3.keeps k, x.k4.keeps k⟩
theorem oldOf (x : LS h₀ L h m v1 v2 v3 v4) (k : KeepB L h h') : Keep h₀ h' := fun b o e => k b o (.inl (by have q : @LT.lt Nat _ b h₀.objs.size := Heap.lt_size e; have := x.size; show @LT.lt Nat _ b L; omega)) (x.old b o e)
theorem loc (x : LS h₀ L h m v1 v2 v3 v4) (n : h'.Ns L m') (sb : Heap.SameBut L h h') : LS h₀ L h' m' v1 v2 v3 v4 :=
  ⟨x.size, x.oldOf (.of_same sb (Nat.le_refl _) (Nat.le_add_right _ _)), n, OS.cellAt sb x.k1 (by show L + 1 ≠ L; omega), OS.cellAt sb x.k2 (by show L + 2 ≠ L; omega), OS.cellAt sb x.k3 (by show L + 3 ≠ L; omega), OS.cellAt sb x.k4 (by show L + 4 ≠ L; omega)⟩
theorem set1 (x : LS h₀ L h m v1 v2 v3 v4) {v : Option Value} (c : h'.IsCell (L + 1) v) (sb : Heap.SameBut (L + 1) h h') : LS h₀ L h' m v v2 v3 v4 :=
  ⟨x.size, x.oldOf (.of_same sb (by omega) (by omega)), x.ns.sameBut sb (by show L ≠ L + 1; omega), c, OS.cellAt sb x.k2 (by show L + 2 ≠ L + 1; omega), OS.cellAt sb x.k3 (by show L + 3 ≠ L + 1; omega), OS.cellAt sb x.k4 (by show L + 4 ≠ L + 1; omega)⟩
theorem set2 (x : LS h₀ L h m v1 v2 v3 v4) {v : Option Value} (c : h'.IsCell (L + 2) v) (sb : Heap.SameBut (L + 2) h h') : LS h₀ L h' m v1 v v3 v4 :=
  ⟨x.size, x.oldOf (.of_same sb (by omega) (by omega)), x.ns.sameBut sb (by show L ≠ L + 2; omega), OS.cellAt sb x.k1 (by show L + 1 ≠ L + 2; omega), c, OS.cellAt sb x.k3 (by show L + 3 ≠ L + 2; omega), OS.cellAt sb x.k4 (by show L + 4 ≠ L + 2; omega)⟩
theorem set3 (x : LS h₀ L h m v1 v2 v3 v4) {v : Option Value} (c : h'.IsCell (L + 3) v) (sb : Heap.SameBut (L + 3) h h') : LS h₀ L h' m v1 v2 v v4 :=
  ⟨x.size, x.oldOf (.of_same sb (by omega) (by omega)), x.ns.sameBut sb (by show L ≠ L + 3; omega), OS.cellAt sb x.k1 (by show L + 1 ≠ L + 3; omega), OS.cellAt sb x.k2 (by show L + 2 ≠ L + 3; omega), c, OS.cellAt sb x.k4 (by show L + 4 ≠ L + 3; omega)⟩
theorem set4 (x : LS h₀ L h m v1 v2 v3 v4) {v : Option Value} (c : h'.IsCell (L + 4) v) (sb : Heap.SameBut (L + 4) h h') : LS h₀ L h' m v1 v2 v3 v :=
  ⟨x.size, x.oldOf (.of_same sb (by omega) (by omega)), x.ns.sameBut sb (by show L ≠ L + 4; omega), OS.cellAt sb x.k1 (by show L + 1 ≠ L + 4; omega), OS.cellAt sb x.k2 (by show L + 2 ≠ L + 4; omega), OS.cellAt sb x.k3 (by show L + 3 ≠ L + 4; omega), c⟩
/-- a new object lies outside of the frame -/
theorem out (x : LS h₀ L h m v1 v2 v3 v4) {D : Nat} (n : h.get? D = none) : D < L ∨ L + 4 < D := by
  obtain ⟨o, _, _, e, _⟩ := x.ns
  obtain ⟨o1, e1, _⟩ := x.k1
  obtain ⟨o2, e2, _⟩ := x.k2
  obtain ⟨o3, e3, _⟩ := x.k3
  obtain ⟨o4, e4, _⟩ := x.k4
  have := neN n e; have := neN n e1; have := neN n e2; have := neN n e3; have := neN n e4
  omega
/-- another object changes -/
theorem other (x : LS h₀ L h m v1 v2 v3 v4) {D : Nat} (n : D < L ∨ L + 4 < D) (n0 : h₀.get? D = none) (hk : ∀ (b : Nat) o, b ≠ D → h.get? b = some o → h'.get? b = some o) : LS h₀ L h' m v1 v2 v3 v4 := by
  obtain ⟨o, es, ep, e, r⟩ := x.ns
  obtain ⟨o1, e1, d1⟩ := x.k1
  obtain ⟨o2, e2, d2⟩ := x.k2
  obtain ⟨o3, e3, d3⟩ := x.k3
  obtain ⟨o4, e4, d4⟩ := x.k4
  exact ⟨x.size, fun b o e => hk b o (neN n0 e) (x.old b o e), ⟨o, es, ep, hk _ _ (by omega) e, r⟩, ⟨o1, hk _ _ (by omega) e1, d1⟩, ⟨o2, hk _ _ (by omega) e2, d2⟩, ⟨o3, hk _ _ (by omega) e3, d3⟩, ⟨o4, hk _ _ (by omega) e4, d4⟩⟩
end LS
theorem IntList.keepB {h h' : Heap} {L D n : Nat} {f : Nat → Int} (x : IntList h D n f) (k : KeepB L h h') (n0 : D < L ∨ L + 4 < D) : IntList h' D n f := by
  obtain ⟨items, ⟨o, e, r⟩, y⟩ := x
  exact ⟨items, ⟨o, k _ _ n0 e, r⟩, y⟩
def listsOf : List PySem.Expr → Option (List (List Int))
  | [] => some []
  | .List es _ :: r => (intsOf es).bind fun k => (listsOf r).map (k :: ·)
  | _ :: _ => none
section
variable {w : World} {A : Around} {E : Value → Shared → Prop} {env : Env}
theorem IsKs.keeps {h h' : Heap} {K : Nat} {ks : List Int} (x : IsKs h K ks) (k : Keep h h') : IsKs h' K ks := by
  obtain ⟨items, hl, r⟩ := x
  exact ⟨items, hl.at fun o e => k _ _ e, r⟩
/-- a display of displays of written ints -/
theorem args_lists {pos : Pos} : ∀ (es : List PySem.Expr) (kss : List (List Int)) {s : Shared} {Q : List Value → Shared → Prop}, listsOf es = some kss → (∀ k ∈ kss, k.length ≤ 100) →
    (∀ vs h' tk, Keep s.heap h' → vs.length = kss.length → (∀ j, j < kss.length → ∃ K : Nat, vs[j]? = some (.ref K) ∧ IsKs h' K (kss.getD j []) ∧ s.heap.get? K = none) → Q vs { s with heap := h', toks := tk }) →
    wpAny (model prg w) A (spliced (backTo pos (starEach es env))) Q E s
  | [], kss, s, Q, e, _, h => by
    cases e
    exact args_nil (h [] s.heap s.toks (Keep.refl _) rfl fun i hi => absurd hi (Nat.not_lt_zero _))
  | x :: es, kss, s, Q, e, hs, h => by
    unfold listsOf at e
    split at e
    · rename_i he; cases he
    · rename_i fs p es' he
      cases he
      cases hq : intsOf fs with
      | none => rw [hq] at e; cases e
      | some k =>
        rw [hq] at e
        cases hq' : listsOf es with
        | none => rw [hq'] at e; cases e
        | some kss' =>
          rw [hq'] at e
          cases e
          refine args_cons ?_
          refine List_ ?_
          refine args_ints hq ?_
          intro us tk₁ hul hui
          refine new_list (by rw [hul]; exact Nat.le_trans (hs k (by simp)) (by decide)) fun h₁ K k₁ nK eK => ?_
          dsimp only at k₁ nK ⊢
          refine args_lists es kss' hq' (fun k hk => hs k (by simp [hk])) ?_
          intro vs h₂ tk₂ k₂ hvl hvs
          refine h (.ref K :: vs) h₂ tk₂ (Keep.trans k₁ k₂) (by simp [hvl]) fun j hj => ?_
          cases j with
          | zero =>
            refine ⟨K, rfl, ⟨us.toArray, ⟨_, k₂ _ _ eK, rfl, _, rfl⟩, by simpa using hul, fun i hi => ?_⟩, nK⟩
            obtain ⟨t, e⟩ := hui i hi
            exact ⟨t, by simpa using e⟩
          | succ j =>
            obtain ⟨K', e1, e2, e3⟩ := hvs j (by simpa using hj)
            exact ⟨K', by simpa using e1, by simpa using e2, none_of k₁ e3⟩
    · cases e
/-- two lists of ints are not alike -/
theorem ne_ints {s : Shared} {a b n : Nat} {f g : Nat → Int} {Q : Value → Shared → Prop} (ha : IntList s.heap a n f) (hb : IntList s.heap b n g) (hu : A.units < cLine) (h : Q (.bool (!(List.range n).all fun j => f j == g j)) s) :
    wpAny (model prg w) A (compareOp .NotEq (.ref a) (.ref b)) Q E s := by
  obtain ⟨xs, hx, sx, ix⟩ := ha
  obtain ⟨ys, hy, sy, iy⟩ := hb
  refine PySem.SeqAt.RcNeAt.lists (e := fun j => f j == g j) hx hy (sx.trans sy.symm) hu ?_ prg w E Q ?_
  · intro j h1 h2
    obtain ⟨t, e1⟩ := ix j (by omega)
    obtain ⟨u, e2⟩ := iy j (by omega)
    rw [Array.getElem?_eq_getElem h1] at e1
    rw [Array.getElem?_eq_getElem h2] at e2
    cases e1' : xs[j]
    all_goals first
      | (rw [e1'] at e1; cases e1; cases e2' : ys[j]
         all_goals first
           | (rw [e2'] at e2; cases e2; exact PySem.SeqAt.EqAt.int_int _ _ _ _)
           | (rw [e2'] at e2; cases e2))
      | (rw [e1'] at e1; cases e1)
  · rw [sx]; exact h
end
end Mine
end

section
open PySem PySem.W PySem.Builtin PyProof.Rows PySem.Calls
set_option maxRecDepth 100000
set_option maxHeartbeats 4000000
namespace Mine
noncomputable def lTurn (P : Params) : List Stmt := match (fdAt P 87).body with
  | .stmts [_, .For _ _ b _ _, _] => b
  | _ => []
noncomputable def lTarget (P : Params) : PySem.Expr := match (fdAt P 87).body with
  | .stmts [_, .For t _ _ _ _, _] => t
  | _ => .Name "" ⟨0, 0, 0, 0⟩
/-- the places that differ -/
def turnedOf (o u : Nat → Int) : List Nat := (List.range 16).filter fun i => u i != o i
def toldOf (u : Nat → Int) (j : Nat) : Int := ((gval u (j + 2) : Int) - (gval u 0 : Int)).fmod 2
def foundOf (u : Nat → Int) : Int := toldOf u 0 + 2 * toldOf u 1 + 4 * toldOf u 2 + 8 * toldOf u 3
structure PlainOk (o u : Nat → Int) : Prop where
  odd : (gval u 1 : Int).fmod 2 = 1 → ∀ j, j < 16 → about u (foundOf u) j = o j
  none : (gval u 1 : Int).fmod 2 ≠ 1 → foundOf u = 0 → ∀ j, j < 16 → u j = o j
  two : (gval u 1 : Int).fmod 2 ≠ 1 → foundOf u ≠ 0 → (turnedOf o u).length = 2 ∧ ∀ j, j < 4 → toldOf u j = ((((turnedOf o u).getD 0 0 : Nat) : Int).fdiv ((bits.getD j 0 : Nat) : Int) + (((turnedOf o u).getD 1 0 : Nat) : Int).fdiv ((bits.getD j 0 : Nat) : Int)).fmod 2
theorem pre_turned {o u : Nat → Int} : ∀ {n : Nat} {ys : List Value}, Pre (fun i => u i != o i) (fun i y => ∃ t, y = .int (i : Int) t) n ys → ys.length = ((List.range n).filter fun i => u i != o i).length ∧ ∀ i, i < ys.length → ∃ t, ys[i]? = some (.int (((((List.range n).filter fun i => u i != o i).getD i 0 : Nat)) : Int) t)
  | 0, ys, h => by subst h; exact ⟨rfl, fun i hi => absurd hi (Nat.not_lt_zero _)⟩
  | n + 1, ys, h => by
    unfold Pre at h
    split at h
    · rename_i q
      obtain ⟨r, y, h1, ⟨t, rfl⟩, rfl⟩ := h
      obtain ⟨e1, e2⟩ := pre_turned h1
      rw [List.range_succ, List.filter_append]
      have q' : ([n].filter fun i => u i != o i) = [n] := by simp only [List.filter_cons, q, if_true, List.filter_nil]
      rw [q']
      refine ⟨by simp [e1], fun i hi => ?_⟩
      simp only [List.length_append, List.length_singleton] at hi
      rcases Nat.lt_or_ge i r.length with hlt | hge
      · obtain ⟨t', e⟩ := e2 i hlt
        refine ⟨t', ?_⟩
        rw [List.getElem?_append_left hlt, e, List.getD_eq_getElem?_getD, List.getD_eq_getElem?_getD, List.getElem?_append_left (by omega)]
      · obtain rfl : i = r.length := by omega
        refine ⟨t, ?_⟩
        rw [List.getElem?_append_right (Nat.le_refl _), List.getD_eq_getElem?_getD, e1, List.getElem?_append_right (Nat.le_refl _)]
        simp
    · rename_i q
      obtain ⟨e1, e2⟩ := pre_turned h
      rw [List.range_succ, List.filter_append]
      have q' : ([n].filter fun i => u i != o i) = [] := by simp only [List.filter_cons, q, List.filter_nil]; rfl
      rw [q', List.append_nil]
      exact ⟨e1, e2⟩
theorem LS.locK {h₀ h h' : Heap} {L : Nat} {m m' : PySem.Str → Option Value} {v1 v2 v3 v4 : Option Value} (x : LS h₀ L h m v1 v2 v3 v4) (n : h'.Ns L m') (hk : ∀ (b : Nat) o, b ≠ L → h.get? b = some o → h'.get? b = some o) : LS h₀ L h' m' v1 v2 v3 v4 := by
  obtain ⟨o1, e1, d1⟩ := x.k1
  obtain ⟨o2, e2, d2⟩ := x.k2
  obtain ⟨o3, e3, d3⟩ := x.k3
  obtain ⟨o4, e4, d4⟩ := x.k4
  exact ⟨x.size, x.oldOf fun b o hb e => hk b o (by omega) e, n, ⟨o1, hk _ _ (by omega) e1, d1⟩, ⟨o2, hk _ _ (by omega) e2, d2⟩, ⟨o3, hk _ _ (by omega) e3, d3⟩, ⟨o4, hk _ _ (by omega) e4, d4⟩⟩
theorem all_false {n : Nat} {f g : Nat → Int} (h : ∀ j, j < n → f j = g j) : (!(List.range n).all fun j => f j == g j) = false := by
  rw [Bool.not_eq_false', List.all_eq_true]
  intro j hj
  rw [beq_iff_eq]
  exact h j (List.mem_range.mp hj)
theorem noneB {L X : Nat} {h h' : Heap} (k : KeepB L h h') (o : X < L ∨ L + 4 < X) (n : h'.get? X = none) : h.get? X = none := by
  cases e : h.get? X with
  | none => rfl
  | some v => rw [k _ _ o e] at n; cases n
theorem IntList.ne {h : Heap} {D n X : Nat} {f : Nat → Int} (x : IntList h D n f) (n0 : h.get? X = none) : D ≠ X := by
  obtain ⟨items, ⟨o, e, _⟩, _⟩ := x
  exact neN n0 e
theorem IntList.at {h h' : Heap} {D n : Nat} {f : Nat → Int} (x : IntList h D n f) (k : ∀ o, h.get? D = some o → h'.get? D = some o) : IntList h' D n f := by
  obtain ⟨items, ⟨o, e, r⟩, y⟩ := x
  exact ⟨items, ⟨o, k o e, r⟩, y⟩
theorem IsKs.at {h h' : Heap} {K : Nat} {ks : List Int} (x : IsKs h K ks) (k : ∀ o, h.get? K = some o → h'.get? K = some o) : IsKs h' K ks := by
  obtain ⟨items, ⟨o, e, r⟩, y⟩ := x
  exact ⟨items, ⟨o, k o e, r⟩, y⟩
theorem arr_push {items : Array Value} {n : Nat} {f : Nat → Int} {t : Tok} (h : IntArr items n f) : IntArr (items.push (.int (f n) t)) (n + 1) f := by
  refine ⟨by rw [Array.size_push, h.1], fun i hi => ?_⟩
  rw [Array.getElem?_push, h.1]
  by_cases e : i = n
  · subst e
    exact ⟨t, by rw [if_pos rfl]⟩
  · rw [if_neg e]
    exact h.2 i (by omega)
section
variable {w : World} {A : Around} {E : Value → Shared → Prop} {s : Shared} {env : Env}
theorem ev_range2 {p1 p2 p3 p4 : Pos} {a b : Int} {Q : Value → Shared → Prop} (G : Gr w s.heap)
    (h : ∀ h₁ tk₁ (r : Nat) t u v, Keep s.heap h₁ → IsRange h₁ r a b 1 t u v → Q (.ref r) { s with heap := h₁, toks := tk₁ })
    (hg : env.globals = mainGlobals := by rfl) (hbu : env.builtins = builtinsNs := by rfl) (hk : env.scope.kind = .function := by rfl) (hx : env.kindOf "range" = some .globalImplicit := by rfl) :
    wpAny (model prg w) A (eval (.Call (.Name "range" p1) [.Constant (.int a) 0 p2, .Constant (.int b) 0 p3] [] p4) env) Q E s := by
  refine Call_ ?_
  refine ldB (v := .type "range") G (by rfl) (by decide +kernel) ?_ (by decide) hg hbu hk hx
  refine PyProof.Rows.callWith_type1 ?_
  refine args_cons (wpAny_Constant_int (args_cons (wpAny_Constant_int (args_nil ?_))))
  refine call_range_2 ?_
  exact h _ _ _ _ _ _ (fun _ _ e => Heap.get?_push_of_some _ e) (IsRange.new ..)
theorem src_ints {n : Nat} {g : Nat → Int} {iter : PySem.Expr} (hh : A.handled = none)
    (hev : ∀ Q' : Value → Shared → Prop, (∀ h₁ tk₁ (D : Nat) items, Keep s.heap h₁ → h₁.IsTuple D items → items.size = n → (∀ i, i < n → ∃ t, items[i]? = some (.int (g i) t)) → Q' (.ref D) { s with heap := h₁, toks := tk₁ }) → wpAny (model prg w) A (eval iter env) Q' E s) :
    Source w A E env iter n (fun i v => ∃ t, v = .int (g i) t) s := by
  intro Q' hQ
  refine hev _ fun h₁ tk₁ l items hk hl hn hi => ?_
  have hlt : @LT.lt Nat _ l h₁.objs.size := by obtain ⟨_, e, _⟩ := hl; exact Heap.lt_size e
  refine wpAny_pyIter_tuple hl ?_
  have up : Keep h₁ (h₁.push { cls := .type "tuple_iterator", data := .fields #[.ref l, .int 0 0] }) := fun _ _ e => Heap.get?_push_of_some _ e
  have W := Walks.tuple (prog := prg) (w := w) hh h₁.objs.size l (Nat.ne_of_lt hlt) items
  rw [hn] at W
  have W' : Walks prg w A h₁.objs.size [h₁.objs.size, l] [h₁.objs.size] n (fun i v => ∃ t, v = .int (g i) t) _ := walks_imp W fun i v hi' hv => by
    obtain ⟨t, e⟩ := hi i hi'
    rw [e] at hv
    cases hv
    exact ⟨t, rfl⟩
  refine hQ h₁.objs.size [h₁.objs.size, l] _ _ _ (Keep.trans hk up) W' ⟨⟨_, Heap.get?_push_size _ rfl, rfl, rfl⟩, by obtain ⟨o, e, r⟩ := hl; exact ⟨o, up _ _ e, r⟩⟩ (fun b hb => ?_) (none_of hk (Heap.get?_none_of_le (Nat.le_refl _))) ?_
  · show @LT.lt Nat _ b (h₁.push _).objs.size
    rw [Heap.size_push]
    simp only [List.mem_cons, List.not_mem_nil, or_false] at hb
    rcases hb with rfl | rfl
    · exact Nat.lt_succ_self _
    · exact Nat.lt_succ_of_lt hlt
  · show @LT.lt Nat _ h₁.objs.size (h₁.push _).objs.size
    rw [Heap.size_push]; exact Nat.lt_succ_self _
theorem turned_lt (o u : Nat → Int) (i : Nat) : (turnedOf o u).getD i 0 < 16 := by
  rw [List.getD_eq_getElem?_getD]
  cases e : (turnedOf o u)[i]? with
  | none => decide
  | some x =>
    have := List.mem_of_getElem? e
    exact List.mem_range.mp (List.mem_filter.mp this).1
theorem turn_law {Q : Flow → Shared → Prop} {h₀ : Heap} {L Nn n k : Nat} {f : Nat → Int} {t : Tok} {m : PySem.Str → Option Value} {v1 v2 v3 v4 : Option Value} (G : Gr w h₀) (ro : Room A 4 30) (S : LS h₀ L s.heap m v1 v2 v3 v4)
    (mn : m "numbers" = some (.ref Nn)) (ms : m "start" = some (.int ((k : Nat) : Int) t)) (il : IntList s.heap Nn n f) (hn : n ≤ 12) (hk : k + 2 < n) (nN : Nn < L ∨ L + 4 < Nn) (hb : AllBare s.gens)
    (plain : PlainOk (onesOf (f k)) (about (about (onesOf (f k)) ((f (k + 1)).fmod 17)) ((f (k + 2)).fmod 17)))
    (post : ∀ h' g' tk m' w1 w2 w3 w4, LS h₀ L h' m' w1 w2 w3 w4 → m' "numbers" = some (.ref Nn) → KeepB L s.heap h' → AllBare g' → Q .next { s with heap := h', gens := g', toks := tk }) :
    wpAny (model prg w) A (execs (lTurn w.params) (envAt w.params 87 L)) Q E s := by
  have G₀ := G.keeps S.old
  have ro1 : Room A 1 10 := ⟨by have := ro.depth; omega, by have := ro.units; omega, ro.calm⟩
  have ro3 : Room A 3 20 := ⟨by have := ro.depth; omega, by have := ro.units; omega, ro.calm⟩
  have hu : A.units < cLine := by have := ro.units; omega
  refine wpAny_execs_cons ?_
  refine wpAny_Assign_Name ?_
  refine Call_ ?_
  refine ldG (v := .ref 77) G₀ (by rfl) ?_
  refine fn_call ⟨_, _, rfl, rfl⟩ ?_
  refine args_cons ?_
  refine Subscript_ ?_
  refine ldL S.ns mn ?_
  refine ldL S.ns ms ?_
  refine item_int il (by omega) (by omega) fun t1 => ?_
  refine args_nil ?_
  refine ⟨G₀, ?_⟩
  refine wpAny_call ?_
  refine ones_call G₀ ro1 fun h₁ tk₁ D1 kp₁ il1 n1 => ?_
  dsimp only
  generalize ho : onesOf (f k) = o at *
  have S₁ := S.keeps kp₁
  refine wpAny_storeName_cell (c := L + 1) rfl rfl rfl S₁.k1 fun h₂ c₂ sb₂ => ?_
  have S₂ := S₁.set1 c₂ sb₂
  have kb₂ : KeepB L s.heap h₂ := .trans (.of_keep kp₁) (.of_same sb₂ (by omega) (by omega))
  have o1 := S.out n1
  have il1₂ : IntList h₂ D1 16 o := il1.keepB (.of_same sb₂ (by omega) (by omega)) o1
  have il₂ := il.keepB kb₂ nN
  have G₂ := G.keeps S₂.old
  clear S₁ c₂ sb₂ il1 kp₁ n1
  dsimp only
  refine wpAny_execs_cons ?_
  refine wpAny_Assign_Name ?_
  refine Call_ ?_
  refine ldG (v := .ref 82) G₂ (by rfl) ?_
  refine fn_call ⟨_, _, rfl, rfl⟩ ?_
  refine args_cons ?_
  refine Call_ ?_
  refine ldG (v := .ref 82) G₂ (by rfl) ?_
  refine fn_call ⟨_, _, rfl, rfl⟩ ?_
  refine args_cons ?_
  refine ldC S₂.k1 ?_
  refine args_cons ?_
  refine wpAny_BinOp ?_
  refine Subscript_ ?_
  refine ldL S₂.ns mn ?_
  refine wpAny_BinOp ?_
  refine ldL S₂.ns ms ?_
  refine cInt fun t2 tk2 => ?_
  refine PySem.P.add_int ?_
  rw [show ((k : Nat) : Int) + 1 = ((k + 1 : Nat) : Int) from by omega]
  refine item_int il₂ (by omega) (by omega) fun t3 => ?_
  refine cInt fun t4 tk4 => ?_
  refine mod_int' (by decide) ?_
  refine args_nil ?_
  refine ⟨G₂, ?_⟩
  refine wpAny_call ?_
  refine about_call G₂ ro1 il1₂ fun h₃ tk₃ D2 kp₃ il2 n2 => ?_
  dsimp only
  have S₃ := S₂.keeps kp₃
  have G₃ := G.keeps S₃.old
  refine args_cons ?_
  refine wpAny_BinOp ?_
  refine Subscript_ ?_
  refine ldL S₃.ns mn ?_
  refine wpAny_BinOp ?_
  refine ldL S₃.ns ms ?_
  refine cInt fun t5 tk5 => ?_
  refine PySem.P.add_int ?_
  rw [show ((k : Nat) : Int) + 2 = ((k + 2 : Nat) : Int) from by omega]
  refine item_int (il₂.keeps kp₃) (by omega) (by omega) fun t6 => ?_
  refine cInt fun t7 tk7 => ?_
  refine mod_int' (by decide) ?_
  refine args_nil ?_
  refine ⟨G₃, ?_⟩
  refine wpAny_call ?_
  refine about_call G₃ ro1 il2 fun h₄ tk₄ D3 kp₄ il3 n3 => ?_
  dsimp only
  generalize hu' : about (about o ((f (k + 1)).fmod 17)) ((f (k + 2)).fmod 17) = u at *
  have S₄ := S₃.keeps kp₄
  refine wpAny_storeName_cell (c := L + 2) rfl rfl rfl S₄.k2 fun h₅ c₅ sb₅ => ?_
  have S₅ := S₄.set2 c₅ sb₅
  have kb₅ : KeepB L h₂ h₅ := .trans (.of_keep (kp₃.trans kp₄)) (.of_same sb₅ (by omega) (by omega))
  have o3 := S₃.out n3
  have il3₅ : IntList h₅ D3 16 u := il3.keepB (.of_same sb₅ (by omega) (by omega)) o3
  have il1₅ := il1₂.keepB kb₅ o1
  have kbs₅ := kb₂.trans kb₅
  have G₅ := G.keeps S₅.old
  clear S₃ S₄ c₅ sb₅ il3 kp₄ n3 il2 n2 kp₃ G₃ G₂ il₂ il1₂ S₂ kb₅ kb₂
  dsimp only
  refine wpAny_execs_cons ?_
  refine wpAny_Assign_Name ?_
  refine comp_eval (n := 16) (P := fun i v => ∃ t, v = .int (0 + (i : Int)) t) (sel := fun i => u i != o i) (Y := fun i y => ∃ t, y = .int (i : Int) t) ?_ ?_ ?_
  · exact src_range ro.calm (fun Q' hQ => ev_range1 G₅ hQ) (by decide) (by decide)
  · rintro p v h tk C' m' hp ⟨t, rfl⟩ hkk hns hm E'
    have S₆ := S₅.keeps hkk
    rw [Int.zero_add] at hm
    dsimp only
    refine wpAny_tests_one ?_
    refine wpAny_isTrue_Compare1 ?_
    refine Subscript_ ?_
    refine ldC S₆.k2 ?_
    refine ldL hns hm ?_
    refine item_int (il3₅.keeps hkk) hp (by decide) fun t8 => ?_
    refine Subscript_ ?_
    refine ldC S₆.k1 ?_
    refine ldL hns hm ?_
    refine item_int (il1₅.keeps hkk) hp (by decide) fun t9 => ?_
    refine PySem.P.ne_int ?_
    refine wpAny_truthy_bool ?_
    refine ⟨rfl, ⟨_, _, rfl, Keep.refl _⟩, fun hb => ?_⟩
    dsimp only
    refine ldL hns hm ?_
    exact ⟨⟨_, rfl⟩, _, _, rfl, Keep.refl _⟩
  intro D4 h₆ tk₆ ys kp₆ hD4 hpre n4
  obtain ⟨yl, yi⟩ := pre_turned hpre
  have ilT : IntList h₆ D4 (turnedOf o u).length (fun i => (((turnedOf o u).getD i 0 : Nat) : Int)) := ⟨_, ⟨_, hD4, rfl, _, rfl⟩, by rw [List.size_toArray]; exact yl, fun i hi => by
    obtain ⟨t, e⟩ := yi i (by rw [yl]; exact hi)
    exact ⟨t, by rw [List.getElem?_toArray]; exact e⟩⟩
  dsimp only at kp₆ ⊢
  have S₆ := S₅.keeps kp₆
  refine wpAny_storeName_cell (c := L + 3) rfl rfl rfl S₆.k3 fun h₇ c₇ sb₇ => ?_
  have S₇ := S₆.set3 c₇ sb₇
  have kb₇ : KeepB L h₅ h₇ := .trans (.of_keep kp₆) (.of_same sb₇ (by omega) (by omega))
  have o4 := S₅.out n4
  have ilT₇ := ilT.keepB (.of_same (L := L) sb₇ (by omega) (by omega)) o4
  have il3₇ := il3₅.keepB kb₇ o3
  have il1₇ := il1₅.keepB kb₇ o1
  have kbs₇ := kbs₅.trans kb₇
  have G₇ := G.keeps S₇.old
  clear S₆ c₇ sb₇ ilT hpre yl yi hD4 kp₆ n4 S₅ il3₅ il1₅ kb₇ kbs₅ G₅
  dsimp only
  refine wpAny_execs_cons ?_
  refine wpAny_Assign_Name ?_
  refine Call_ ?_
  refine ldG (v := .ref 60) G₇ (by rfl) ?_
  refine fn_call ⟨_, _, rfl, rfl⟩ ?_
  refine args_cons ?_
  refine ldC S₇.k2 ?_
  refine args_nil ?_
  refine ⟨G₇, ?_⟩
  refine wpAny_call ?_
  refine word_call G₇ ro1 il3₇ fun h₈ tk₈ tw kp₈ => ?_
  dsimp only
  have S₈ := S₇.keeps kp₈
  refine wpAny_storeName_local (by rfl) S₈.ns fun h₉ ns₉ sb₉ => ?_
  have S₉ := S₈.loc ns₉ sb₉
  have kb₉ : KeepB L h₇ h₉ := .trans (.of_keep kp₈) (.of_same (a := L) sb₉ (by omega) (by omega))
  have ilT₉ := ilT₇.keepB kb₉ o4
  have il3₉ := il3₇.keepB kb₉ o3
  have il1₉ := il1₇.keepB kb₉ o1
  have kbs₉ := kbs₇.trans kb₉
  clear S₈ ns₉ sb₉ kp₈ S₇ ilT₇ il3₇ il1₇ kb₉ kbs₇ G₇
  dsimp only
  refine wpAny_execs_cons ?_
  refine wpAny_Assign_Name ?_
  refine List_ ?_
  refine args_nil ?_
  refine new_list (by decide) fun ha Dg kpa ng eg => ?_
  have Sa := S₉.keeps kpa
  have og := S₉.out ng
  refine wpAny_storeName_cell (c := L + 4) rfl rfl rfl Sa.k4 fun hc cc sbc => ?_
  have Sc := Sa.set4 cc sbc
  have kbc : KeepB L h₉ hc := .trans (.of_keep kpa) (.of_same sbc (by omega) (by omega))
  have ilTc := ilT₉.keepB kbc o4
  have il3c := il3₉.keepB kbc o3
  have il1c := il1₉.keepB kbc o1
  have kbsc := kbs₉.trans kbc
  have egc : hc.get? Dg = _ := sbc.extBut _ _ (by show Dg ≠ L + 4; omega) eg
  have ngN : h₀.get? Dg = none := none_of S₉.old ng
  have ngS : s.heap.get? Dg = none := noneB kbs₉ og ng
  have d1g := il1₉.ne ng
  have d3g := il3₉.ne ng
  have d4g := ilT₉.ne ng
  clear Sa cc sbc kpa ng eg S₉ ilT₉ il3₉ il1₉ kbc kbs₉
  dsimp only
  refine wpAny_execs_cons ?_
  refine wpAny_For ?_
  refine Tuple_ ?_
  refine @args_lists w _ _ _ _ _ sizesOf _ _ rfl (by decide) ?_
  intro vs hd tkd kpd hvl hvs
  refine new_tuple (by rw [hvl]; decide) fun he tp kpe nt et => ?_
  dsimp only at kpd kpe nt ⊢
  refine iter_tuple (items := vs.toArray) ⟨_, et, rfl, _, rfl⟩ ?_
  intro hf I kpf nI itI ltI
  dsimp only at kpf nI ⊢
  have kcf : Keep hc hf := kpd.trans (kpe.trans kpf)
  have Sf := Sc.keeps kcf
  have nIc : hc.get? I = none := none_of (kpd.trans kpe) nI
  have oI := Sc.out nIc
  have nI0 : h₀.get? I = none := none_of Sc.old nIc
  have neT : tp ≠ I := neN nI et
  have hsz : vs.toArray.size = 6 := by rw [List.size_toArray]; exact hvl
  have ntc : hc.get? tp = none := none_of kpd nt
  have oT := Sc.out ntc
  have neTD : tp ≠ Dg := Ne.symm (neN ntc egc)
  have neID : I ≠ Dg := Ne.symm (neN nIc egc)
  have nIS : s.heap.get? I = none := noneB kbsc oI nIc
  have d1I := il1c.ne nIc
  have d3I := il3c.ne nIc
  have d4I := ilTc.ne nIc
  refine @for_gen w _ _ _ _ _ _ I [I, tp] vs.toArray.size _ _ (Walks.tuple (A := A) ro.calm I tp neT vs.toArray)
    (fun i s' => ∃ h g tk m', s' = { s with heap := h, gens := g, toks := tk } ∧ LS h₀ L h m' (some (.ref D1)) (some (.ref D3)) (some (.ref D4)) (some (.ref Dg)) ∧ m' "numbers" = some (.ref Nn) ∧ m' "word" = some (.str (wordOf u) tw) ∧
      (∃ its nn, h.get? Dg = some { cls := .type "list", data := .seq its nn } ∧ IntArr its i (fun j => ((gval u j : Nat) : Int))) ∧ (∀ (b : Nat) o', (b < L ∨ L + 4 < b) → b ≠ Dg → b ≠ I → hf.get? b = some o' → h.get? b = some o') ∧ h.IsTupleIter I tp i ∧ h.IsTuple tp vs.toArray ∧ AllBare g)
    ?_ ?_ ?_ ?_ ?_
  · exact ⟨hf, _, _, _, rfl, Sf, mn, by rfl, ⟨_, _, kcf _ _ egc, rfl, fun i hi => absurd hi (Nat.not_lt_zero _)⟩, fun _ _ _ _ _ e => e, itI, ⟨_, kpf _ _ et, rfl, _, rfl⟩, hb⟩
  · rintro i s' ⟨h, g, tk, m', rfl, _, _, _, _, _, h1, h2, _⟩
    exact ⟨h1, h2⟩
  · rintro i s' v h' tk hi ⟨h, g, tk', m', rfl, S', mn', mw', ⟨its, nn, eD, ia⟩, kO, h1, h2, bare⟩ hv ⟨st1, st2⟩ hkI E''
    dsimp only at hkI ⊢
    rw [hsz] at hi
    obtain ⟨Kj, ev, ks, nK⟩ := hvs i hi
    have hv' : v = .ref Kj := by
      have e1 : vs[i]? = some v := by simpa using hv
      rw [ev] at e1
      cases e1
      rfl
    subst hv'
    have oK := Sc.out nK
    have kKD : Kj ≠ Dg := Ne.symm (neN nK egc)
    have kKI : Kj ≠ I := by
      obtain ⟨items, ⟨o', e, _⟩, _⟩ := ks
      exact neN nI (kpe _ _ e)
    have S2 := S'.other (h' := h') oI nI0 hkI
    refine wpAny_assign_Name ?_
    refine wpAny_storeName_local (by rfl) S2.ns fun h3 ns3 sb3 => ?_
    have S3 := S2.loc ns3 sb3
    have up3 : ∀ (b : Nat) o', (b < L ∨ L + 4 < b) → b ≠ I → h.get? b = some o' → h3.get? b = some o' := fun b o' hb hbI e => sb3.extBut _ _ (by show b ≠ L; omega) (hkI b o' hbI e)
    have eD3 := up3 _ _ og (Ne.symm neID) eD
    have it3 : h3.IsTupleIter I tp (i + 1) := by
      obtain ⟨o', e, r⟩ := st1
      exact ⟨o', sb3.extBut _ _ (by show I ≠ L; omega) e, r⟩
    have tt3 : h3.IsTuple tp vs.toArray := by
      obtain ⟨o', e, r⟩ := st2
      exact ⟨o', sb3.extBut _ _ (by show tp ≠ L; omega) e, r⟩
    have ks3 : IsKs h3 Kj (sizesOf.getD i []) := ks.at fun o' e => up3 _ _ oK kKI (kO _ _ oK kKD kKI (kpf _ _ (kpe _ _ e)))
    have kO3 : ∀ (b : Nat) o', (b < L ∨ L + 4 < b) → b ≠ Dg → b ≠ I → hf.get? b = some o' → h3.get? b = some o' := fun b o' q1 q2 q3 e => up3 b o' q1 q3 (kO b o' q1 q2 q3 e)
    have G3 := G.keeps S3.old
    clear S2 ns3 sb3 st1 st2 h1 h2 kO eD hkI S'
    dsimp only
    refine wpAny_execs_cons ?_
    refine wpAny_Expr_any ?_
    refine MethodCall_ ?_
    refine ldC S3.k4 ?_
    refine PySem.Calls.getMethod_list_append eD3 rfl rfl ?_
    refine callWith_method1 ?_
    refine args_cons ?_
    refine Call_ ?_
    refine ldG (v := .ref 72) G3 (by rfl) ?_
    refine fn_call ⟨_, _, rfl, rfl⟩ ?_
    refine args_cons ?_
    refine ldL S3.ns (v := .str (wordOf u) tw) mw' ?_
    refine args_cons ?_
    refine ldL S3.ns (v := .ref Kj) (by rfl) ?_
    refine args_nil ?_
    refine ⟨G3, ?_⟩
    refine wpAny_call ?_
    refine grown6 hi G3 ro3 ks3 bare fun h4 g4 tk4 t4 kp4 bare4 => ?_
    dsimp only at kp4 ⊢
    refine args_nil ?_
    refine append_at (hsz := by rw [ia.1, show sizeLine = 2 ^ 24 from rfl]; omega) (kp4 _ _ eD3) fun h5 sb5 eD5 => ?_
    dsimp only at sb5 ⊢
    have S5 := (S3.keeps kp4).other (h' := h5) og ngN (fun b o' hb e => sb5.extBut _ _ hb e)
    refine wpAny_execs_nil ?_
    refine ⟨h5, g4, _, _, rfl, S5, mn', mw', ⟨_, _, eD5, arr_push ia⟩, fun b o' q1 q2 q3 e => sb5.extBut _ _ q2 (kp4 _ _ (kO3 b o' q1 q2 q3 e)), ?_, ?_, bare4⟩
    · obtain ⟨o', e, r⟩ := it3
      exact ⟨o', sb5.extBut _ _ neID (kp4 _ _ e), r⟩
    · obtain ⟨o', e, r⟩ := tt3
      exact ⟨o', sb5.extBut _ _ neTD (kp4 _ _ e), r⟩
  · rintro s' h' tk ⟨h, g, tk', m', rfl, S', mn', mw', ⟨its, nn, eD, ia⟩, kO, h1, h2, bare⟩ hkI
    rw [hsz] at ia
    have Sx := S'.other (h' := h') oI nI0 hkI
    have kx : ∀ (b : Nat) o', (b < L ∨ L + 4 < b) → b ≠ Dg → b ≠ I → hf.get? b = some o' → h'.get? b = some o' := fun b o' q1 q2 q3 e => hkI b o' q3 (kO b o' q1 q2 q3 e)
    have eDx := hkI _ _ (Ne.symm neID) eD
    have ilg : IntList h' Dg 6 (fun j => ((gval u j : Nat) : Int)) := ⟨its, ⟨_, eDx, rfl, _, rfl⟩, ia⟩
    have il1x : IntList h' D1 16 o := (il1c.keeps kcf).at fun o' e => kx _ _ o1 d1g d1I e
    have il3x : IntList h' D3 16 u := (il3c.keeps kcf).at fun o' e => kx _ _ o3 d3g d3I e
    have ilTx := (ilTc.keeps kcf).at (h' := h') fun o' e => kx _ _ o4 d4g d4I e
    have kbx : KeepB L s.heap h' := fun b o' hb e => kx b o' hb (neN ngS e) (neN nIS e) (kcf _ _ (kbsc b o' hb e))
    have Gx := G.keeps Sx.old
    have orx := plain.odd
    have nox := plain.none
    have twx := plain.two
    clear kx eDx kO h1 h2 hkI S' ia eD il1c il3c ilTc
    clear kcf Sf kbsc egc Sc itI et nt kpd kpe kpf nI nIc ntc plain
    dsimp only
    generalize hAB : A = AB at *
    refine wpAny_execs_cons ?_
    refine wpAny_If ?_
    refine wpAny_isTrue_Compare1 ?_
    refine wpAny_of_eq (a := .none) (by rfl) ?_
    refine ldC Sx.k4 ?_
    obtain ⟨gits, gl, ga⟩ := id ilg
    refine PySem.SeqAt.in_listAt (fun _ => false) gl (fun y hy => ?_) ?_
    · obtain ⟨j, hj, rfl⟩ := Array.mem_iff_getElem.mp hy
      obtain ⟨t', e⟩ := ga.2 j (by rw [← ga.1]; exact hj)
      rw [Array.getElem?_eq_getElem hj] at e
      have e' := Option.some.inj e
      rw [e']
      exact PySem.SeqAt.EqAt.int_none _ _
    refine wpAny_truthy_bool ?_
    rw [show (gits.any fun _ => false) = false from by simp, if_neg Bool.false_ne_true]
    refine wpAny_execs_nil ?_
    dsimp only
    clear gits gl ga
    refine wpAny_execs_cons ?_
    have Fx : Fr h₀ L h' m' := ⟨Sx.ns, Sx.old, by rw [Sx.size]; exact Nat.le_refl _⟩
    refine comp_used (n := 4) (P := fun i v => ∃ t, v = .int (2 + (i : Int)) t) (sel := fun _ => true) (Y := fun i y => ∃ t, y = .int (toldOf u i) t) Fx ?_ ?_ ?_
    · exact src_range ro.calm (fun Q' hQ => ev_range2 Gx hQ) (by decide) (by decide)
    · rintro p v h tk C' mm hp ⟨t, rfl⟩ hkk hns hm E'
      have Sy := Sx.keeps hkk
      have ily := ilg.keeps hkk
      rw [show 2 + (p : Int) = ((p + 2 : Nat) : Int) from by omega] at hm
      refine wpAny_tests_nil ⟨rfl, ⟨_, _, rfl, Keep.refl _⟩, fun _ => ?_⟩
      dsimp only
      refine wpAny_BinOp ?_
      refine wpAny_BinOp ?_
      refine Subscript_ ?_
      refine ldC Sy.k4 ?_
      refine ldL hns hm ?_
      refine item_int ily (by omega) (by decide) fun t8 => ?_
      refine Subscript_ ?_
      refine ldC Sy.k4 ?_
      refine cInt fun t9 tk9 => ?_
      refine item_int (k := 0) ily (by omega) (by decide) fun ta => ?_
      refine PySem.P.sub_int ?_
      refine cInt fun tb tkb => ?_
      refine mod_int' (by decide) ?_
      exact ⟨⟨_, rfl⟩, _, _, rfl, Keep.refl _⟩
    intro Dt hg tkg ys Fg kpg hDt hpre nDt
    have ilt : IntList hg Dt 4 (toldOf u) := intList_of hDt hpre
    have oDt := Sx.out nDt
    have Sg := Sx.locK Fg.ns kpg
    have kbg : KeepB L h' hg := fun b o' hb e => kpg b o' (by show b ≠ L; omega) e
    have ilgg := ilg.keepB kbg og
    have il1g := il1x.keepB kbg o1
    have il3g := il3x.keepB kbg o3
    have ilTg := ilTx.keepB kbg o4
    have kbsg := kbx.trans kbg
    have mng : (fun z => if z = PySem.Str.ofString "told" then some (Value.ref Dt) else m' z) "numbers" = some (.ref Nn) := mn'
    clear Fg kpg hpre hDt nDt Fx Sx ilg il1x il3x ilTx kbx kbg
    dsimp only
    refine wpAny_execs_cons ?_
    refine wpAny_Assign_Name ?_
    refine wpAny_BinOp ?_
    refine wpAny_BinOp ?_
    refine wpAny_BinOp ?_
    refine Subscript_ ?_
    refine ldL Sg.ns (v := .ref Dt) (by rfl) ?_
    refine cInt fun ta tka => ?_
    refine item_int (k := 0) ilt (by decide) (by decide) fun tb => ?_
    refine wpAny_BinOp ?_
    refine cInt fun tc tkc => ?_
    refine Subscript_ ?_
    refine ldL Sg.ns (v := .ref Dt) (by rfl) ?_
    refine cInt fun td tkd => ?_
    refine item_int (k := 1) ilt (by decide) (by decide) fun te => ?_
    refine PySem.P.mul_int ?_
    refine PySem.P.add_int ?_
    refine wpAny_BinOp ?_
    refine cInt fun tc tkc => ?_
    refine Subscript_ ?_
    refine ldL Sg.ns (v := .ref Dt) (by rfl) ?_
    refine cInt fun td tkd => ?_
    refine item_int (k := 2) ilt (by decide) (by decide) fun te => ?_
    refine PySem.P.mul_int ?_
    refine PySem.P.add_int ?_
    refine wpAny_BinOp ?_
    refine cInt fun tc tkc => ?_
    refine Subscript_ ?_
    refine ldL Sg.ns (v := .ref Dt) (by rfl) ?_
    refine cInt fun td tkd => ?_
    refine item_int (k := 3) ilt (by decide) (by decide) fun te => ?_
    refine PySem.P.mul_int ?_
    refine PySem.P.add_int ?_
    refine wpAny_storeName_local (by rfl) Sg.ns fun hh nsh sbh => ?_
    have Sh := Sg.loc nsh sbh
    have kbh : KeepB L hg hh := .of_same (a := L) sbh (by omega) (by omega)
    have ilgh := ilgg.keepB kbh og
    have il1h := il1g.keepB kbh o1
    have il3h := il3g.keepB kbh o3
    have ilTh := ilTg.keepB kbh o4
    have ilth := ilt.keepB kbh oDt
    have kbsh := kbsg.trans kbh
    have Gh := G.keeps Sh.old
    clear Sg nsh sbh kbh ilgg il1g il3g ilTg ilt kbsg
    dsimp only
    refine wpAny_execs_cons ?_
    refine wpAny_If ?_
    refine wpAny_isTrue_Compare1 ?_
    refine wpAny_BinOp ?_
    refine Subscript_ ?_
    refine ldC Sh.k4 ?_
    refine cInt fun ta tka => ?_
    refine item_int (k := 1) ilgh (by decide) (by decide) fun tb => ?_
    refine cInt fun tc tkc => ?_
    refine mod_int' (by decide) ?_
    refine cInt fun td tkd => ?_
    refine PySem.P.eq_int ?_
    refine wpAny_truthy_bool ?_
    by_cases q1 : (gval u 1 : Int).fmod 2 = 1
    · rw [show ((gval u 1 : Int).fmod 2 == 1) = true from by simpa using q1, if_pos rfl]
      refine wpAny_execs_cons ?_
      refine wpAny_If ?_
      refine wpAny_isTrue_Compare1 ?_
      refine Call_ ?_
      refine ldG (v := .ref 82) Gh (by rfl) ?_
      refine fn_call ⟨_, _, rfl, rfl⟩ ?_
      refine args_cons ?_
      refine ldC Sh.k2 ?_
      refine args_cons ?_
      refine ldL Sh.ns (v := .int (foundOf u) _) (by rfl) ?_
      refine args_nil ?_
      refine ⟨Gh, ?_⟩
      refine wpAny_call ?_
      refine about_call Gh ro1 il3h fun hi tki Df kpi ilf nf => ?_
      dsimp only
      refine ldC (Sh.keeps kpi).k1 ?_
      refine ne_ints ilf (il1h.keeps kpi) hu ?_
      refine wpAny_truthy_bool ?_
      rw [all_false (orx q1), if_neg Bool.false_ne_true]
      refine wpAny_execs_nil ?_
      refine wpAny_execs_nil ?_
      refine wpAny_execs_nil ?_
      exact post _ g _ _ _ _ _ _ (Sh.keeps kpi) mng (kbsh.trans (.of_keep kpi)) bare
    · rw [show ((gval u 1 : Int).fmod 2 == 1) = false from by simpa using q1, if_neg Bool.false_ne_true]
      refine wpAny_execs_cons ?_
      refine wpAny_If ?_
      refine wpAny_isTrue_Compare1 ?_
      refine ldL Sh.ns (v := .int (foundOf u) _) (by rfl) ?_
      refine cInt fun ta tka => ?_
      refine PySem.P.eq_int ?_
      refine wpAny_truthy_bool ?_
      by_cases q2 : foundOf u = 0
      · rw [show (foundOf u == 0) = true from by simpa using q2, if_pos rfl]
        refine wpAny_execs_cons ?_
        refine wpAny_If ?_
        refine wpAny_isTrue_Compare1 ?_
        refine ldC Sh.k2 ?_
        refine ldC Sh.k1 ?_
        refine ne_ints il3h il1h hu ?_
        refine wpAny_truthy_bool ?_
        rw [all_false (nox q1 q2), if_neg Bool.false_ne_true]
        refine wpAny_execs_nil ?_
        refine wpAny_execs_nil ?_
        refine wpAny_execs_nil ?_
        refine wpAny_execs_nil ?_
        exact post _ g _ _ _ _ _ _ Sh mng kbsh bare
      · rw [show (foundOf u == 0) = false from by simpa using q2, if_neg Bool.false_ne_true]
        obtain ⟨two, tell⟩ := twx q1 q2
        rw [two] at ilTh
        refine wpAny_execs_cons ?_
        refine wpAny_If ?_
        refine wpAny_isTrue_Compare1 ?_
        refine Call_ ?_
        refine ldB (v := .builtin "len") Gh (by rfl) (by decide +kernel) ?_
        refine PyProof.Rows.callWith_builtin1 ?_
        refine args_cons ?_
        refine ldC Sh.k3 ?_
        refine args_nil ?_
        obtain ⟨tits, tl, ta⟩ := id ilTh
        refine call_len_list tl (by rw [ta.1]; decide) ?_
        rw [ta.1]
        refine cInt fun tc tkc => ?_
        refine PySem.P.ne_int ?_
        refine wpAny_truthy_bool ?_
        rw [show (((2 : Nat) : Int) != 2) = false from by decide, if_neg Bool.false_ne_true]
        refine wpAny_execs_cons ?_
        refine wpAny_If ?_
        refine wpAny_isTrue_Compare1 ?_
        refine ldL Sh.ns (v := .ref Dt) (by rfl) ?_
        refine comp_eval (n := 4) (P := fun i v => ∃ t, v = .int ((bits.getD i 0 : Nat) : Int) t) (sel := fun _ => true) (Y := fun i y => ∃ t, y = .int (((((turnedOf o u).getD 0 0 : Nat) : Int).fdiv ((bits.getD i 0 : Nat) : Int) + (((turnedOf o u).getD 1 0 : Nat) : Int).fdiv ((bits.getD i 0 : Nat) : Int)).fmod 2) t) ?_ ?_ ?_
        · refine src_ints ro.calm fun Q' hQ => ?_
          refine Tuple_ ?_
          refine @args_ints _ _ _ _ _ _ _ [1, 2, 4, 8] _ rfl ?_
          intro us tku hul hui
          refine new_tuple (by rw [hul]; decide) fun hj at₂ kpj nt₂ et₂ => ?_
          refine hQ hj _ at₂ us.toArray kpj ⟨_, et₂, rfl, _, rfl⟩ (by rw [List.size_toArray]; exact hul) fun i hi => ?_
          obtain ⟨t, e⟩ := hui i hi
          rw [bits_cast i hi] at e
          exact ⟨t, by rw [List.getElem?_toArray]; exact e⟩
        · rintro p v h tk C' mm hp ⟨t, rfl⟩ hkk hns hm E'
          have Sy := Sh.keeps hkk
          have ily := ilTh.keeps hkk
          have pb := bits_lt p hp
          have l0 := turned_lt o u 0
          have l1 := turned_lt o u 1
          refine wpAny_tests_nil ⟨rfl, ⟨_, _, rfl, Keep.refl _⟩, fun _ => ?_⟩
          dsimp only
          refine wpAny_BinOp ?_
          refine wpAny_BinOp ?_
          refine wpAny_BinOp ?_
          refine Subscript_ ?_
          refine ldC Sy.k3 ?_
          refine cInt fun t8 tk8 => ?_
          refine item_int (k := 0) ily (by decide) (by decide) fun t9 => ?_
          refine ldL hns hm ?_
          refine floordiv_int (by omega) ?_ (Or.inl (PyProof.noPylong_small (by omega)))
          refine wpAny_BinOp ?_
          refine Subscript_ ?_
          refine ldC Sy.k3 ?_
          refine cInt fun ta tka => ?_
          refine item_int (k := 1) ily (by decide) (by decide) fun tb => ?_
          refine ldL hns hm ?_
          refine floordiv_int (by omega) ?_ (Or.inl (PyProof.noPylong_small (by omega)))
          refine PySem.P.add_int ?_
          refine cInt fun tc tkc => ?_
          refine mod_int' (by decide) ?_
          exact ⟨⟨_, rfl⟩, _, _, rfl, Keep.refl _⟩
        intro De hl tkl ys kpl hDe hpre nDe
        have ile := intList_of hDe hpre
        refine ne_ints (ilth.keeps kpl) ile hu ?_
        refine wpAny_truthy_bool ?_
        rw [all_false tell, if_neg Bool.false_ne_true]
        refine wpAny_execs_nil ?_
        refine wpAny_execs_nil ?_
        refine wpAny_execs_nil ?_
        refine wpAny_execs_nil ?_
        refine wpAny_execs_nil ?_
        exact post _ g _ _ _ _ _ _ (Sh.keeps kpl) mng (kbsh.trans (.of_keep kpl)) bare
  · intro v; rfl
end
end Mine
end

section
open PySem PySem.W PySem.Builtin PyProof.Rows PySem.Calls
set_option maxRecDepth 100000
set_option maxHeartbeats 4000000
namespace Mine
theorem arr_of {its : Array Value} {n : Nat} (hs : its.size = n) (h : ∀ i, i < n → ∃ v t, its[i]? = some (.int v t)) : ∃ f, IntArr its n f := by
  refine ⟨fun i => match its[i]? with | some (.int v _) => v | _ => 0, hs, fun i hi => ?_⟩
  obtain ⟨v, t, e⟩ := h i hi
  refine ⟨t, ?_⟩
  dsimp only
  rw [e]
theorem small3 {n : Nat} (h1 : 3 ≤ n) (h2 : n ≤ 12) : Builtin.Range.small 0 ((n : Int) - 2) 3 = true ∧ Builtin.Range.rangeSize 0 ((n : Int) - 2) 3 = ((n / 3 : Nat) : Int) := by
  have key : ∀ n : Fin 13, 3 ≤ n.val → Builtin.Range.small 0 ((n.val : Int) - 2) 3 = true ∧ Builtin.Range.rangeSize 0 ((n.val : Int) - 2) 3 = ((n.val / 3 : Nat) : Int) := by decide +kernel
  exact key ⟨n, by omega⟩ h1
section
variable {w : World} {A : Around} {s : Shared}
theorem law_call {R : Result → Shared → Prop} {K N : Nat} {F : Nat → Int} (G : Gr w s.heap) (ro : Room A 6 60) (hl : IntList s.heap K N F) (hN : N ≤ 63) (hb : AllBare s.gens)
    (plain : ∀ n a b : Int, PlainOk (onesOf n) (about (about (onesOf n) (a.fmod 17)) (b.fmod 17)))
    (post : ∀ h' g' tk, Keep s.heap h' → AllBare g' → R (.ok (.ret (.bool true))) { s with heap := h', gens := g', toks := tk }) :
    codeAny (model prg w) A (.call (.ref 87) ⟨[.ref K], []⟩) R s := by
  refine enter (binds := [("script", .ref K)]) G (by have := ro.depth; omega) rfl rfl (by rfl) rfl (by rfl) rfl (by rfl) ?_
  intro h₁ tk₁ hk₁ ns₁ cells E'
  have c1 := cells "ones" (s.heap.objs.size + 1) rfl
  have c2 := cells "hurt" (s.heap.objs.size + 2) rfl
  have c3 := cells "turned" (s.heap.objs.size + 3) rfl
  have c4 := cells "grown" (s.heap.objs.size + 4) rfl
  clear cells
  have S₁ : LS s.heap s.heap.objs.size h₁ _ _ _ _ _ := ⟨rfl, hk₁, ns₁, c1, c2, c3, c4⟩
  clear c1 c2 c3 c4 ns₁
  generalize hL : s.heap.objs.size = L at *
  have ro' : Room (A.deeper (envAt w.params 87 L)) 4 30 := ⟨by have := ro.depth; show A.depth + 1 + 4 < recursionLimit; omega, by have := ro.units; show A.units + 3 + 30 < cLine; omega, ro.calm⟩
  generalize A.deeper (envAt w.params 87 L) = B at *
  have hl₁ := hl.keeps hk₁
  obtain ⟨items, il, ia⟩ := id hl₁
  refine wpAny_execs_cons ?_
  refine wpAny_Assign_Name ?_
  refine wpAny_BinOp ?_
  refine wpAny_Subscript_list_slice ?_
  refine ldL S₁.ns (v := .ref K) (by rfl) ?_
  rw [evalPart_none, evalPart_some]
  refine wpAny_pure ?_
  refine cInt fun t1 tk2 => ?_
  refine ⟨K, items, none, some ((9 : Nat) : Int), rfl, il, by rw [ia.1, show sizeLine = 2 ^ 24 from rfl]; omega, .none, .int _ _, ?_⟩
  dsimp only
  rw [slicePick_upto']
  refine List_ ?_
  refine @args_ints _ _ _ _ _ _ _ [5, 3, 16] _ rfl ?_
  intro us tk3 hul hui
  refine new_list (by rw [hul]; decide) fun h₂ l2 kp₂ n2 e2 => ?_
  dsimp only at kp₂ n2 ⊢
  have k12 : Keep h₁ h₂ := fun b o e => kp₂ _ _ (Heap.get?_push_of_some _ (Heap.get?_push_of_some _ e))
  refine PySem.P.add_list (n := _) (n2 := _) (kp₂ _ _ (by rw [show h₁.objs.size + 1 = (h₁.push { cls := .type "slice", data := .fields #[Value.none, .int 9 t1, .none] }).objs.size from (Heap.size_push ..).symm]; exact Heap.get?_push_size _ rfl)) e2 ?_ (by
    rw [List.size_toArray, List.size_toArray, hul, show sizeLine = 2 ^ 24 from rfl, List.length_take]
    show min 9 _ + 3 ≤ _
    omega)
  generalize hits : (items.toList.take 9).toArray ++ us.toArray = nums
  have hsz : nums.size = min 9 N + 3 := by
    rw [← hits, Array.size_append, List.size_toArray, List.size_toArray, hul, List.length_take]
    rw [Array.length_toList, ia.1]
    rfl
  obtain ⟨f, fa⟩ : ∃ f, IntArr nums (min 9 N + 3) f := by
    refine arr_of hsz fun i hi => ?_
    rw [← hits, Array.getElem?_append, List.size_toArray, List.length_take, Array.length_toList, ia.1]
    by_cases q : i < min 9 N
    · rw [if_pos q, List.getElem?_toArray, List.getElem?_take, if_pos (by omega), Array.getElem?_toList]
      obtain ⟨t, e⟩ := ia.2 i (by omega)
      exact ⟨_, t, e⟩
    · rw [if_neg q, List.getElem?_toArray]
      obtain ⟨t, e⟩ := hui (i - min 9 N) (by show i - min 9 N < 3; omega)
      exact ⟨_, t, e⟩
  have hn3 : 3 ≤ min 9 N + 3 := by omega
  have hn12 : min 9 N + 3 ≤ 12 := by omega
  generalize hn : min 9 N + 3 = n at *
  have S₂ := S₁.keeps k12
  generalize hNn : h₂.objs.size = Nn
  have nNn : h₂.get? Nn = none := hNn ▸ Heap.get?_none_of_le (Nat.le_refl _)
  have oN := S₂.out nNn
  generalize hh3 : h₂.push { cls := .type "list", data := .seq nums } = h₃
  have k23 : Keep h₂ h₃ := hh3 ▸ fun b o e => Heap.get?_push_of_some _ e
  have eN : h₃.get? Nn = some { cls := .type "list", data := .seq nums } := by rw [← hh3, ← hNn]; exact Heap.get?_push_size _ rfl
  have S₃ := S₂.keeps k23
  refine wpAny_storeName_local (by rfl) S₃.ns fun h₄ ns₄ sb₄ => ?_
  have S₄ := S₃.loc ns₄ sb₄
  have ilN : IntList h₄ Nn n f := ⟨nums, ⟨_, sb₄.extBut _ _ (by show Nn ≠ L; omega) eN, rfl, _, rfl⟩, fa⟩
  clear S₁ S₂ S₃ ns₄ sb₄ eN k23 hh3 k12 e2 n2 kp₂ hui hul il ia hl₁ fa hits nNn
  dsimp only
  refine wpAny_execs_cons ?_
  refine wpAny_For ?_
  have G₄ := G.keeps S₄.old
  refine Call_ ?_
  refine ldB (v := .type "range") G₄ (by rfl) (by decide +kernel) ?_
  refine PyProof.Rows.callWith_type1 ?_
  refine args_cons ?_
  refine cInt fun ta tka => ?_
  refine args_cons ?_
  refine wpAny_BinOp ?_
  refine Call_ ?_
  refine ldB (v := .builtin "len") G₄ (by rfl) (by decide +kernel) ?_
  refine PyProof.Rows.callWith_builtin1 ?_
  refine args_cons ?_
  refine ldL S₄.ns (v := .ref Nn) (by rfl) ?_
  refine args_nil ?_
  obtain ⟨nits, nl, na⟩ := id ilN
  refine call_len_list nl (by rw [na.1]; omega) ?_
  rw [na.1]
  refine cInt fun tb tkb => ?_
  refine PySem.P.sub_int ?_
  refine args_cons ?_
  refine cInt fun tc tkc => ?_
  refine args_nil ?_
  refine call_range_3 (by decide) ?_ (Or.inl (PyProof.noPylong_small (by decide)))
  dsimp only
  have k45 : Keep h₄ (h₄.push { cls := .type "range", data := .fields #[.int 0 ta, .int ((n : Int) - 2) tkb, .int 3 tc] }) := fun b o e => Heap.get?_push_of_some _ e
  have er : IsRange (h₄.push { cls := .type "range", data := .fields #[.int 0 ta, .int ((n : Int) - 2) tkb, .int 3 tc] }) h₄.objs.size 0 ((n : Int) - 2) 3 ta tkb tc := IsRange.new ..
  generalize hh5 : h₄.push { cls := .type "range", data := .fields #[.int 0 ta, .int ((n : Int) - 2) tkb, .int 3 tc] } = h₅ at *
  obtain ⟨sm, rs⟩ := small3 hn3 hn12
  refine wpAny_pyIter_range er sm ?_
  rw [rs]
  dsimp only
  generalize hI : h₅.objs.size = I
  generalize hh6 : h₅.push { cls := .type "range_iterator", data := .fields #[rawInt 0, rawInt ((n / 3 : Nat) : Int), rawInt 3] } = h₆
  have k56 : Keep h₅ h₆ := hh6 ▸ fun b o e => Heap.get?_push_of_some _ e
  have eI : IsRangeIter h₆ I 0 ((n / 3 : Nat) : Int) 3 := by rw [← hh6, ← hI]; exact Heap.get?_push_size _ rfl
  have nI5 : h₅.get? I = none := hI ▸ Heap.get?_none_of_le (Nat.le_refl _)
  have nI4 : h₄.get? I = none := none_of k45 nI5
  have oI := S₄.out nI4
  have nI0 : s.heap.get? I = none := none_of S₄.old nI4
  have neN' := ilN.ne nI4
  have k46 := k45.trans k56
  have S₆ := S₄.keeps k46
  have ilN₆ := ilN.keeps k46
  clear S₄ ilN k45 k56 k46 nI4 nI5 hh6 hh5 er nl na sm rs G₄
  refine @for_gen w _ _ _ _ _ _ I [I] (n / 3) _ _ (Walks.range (A := B) ro'.calm I 0 3 (n / 3))
    (fun i s' => ∃ h g tk m w1 w2 w3 w4, s' = { s with heap := h, gens := g, toks := tk } ∧ LS s.heap L h m w1 w2 w3 w4 ∧ m "numbers" = some (.ref Nn) ∧ IntList h Nn n f ∧ IsRangeIter h I (0 + (i : Nat) * 3) (((n / 3 : Nat) : Int) - (i : Nat)) 3 ∧ AllBare g)
    ?_ ?_ ?_ ?_ ?_
  · refine ⟨h₆, _, _, _, _, _, _, _, rfl, S₆, by rfl, ilN₆, by simpa using eI, hb⟩
  · rintro i s' ⟨h, g, tk, m, w1, w2, w3, w4, rfl, _, _, _, h1, _⟩
    exact h1
  · rintro i s' v h' tk hi ⟨h, g, tk', m, w1, w2, w3, w4, rfl, S', mn', il', h1, bare⟩ ⟨tv, rfl⟩ st hkI E''
    dsimp only at hkI ⊢
    have S2 := S'.other (h' := h') oI nI0 hkI
    refine wpAny_assign_Name ?_
    refine wpAny_storeName_local (by rfl) S2.ns fun h3 ns3 sb3 => ?_
    have S3 := S2.loc ns3 sb3
    have il3 : IntList h3 Nn n f := il'.at fun o e => sb3.extBut _ _ (by show Nn ≠ L; omega) (hkI _ _ neN' e)
    have it3 := sb3.extBut _ _ (by show I ≠ L; omega) st
    dsimp only
    rw [show (0 + (i : Int) * 3) = ((3 * i : Nat) : Int) from by omega] at S3
    refine turn_law (k := 3 * i) (t := tv) G ro' S3 mn' (by rfl) il3 hn12 (by omega) oN bare (plain _ _ _) ?_
    intro h4 g4 tk4 m4 x1 x2 x3 x4 S4 mn4 kb4 bare4
    exact ⟨h4, g4, tk4, m4, x1, x2, x3, x4, rfl, S4, mn4, il3.keepB kb4 oN, kb4 _ _ oI it3, bare4⟩
  · rintro s' h' tk ⟨h, g, tk', m, w1, w2, w3, w4, rfl, S', mn', il', h1, bare⟩ hkI
    have S2 := S'.other (h' := h') oI nI0 hkI
    dsimp only
    refine wpAny_execs_cons ?_
    refine wpAny_Return_some ?_
    refine wpAny_of_eq (a := .bool true) (by rfl) ?_
    exact post h' g tk S2.old bare
  · intro v; rfl
end
end Mine
end

section
open PySem PySem.W PySem.Builtin PyProof.Rows PySem.Calls
set_option maxRecDepth 100000
set_option maxHeartbeats 4000000
namespace Mine
theorem sel1 (f : Nat → Int) : selSum (selB 1) f 16 = f 1 + f 3 + f 5 + f 7 + f 9 + f 11 + f 13 + f 15 := by simp [selSum, selB]
theorem sel2 (f : Nat → Int) : selSum (selB 2) f 16 = f 2 + f 3 + f 6 + f 7 + f 10 + f 11 + f 14 + f 15 := by simp [selSum, selB]
theorem sel4 (f : Nat → Int) : selSum (selB 4) f 16 = f 4 + f 5 + f 6 + f 7 + f 12 + f 13 + f 14 + f 15 := by simp [selSum, selB]
theorem sel8 (f : Nat → Int) : selSum (selB 8) f 16 = f 8 + f 9 + f 10 + f 11 + f 12 + f 13 + f 14 + f 15 := by simp [selSum, selB]
theorem pre16 (f : Nat → Int) : preSum f 16 = f 0 + f 1 + f 2 + f 3 + f 4 + f 5 + f 6 + f 7 + f 8 + f 9 + f 10 + f 11 + f 12 + f 13 + f 14 + f 15 := by simp [preSum]
theorem fm (x : Int) : x.fmod 2 = x % 2 := Int.fmod_eq_emod_of_nonneg _ (by decide)
/-- what the sixteen ones are -/
structure Code16 (o : Nat → Int) : Prop where
  z : ∀ p, p < 16 → o p = 0 ∨ o p = 1
  e1 : (o 1 + o 3 + o 5 + o 7 + o 9 + o 11 + o 13 + o 15) % 2 = 0
  e2 : (o 2 + o 3 + o 6 + o 7 + o 10 + o 11 + o 14 + o 15) % 2 = 0
  e4 : (o 4 + o 5 + o 6 + o 7 + o 12 + o 13 + o 14 + o 15) % 2 = 0
  e8 : (o 8 + o 9 + o 10 + o 11 + o 12 + o 13 + o 14 + o 15) % 2 = 0
  all : (o 0 + o 1 + o 2 + o 3 + o 4 + o 5 + o 6 + o 7 + o 8 + o 9 + o 10 + o 11 + o 12 + o 13 + o 14 + o 15) % 2 = 0
theorem fill01 (n : Int) : ∀ (j p : Nat), fill n j p = 0 ∨ fill n j p = 1
  | 0, _ => .inl rfl
  | j + 1, p => by
    unfold fill upd
    split
    · rw [fm]; omega
    · exact fill01 n j p
theorem fill_zero (n : Int) : ∀ (j p : Nat), p ∉ places.take j → j ≤ 11 → fill n j p = 0
  | 0, _, _, _ => rfl
  | j + 1, p, h, hj => by
    unfold fill upd
    have hlt : j < places.length := by show j < 11; omega
    rw [List.take_add_one, List.getElem?_eq_getElem hlt] at h
    simp only [Option.toList_some, List.mem_append, List.mem_singleton, not_or] at h
    rw [if_neg, fill_zero n j p h.1 (by omega)]
    rw [List.getD_eq_getElem?_getD, List.getElem?_eq_getElem hlt]
    exact h.2
theorem ones_code (n : Int) : Code16 (onesOf n) := by
  have hf := fill01 n 11
  have f0 : fill n 11 0 = 0 := fill_zero n 11 0 (by decide) (by decide)
  have f1 : fill n 11 1 = 0 := fill_zero n 11 1 (by decide) (by decide)
  have f2 : fill n 11 2 = 0 := fill_zero n 11 2 (by decide) (by decide)
  have f4 : fill n 11 4 = 0 := fill_zero n 11 4 (by decide) (by decide)
  have f8 : fill n 11 8 = 0 := fill_zero n 11 8 (by decide) (by decide)
  unfold onesOf
  generalize fill n 11 = f at *
  obtain ⟨v1, h1⟩ : ∃ v, v = (selSum (selB 1) f 16).fmod 2 := ⟨_, rfl⟩
  obtain ⟨v2, h2⟩ : ∃ v, v = (selSum (selB 2) (upd f 1 v1) 16).fmod 2 := ⟨_, rfl⟩
  obtain ⟨v4, h4⟩ : ∃ v, v = (selSum (selB 4) (upd (upd f 1 v1) 2 v2) 16).fmod 2 := ⟨_, rfl⟩
  obtain ⟨v8, h8⟩ : ∃ v, v = (selSum (selB 8) (upd (upd (upd f 1 v1) 2 v2) 4 v4) 16).fmod 2 := ⟨_, rfl⟩
  have he : evened f 4 = upd (upd (upd (upd f 1 v1) 2 v2) 4 v4) 8 v8 := by subst h1; subst h2; subst h4; subst h8; rfl
  rw [he]
  clear he
  rw [sel1, fm] at h1
  rw [sel2, fm] at h2
  rw [sel4, fm] at h4
  rw [sel8, fm] at h8
  simp only [upd] at h2 h4 h8
  simp at h2 h4 h8
  obtain ⟨v0, h0⟩ : ∃ v, v = (preSum (upd (upd (upd (upd f 1 v1) 2 v2) 4 v4) 8 v8) 16).fmod 2 := ⟨_, rfl⟩
  rw [← h0]
  rw [pre16, fm] at h0
  simp [upd] at h0
  have a0 := hf 0; have a3 := hf 3; have a5 := hf 5; have a6 := hf 6; have a7 := hf 7; have a9 := hf 9; have a10 := hf 10; have a11 := hf 11; have a12 := hf 12; have a13 := hf 13; have a14 := hf 14; have a15 := hf 15
  refine ⟨fun p hp => ?_, ?_, ?_, ?_, ?_, ?_⟩
  · unfold upd
    split
    · omega
    · split
      · omega
      · split
        · omega
        · split
          · omega
          · split
            · omega
            · exact hf p
  · simp [upd]; omega
  · simp [upd]; omega
  · simp [upd]; omega
  · simp [upd]; omega
  · show (v0 + v1 + v2 + f 3 + v4 + f 5 + f 6 + f 7 + v8 + f 9 + f 10 + f 11 + f 12 + f 13 + f 14 + f 15) % 2 = 0
    rw [h0]
    clear hf h1 h2 h4 h8 a0 a3 a5 a6 a7 a9 a10 a11 a12 a13 a14 a15
    omega
/-- the places turned about, as a function of the two spots -/
def tv (a b : Int) (p : Nat) : Int := if decide ((p : Int) = a) = decide ((p : Int) = b) then 0 else 1
def tS (a b : Int) (j : Nat) : Int := ((startsOf.getD j []).map (tv a b)).sum
def toldT (a b : Int) (j : Nat) : Int := (tS a b (j + 2) - tS a b 0) % 2
def foundT (a b : Int) : Int := toldT a b 0 + 2 * toldT a b 1 + 4 * toldT a b 2 + 8 * toldT a b 3
def turnedT (a b : Int) : List Nat := (List.range 16).filter fun p => tv a b p != 0
theorem table : ∀ i k : Fin 17, (tS i.val k.val 1 % 2 = 1 → ∀ j : Fin 16, ((j.val : Int) = foundT i.val k.val ↔ tv i.val k.val j.val = 1)) ∧
    (tS i.val k.val 1 % 2 ≠ 1 → foundT i.val k.val = 0 → ∀ j : Fin 16, tv i.val k.val j.val = 0) ∧
    (tS i.val k.val 1 % 2 ≠ 1 → foundT i.val k.val ≠ 0 → (turnedT i.val k.val).length = 2 ∧ ∀ j : Fin 4, toldT i.val k.val j.val = ((((turnedT i.val k.val).getD 0 0 : Nat) : Int).fdiv ((bits.getD j.val 0 : Nat) : Int) + (((turnedT i.val k.val).getD 1 0 : Nat) : Int).fdiv ((bits.getD j.val 0 : Nat) : Int)).fmod 2) := by
  decide +kernel
theorem tv01 (a b : Int) (p : Nat) : tv a b p = 0 ∨ tv a b p = 1 := by
  unfold tv
  split
  · exact .inl rfl
  · exact .inr rfl
theorem u_of {o : Nat → Int} {a b : Int} (p : Nat) : about (about o a) b p = if tv a b p = 0 then o p else 1 - o p := by
  unfold about tv
  by_cases h1 : (p : Int) = a <;> by_cases h2 : (p : Int) = b <;> simp [h1, h2] <;> first | omega | (split <;> first | omega | simp_all)
theorem u_par {o : Nat → Int} (C : Code16 o) {a b : Int} {p : Nat} (hp : p < 16) : ∃ w, ((bit (about (about o a) b) p : Nat) : Int) = o p + tv a b p - 2 * w := by
  have h := u_of (o := o) (a := a) (b := b) p
  have z := C.z p hp
  have t := tv01 a b p
  unfold bit
  rw [h]
  rcases z with z | z <;> rcases t with t | t <;> rw [z, t]
  · exact ⟨0, by simp⟩
  · exact ⟨0, by simp⟩
  · exact ⟨0, by simp⟩
  · exact ⟨1, by simp⟩
end Mine
end

section
open PySem PySem.W PySem.Builtin PyProof.Rows PySem.Calls
set_option maxRecDepth 100000
set_option maxHeartbeats 4000000
namespace Mine
def oS (o : Nat → Int) (j : Nat) : Int := ((startsOf.getD j []).map o).sum
theorem u_bit {o : Nat → Int} (C : Code16 o) {a b : Int} {p : Nat} (hp : p < 16) : ((bit (about (about o a) b) p : Nat) : Int) = o p + tv a b p - 2 * (o p * tv a b p) := by
  have h := u_of (o := o) (a := a) (b := b) p
  have z := C.z p hp
  have t := tv01 a b p
  unfold bit
  rw [h]
  rcases z with z | z <;> rcases t with t | t <;> rw [z, t] <;> decide
theorem sum_cast (f : Nat → Nat) (g h : Nat → Int) : ∀ l : List Nat, (∀ p ∈ l, ((f p : Nat) : Int) = g p + h p - 2 * (g p * h p)) → (((l.map f).sum : Nat) : Int) = (l.map g).sum + (l.map h).sum - 2 * (l.map fun p => g p * h p).sum
  | [], _ => rfl
  | p :: l, e => by
    have e1 := e p (by simp)
    have e2 := sum_cast f g h l fun q hq => e q (by simp [hq])
    simp only [List.map_cons, List.sum_cons]
    omega
theorem g_split {o : Nat → Int} (C : Code16 o) (a b : Int) (j : Nat) (hj : j < 6) : ∃ W, ((gval (about (about o a) b) j : Nat) : Int) = oS o j + tS a b j - 2 * W := by
  have lt : ∀ j : _root_.Fin 6, ∀ i ∈ startsOf.getD j.val [], i < 16 := by decide
  exact ⟨_, sum_cast (bit (about (about o a) b)) o (tv a b) (startsOf.getD j []) fun p hp => u_bit C (lt ⟨j, hj⟩ p hp)⟩
theorem pars {o : Nat → Int} (C : Code16 o) (a b : Int) :
    ((gval (about (about o a) b) 1 : Nat) : Int).fmod 2 = tS a b 1 % 2 ∧ toldOf (about (about o a) b) 0 = toldT a b 0 ∧ toldOf (about (about o a) b) 1 = toldT a b 1 ∧ toldOf (about (about o a) b) 2 = toldT a b 2 ∧ toldOf (about (about o a) b) 3 = toldT a b 3 := by
  obtain ⟨W0, g0⟩ := g_split C a b 0 (by decide)
  obtain ⟨W1, g1⟩ := g_split C a b 1 (by decide)
  obtain ⟨W2, g2⟩ := g_split C a b 2 (by decide)
  obtain ⟨W3, g3⟩ := g_split C a b 3 (by decide)
  obtain ⟨W4, g4⟩ := g_split C a b 4 (by decide)
  obtain ⟨W5, g5⟩ := g_split C a b 5 (by decide)
  have s1 : oS o 1 % 2 = 0 := by have := C.all; simp only [oS, startsOf, List.getD_cons_succ, List.getD_cons_zero, List.map_cons, List.map_nil, List.sum_cons, List.sum_nil]; omega
  have s2 : (oS o 2 - oS o 0) % 2 = 0 := by have := C.e1; simp only [oS, startsOf, List.getD_cons_succ, List.getD_cons_zero, List.map_cons, List.map_nil, List.sum_cons, List.sum_nil]; omega
  have s3 : (oS o 3 - oS o 0) % 2 = 0 := by have := C.e2; simp only [oS, startsOf, List.getD_cons_succ, List.getD_cons_zero, List.map_cons, List.map_nil, List.sum_cons, List.sum_nil]; omega
  have s4 : (oS o 4 - oS o 0) % 2 = 0 := by have := C.e4; simp only [oS, startsOf, List.getD_cons_succ, List.getD_cons_zero, List.map_cons, List.map_nil, List.sum_cons, List.sum_nil]; omega
  have s5 : (oS o 5 - oS o 0) % 2 = 0 := by have := C.e8; simp only [oS, startsOf, List.getD_cons_succ, List.getD_cons_zero, List.map_cons, List.map_nil, List.sum_cons, List.sum_nil]; omega
  unfold toldOf toldT
  simp only [fm]
  rw [show (0 : Nat) + 2 = 2 from rfl, show (1 : Nat) + 2 = 3 from rfl, show (2 : Nat) + 2 = 4 from rfl, show (3 : Nat) + 2 = 5 from rfl, g0, g1, g2, g3, g4, g5]
  generalize oS o 0 = x0 at *
  generalize oS o 1 = x1 at *
  generalize oS o 2 = x2 at *
  generalize oS o 3 = x3 at *
  generalize oS o 4 = x4 at *
  generalize oS o 5 = x5 at *
  clear g0 g1 g2 g3 g4 g5 C
  exact ⟨by clear s2 s3 s4 s5; omega, by clear s1 s3 s4 s5; omega, by clear s1 s2 s4 s5; omega, by clear s1 s2 s3 s5; omega, by clear s1 s2 s3 s4; omega⟩
theorem plain_ok (n x y : Int) : PlainOk (onesOf n) (about (about (onesOf n) (x.fmod 17)) (y.fmod 17)) := by
  have C := ones_code n
  generalize onesOf n = o at *
  have ha : ∃ i : Fin 17, x.fmod 17 = (i.val : Int) := by
    rw [Int.fmod_eq_emod_of_nonneg _ (by decide)]
    exact ⟨⟨(x % 17).toNat, by omega⟩, by show x % 17 = (((x % 17).toNat : Nat) : Int); omega⟩
  have hb : ∃ i : Fin 17, y.fmod 17 = (i.val : Int) := by
    rw [Int.fmod_eq_emod_of_nonneg _ (by decide)]
    exact ⟨⟨(y % 17).toNat, by omega⟩, by show y % 17 = (((y % 17).toNat : Nat) : Int); omega⟩
  obtain ⟨i, hi⟩ := ha
  obtain ⟨k, hk⟩ := hb
  rw [hi, hk]
  obtain ⟨p1, q0, q1, q2, q3⟩ := pars C (i.val : Int) (k.val : Int)
  obtain ⟨T1, T2, T3⟩ := table i k
  have fo : foundOf (about (about o (i.val : Int)) (k.val : Int)) = foundT i.val k.val := by
    unfold foundOf foundT
    rw [q0, q1, q2, q3]
  have tu : turnedOf o (about (about o (i.val : Int)) (k.val : Int)) = turnedT i.val k.val := by
    unfold turnedOf turnedT
    apply List.filter_congr
    intro p hp
    rw [u_of]
    rcases tv01 (i.val : Int) (k.val : Int) p with t | t <;> rw [t]
    · simp
    · rw [if_neg (by decide)]
      rw [bne_iff_ne (a := (1 : Int)) |>.mpr (by decide), bne_iff_ne]
      omega
  refine ⟨fun h j hj => ?_, fun h h0 j hj => ?_, fun h h0 => ?_⟩
  · rw [p1] at h
    have := T1 h ⟨j, hj⟩
    rw [fo]
    show (if (j : Int) = foundT i.val k.val then 1 - about (about o (i.val : Int)) (k.val : Int) j else about (about o (i.val : Int)) (k.val : Int) j) = o j
    rw [u_of]
    dsimp only at this
    rcases tv01 (i.val : Int) (k.val : Int) j with t | t
    · rw [t] at this
      rw [if_neg (fun e => by have := this.mp e; omega), if_pos t]
    · rw [if_pos (this.mpr t), if_neg (by omega)]
      omega
  · rw [p1] at h
    rw [fo] at h0
    rw [u_of, if_pos (T2 h h0 ⟨j, hj⟩)]
  · rw [p1] at h
    rw [fo] at h0
    rw [tu]
    obtain ⟨l2, tl⟩ := T3 h h0
    refine ⟨l2, fun j hj => ?_⟩
    rw [← tl ⟨j, hj⟩]
    match j, hj with
    | 0, _ => exact q0
    | 1, _ => exact q1
    | 2, _ => exact q2
    | 3, _ => exact q3
end Mine
end

section
open PySem PySem.W PyProof.Rows
set_option Elab.async false
set_option maxRecDepth 100000
set_option maxHeartbeats 0
theorem Mine.theLaw : PySem.Challenge.rw_pe0021_01.Holds := Mine.hd (by
  w_on
  k_fill
  intro w s₀ s₁ mg mb G Y fa o pm cd doc dV kV ho hd hcd hD hmg hg args vals as hpre hlay hrd hwl hlo
  have KX := kIn_of Y
  clear Y
  refine Ground.open G ?_
  intro T B D TE TW
  wrow_args hpre hlay hrd hwl hlo
  all_goals (first | refine callC_kw (enter_call ?_) | refine enter_call ?_ | refine callC_kw (enter_callW ?_) | refine enter_callW ?_ | w_how)
  clear hcd hD hd
  rename_i ns hs hlay0 hL1 hr1 hl2 as1 as2 K vs as3 hL ra w1 r0 hI hr hc1 hc2
  have TR := topRead_of T
  have e87 := mg_of (n := Str.ofString "law") (v := .ref 87) KX TR.g (by rfl)
  have ea : fa = 87 := by
    have e2 := hmg.symm.trans e87
    exact Value.ref.inj (Option.some.inj e2)
  subst ea
  have GR : Mine.Gr w s₁.heap := ⟨KX, _, _, _, _, TR⟩
  have gi : ∀ (vs : List Value) (ns : List Int), IntsAre vs ns → ∀ i, i < vs.length → ∃ v t, vs[i]? = some (.int v t) := by
    intro vs ns h
    induction h with
    | nil => intro i hi; exact absurd hi (Nat.not_lt_zero _)
    | cons n t h ih =>
      intro i hi
      cases i with
      | zero => exact ⟨n, t, rfl⟩
      | succ i =>
        obtain ⟨v, u, e⟩ := ih i (by simpa using hi)
        exact ⟨v, u, by simpa using e⟩
  have il : ∃ F, Mine.IntList s₁.heap K vs.length F := by
    obtain ⟨F, fa⟩ := Mine.arr_of (its := vs.toArray) (n := vs.length) (by simp) (fun i hi => by
      rw [List.getElem?_toArray]
      exact gi vs ns hI i hi)
    exact ⟨F, vs.toArray, hL, fa⟩
  obtain ⟨F, il⟩ := il
  refine Mine.law_call GR ⟨by decide, by decide, rfl⟩ il (by have := hI.length; omega) (AllBare.of_eq hg) Mine.plain_ok ?_
  intro h' g' tk kp bare
  refine ⟨.inl ⟨_, _, [], rfl, fun _ => rfl, ReadsW.bool true, ?_, fun _ => ⟨List.nodup_nil, fun _ hm => (nomatch hm)⟩⟩, .of_keep kp, rfl, bare⟩
  first | rfl | wrow_post)
end

theorem PySem.Challenge.cw_pe0021_01_holds : PySem.Challenge.rw_pe0021_01.Holds :=
  Mine.theLaw

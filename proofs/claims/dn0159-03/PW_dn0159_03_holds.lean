import PyProof.Rows.All
import Wide.All
import OpenK.AllK
import Wide.FinOn
import PySem.Challenge.RW_dn0159_03
set_option Elab.async false
set_option maxRecDepth 100000

/-! RxPure -/
section
open PySem
namespace Mine
open PySem.Sre

def c1 : Array Nat := #[14, 4, 0, 1, 1, 6, 1, 16, 46, 1]
def c3 : Array Nat := #[14, 9, 4, 1, 2, 16, 10, 16, 13, 0, 7, 7, 16, 13, 16, 10, 15, 18, 5, 16, 10, 15, 13, 11, 16, 13, 5, 5, 0, 16, 10, 1, 15, 2, 0, 1]

theorem runFor_add : ∀ (a b : Nat) (m : M), M.runFor (a + b) m = M.runFor b (M.runFor a m)
  | 0, b, m => by simp [M.runFor]
  | a + 1, b, m => by
    rw [Nat.succ_add]
    show (if m.outcome.isSome then m else M.runFor (a + b) m.step) = M.runFor b (if m.outcome.isSome then m else M.runFor a m.step)
    cases h : m.outcome.isSome with
    | false => simp only [Bool.false_eq_true, if_false]; exact runFor_add a b m.step
    | true =>
      simp only [if_true]
      cases b with
      | zero => rfl
      | succ b => simp [M.runFor, h]
theorem runFor_one {m : M} (h : m.outcome = none) : M.runFor 1 m = m.step := by simp [M.runFor, h]
theorem runFor_done {m : M} (h : m.outcome.isSome = true) : ∀ n, M.runFor n m = m
  | 0 => rfl
  | n + 1 => by simp [M.runFor, h]

/-- m comes to m' within n steps -/
def To (n : Nat) (m m' : M) : Prop := ∃ k, k ≤ n ∧ M.runFor k m = m'
theorem To.refl (m : M) : To 0 m m := ⟨0, Nat.le_refl _, rfl⟩
theorem To.trans {a b : Nat} {m m' m'' : M} (h : To a m m') (h' : To b m' m'') : To (a + b) m m'' := by
  obtain ⟨k, hk, e⟩ := h; obtain ⟨k', hk', e'⟩ := h'
  exact ⟨k + k', by omega, by rw [runFor_add, e, e']⟩
theorem To.step {m m' : M} (ho : m.outcome = none) (h : m.step = m') : To 1 m m' := ⟨1, Nat.le_refl _, by rw [runFor_one ho, h]⟩
theorem To.le {a b : Nat} {m m' : M} (h : To a m m') (hab : a ≤ b) : To b m m' := by
  obtain ⟨k, hk, e⟩ := h; exact ⟨k, by omega, e⟩

/-- a state at the head of an attempt -/
def at1 (t : Array Nat) (s : Nat) (first : Bool) (seen : Seen) : M :=
  { code := c1, text := t, lim := t.size, start := s, lastStart := t.size, pc := 5, pos := s, handed := s, outermost := first, marks := #[],
    frames := [{ wait := .nextStart, pc := 5, pos := s, outermost := first }], weight := 1, seen := seen }

/-- a dot at a row's head -/
def isDot (t : Array Nat) (p : Nat) : Bool := p < t.size && (p == 0 || t.getD (p - 1) 0 == 10) && t.getD p 0 == 46

theorem at1_yes (t : Array Nat) (s : Nat) (first : Bool) (seen : Seen) (h : isDot t s = true) :
    ∃ m', To 5 (at1 t s first seen) m' ∧ m'.outcome = some .matched ∧ m'.start = s ∧ m'.handed = s + 1 := by
  simp only [isDot, Bool.and_eq_true, decide_eq_true_eq] at h
  obtain ⟨⟨h1, h2⟩, h3⟩ := h
  have e1 : (at1 t s first seen).step = { at1 t s first seen with pc := 7, seen := (seen.add 6).add 44 } := by
    simp only [M.step, at1, M.exec, M.word, c1, M.isAt, h2]
    simp [ops]
  have e2 : M.step { at1 t s first seen with pc := 7, seen := (seen.add 6).add 44 } = { at1 t s first seen with pc := 9, pos := s + 1, seen := ((seen.add 6).add 44).add 16 } := by
    have h3' : t.getD s 0 = 46 := by simpa using h3
    simp only [M.step, at1, M.exec, M.word, c1, accepts, itemWidth]
    simp only [h3']
    simp [ops, Nat.not_le.mpr h1]
  have e3 : M.step { at1 t s first seen with pc := 9, pos := s + 1, seen := ((seen.add 6).add 44).add 16 } = { at1 t s first seen with pc := 9, pos := s + 1, handed := s + 1, answer := some true, seen := (((seen.add 6).add 44).add 16).add 1 } := by
    simp only [M.step, at1, M.exec, M.word, c1]
    simp [ops, M.say]
  have e4 : M.step { at1 t s first seen with pc := 9, pos := s + 1, handed := s + 1, answer := some true, seen := (((seen.add 6).add 44).add 16).add 1 } = { at1 t s first seen with pc := 5, pos := s, handed := s + 1, answer := some true, frames := [], weight := 0, seen := (((seen.add 6).add 44).add 16).add 1 } := by
    simp [M.step, at1, M.resume, M.say]
  have e5 : M.step { at1 t s first seen with pc := 5, pos := s, handed := s + 1, answer := some true, frames := [], weight := 0, seen := (((seen.add 6).add 44).add 16).add 1 } = { at1 t s first seen with pc := 5, pos := s, handed := s + 1, answer := some true, frames := [], weight := 0, seen := (((seen.add 6).add 44).add 16).add 1, outcome := some .matched } := by
    simp [M.step, at1]
  exact ⟨_, ((((To.step rfl e1).trans (To.step rfl e2)).trans (To.step rfl e3)).trans (To.step rfl e4)).trans (To.step rfl e5), rfl, rfl, rfl⟩

theorem at1_no (t : Array Nat) (s : Nat) (first : Bool) (seen : Seen) (h : isDot t s = false) :
    ∃ seen', To 4 (at1 t s first seen) (if s < t.size then at1 t (s + 1) false seen' else { at1 t s first seen' with pc := 5, pos := s, answer := some false, frames := [], weight := 0, outcome := some .failed }) := by
  have tail : ∀ (pc : Nat) (seen' : Seen), To 2 { at1 t s first seen' with pc := pc, answer := some false } (if s < t.size then at1 t (s + 1) false seen' else { at1 t s first seen' with pc := 5, pos := s, answer := some false, frames := [], weight := 0, outcome := some .failed }) := by
    intro pc seen'
    by_cases hs : s < t.size
    · rw [if_pos hs]
      refine (To.step rfl ?_).le (by omega)
      simp only [M.step, at1, M.resume, M.attemptFrom, M.attemptAt, M.hasFirstSet, M.attempt, c1]
      simp [hs, ops]
    · rw [if_neg hs]
      have e1 : M.step { at1 t s first seen' with pc := pc, answer := some false } = { at1 t s first seen' with pc := 5, pos := s, answer := some false, frames := [], weight := 0 } := by
        simp only [M.step, at1, M.resume, M.say]
        simp [hs]
      have e2 : M.step { at1 t s first seen' with pc := 5, pos := s, answer := some false, frames := [], weight := 0 } = { at1 t s first seen' with pc := 5, pos := s, answer := some false, frames := [], weight := 0, outcome := some .failed } := by
        simp [M.step, at1]
      exact (To.step rfl e1).trans (To.step rfl e2)
  cases h2 : (s == 0 || t.getD (s - 1) 0 == 10) with
  | false =>
    have e1 : (at1 t s first seen).step = { at1 t s first ((seen.add 6).add 44) with pc := 5, answer := some false } := by
      simp only [M.step, at1, M.exec, M.word, c1, M.isAt, h2]
      simp [ops, M.say]
    exact ⟨_, ((To.step rfl e1).trans (tail 5 _)).le (by omega)⟩
  | true =>
    have e1 : (at1 t s first seen).step = { at1 t s first seen with pc := 7, seen := (seen.add 6).add 44 } := by
      simp only [M.step, at1, M.exec, M.word, c1, M.isAt, h2]
      simp [ops]
    by_cases hs : s < t.size
    · have h3' : (t.getD s 0 == 46) = false := by
        have hh := h
        unfold isDot at hh
        rw [h2, decide_eq_true hs] at hh
        exact hh
      have e2 : M.step { at1 t s first seen with pc := 7, seen := (seen.add 6).add 44 } = { at1 t s first (((seen.add 6).add 44).add 16) with pc := 7, answer := some false } := by
        simp only [M.step, at1, M.exec, M.word, c1, accepts, itemWidth]
        simp only [List.getElem?_toArray, Array.getD_eq_getD_getElem?] at h3' ⊢
        simp [ops, Nat.not_le.mpr hs, M.say]
        simp [h3']
      exact ⟨_, ((To.step rfl e1).trans ((To.step rfl e2).trans (tail 7 _))).le (by omega)⟩
    · have e2 : M.step { at1 t s first seen with pc := 7, seen := (seen.add 6).add 44 } = { at1 t s first (((seen.add 6).add 44).add 16) with pc := 7, answer := some false } := by
        simp only [M.step, at1, M.exec, M.word, c1]
        simp [ops, Nat.le_of_not_lt hs, M.say]
      exact ⟨_, ((To.step rfl e1).trans ((To.step rfl e2).trans (tail 7 _))).le (by omega)⟩

/-- the first place at or behind s -/
def findFrom (P : Nat → Bool) : (fuel s : Nat) → Option Nat
  | 0, _ => none
  | fuel + 1, s => if P s then some s else findFrom P fuel (s + 1)

theorem findFrom_yes {P : Nat → Bool} {p : Nat} : ∀ (f s : Nat), findFrom P f s = some p → P p = true
  | 0, s, h => by simp [findFrom] at h
  | f + 1, s, h => by
    rw [findFrom] at h
    split at h
    · next q => cases h; exact q
    · exact findFrom_yes f (s + 1) h

theorem search1 (t : Array Nat) : ∀ (d s : Nat) (first : Bool) (seen : Seen), d = t.size - s → s ≤ t.size →
    ∃ m', To (5 * (d + 1)) (at1 t s first seen) m' ∧
      (match findFrom (isDot t) (d + 1) s with
       | some p => m'.outcome = some .matched ∧ m'.start = p ∧ m'.handed = p + 1
       | none => m'.outcome = some .failed) := by
  intro d
  induction d with
  | zero =>
    intro s first seen hd hs
    have hse : s = t.size := by omega
    have hn : isDot t s = false := by simp [isDot, hse]
    obtain ⟨seen', h⟩ := at1_no t s first seen hn
    rw [if_neg (by omega)] at h
    refine ⟨_, h.le (by omega), ?_⟩
    simp [findFrom, hn]
  | succ d ih =>
    intro s first seen hd hs
    cases hy : isDot t s with
    | true =>
      obtain ⟨m', h1, h2, h3, h4⟩ := at1_yes t s first seen hy
      refine ⟨m', h1.le (by omega), ?_⟩
      rw [findFrom, hy]
      exact ⟨h2, h3, h4⟩
    | false =>
      obtain ⟨seen', h⟩ := at1_no t s first seen hy
      rw [if_pos (by omega)] at h
      obtain ⟨m', h', hm⟩ := ih (s + 1) false seen' (by omega) (by omega)
      refine ⟨m', (h.trans h').le (by omega), ?_⟩
      rw [findFrom, hy]
      exact hm

def fresh1 (t : Array Nat) (s : Nat) : M :=
  { code := c1, text := t, lim := t.size, start := s, pc := 5, pos := s, handed := s, marks := #[], seen := ({} : Seen).add 14 }
theorem forSearch1_eq (t : Array Nat) (s : Nat) : forSearch c1 t 0 s t.size false =
    if (decide (s > t.size) || decide (t.size - s < 1)) = true then (fresh1 t s).say false else M.attemptFrom { fresh1 t s with lastStart := t.size } s true := by
  with_unfolding_all rfl

theorem forSearch1 (t : Array Nat) (s : Nat) (hs : s ≤ t.size) :
    ∃ m', To (5 * (t.size + 2)) (forSearch c1 t 0 s t.size false) m' ∧
      (match findFrom (isDot t) (t.size - s + 1) s with
       | some p => m'.outcome = some .matched ∧ m'.start = p ∧ m'.handed = p + 1
       | none => m'.outcome = some .failed) := by
  rw [forSearch1_eq]
  by_cases he : s = t.size
  · have hn : isDot t s = false := by simp [isDot, he]
    rw [if_pos (by simp; omega)]
    refine ⟨{ fresh1 t s with answer := some false, outcome := some .failed }, (To.step rfl ?_).le (by omega), ?_⟩
    · simp [M.say, M.step, fresh1]
    · subst he
      simp [findFrom, hn]
  · have h1 : ¬ (t.size - s < 1) := by omega
    have h2 : ¬ (s > t.size) := by omega
    have e : M.attemptFrom { fresh1 t s with lastStart := t.size } s true = at1 t s true (({} : Seen).add 14) := by
      simp only [fresh1, c1, at1]
      simp [ops, M.attemptFrom, M.hasFirstSet, M.attemptAt, M.attempt]
    rw [if_neg (by simp; omega), e]
    obtain ⟨m', h1, h2⟩ := search1 t (t.size - s) s true _ rfl hs
    exact ⟨m', h1.le (by omega), h2⟩

/-! the ends of rows -/
def g3 (t : Array Nat) (s : Nat) (seen : Seen) (pc pos handed : Nat) (om : Bool) (fs : List Sre.Frame) (wt : Nat) (ans : Option Bool) : M :=
  { code := c3, text := t, lim := t.size, start := s, lastStart := t.size, pc := pc, pos := pos, handed := handed, outermost := om, marks := #[], frames := fs, weight := wt, answer := ans, seen := seen }
def k0 : Sre.Kept := { lastmark := -1, lastindex := -1, whole := false, marks := #[] }
section
variable {t : Array Nat} {s pc pos hd c wt : Nat} {om : Bool} {fs : List Sre.Frame} {seen : Seen}
theorem ops16 : ops[16]? = some Op.LITERAL := rfl
theorem lit_ok (h1 : c3.getD pc 0 = 16) (h2 : c3.getD (pc + 1) 0 = c) (hpc : pc < 36) (hp : pos < t.size) (hc : t.getD pos 0 = c) :
    ∃ seen', M.step (g3 t s seen pc pos hd om fs wt none) = g3 t s seen' (pc + 2) (pos + 1) hd om fs wt none := by
  have hz : c3.size = 36 := rfl
  refine ⟨seen.add 16, ?_⟩
  simp only [M.step, g3, M.exec, M.word, accepts, itemWidth, Nat.add_zero, h1, h2, hc, hz, hpc, ops16]
  simp [Nat.not_le.mpr hp]
theorem lit_no (h1 : c3.getD pc 0 = 16) (h2 : c3.getD (pc + 1) 0 = c) (hpc : pc < 36) (hc : ¬ (pos < t.size ∧ t.getD pos 0 = c)) :
    ∃ seen', M.step (g3 t s seen pc pos hd om fs wt none) = g3 t s seen' pc pos hd om fs wt (some false) := by
  have hz : c3.size = 36 := rfl
  refine ⟨seen.add 16, ?_⟩
  simp only [M.step, g3, M.exec, M.word, accepts, itemWidth, Nat.add_zero, h1, h2, hz, hpc, ops16]
  by_cases hp : pos < t.size
  · have hc' : (t.getD pos 0 == c) = false := by
      have : ¬ t.getD pos 0 = c := fun e => hc ⟨hp, e⟩
      simpa using this
    simp only [hc']
    simp [Nat.not_le.mpr hp, M.say]
  · simp [Nat.le_of_not_lt hp, M.say]
theorem jump_ (h1 : c3.getD pc 0 = 15) (h2 : pc + 1 + c3.getD (pc + 1) 0 = 35) (hpc : pc < 36) :
    ∃ seen', M.step (g3 t s seen pc pos hd om fs wt none) = g3 t s seen' 35 pos hd om fs wt none := by
  have hz : c3.size = 36 := rfl
  have ho : ops[15]? = some Op.JUMP := rfl
  refine ⟨seen.add 15, ?_⟩
  simp only [M.step, g3, M.exec, M.word, Nat.add_zero, h1, h2, hz, hpc, ho]
  simp
theorem succ_ : ∃ seen', M.step (g3 t s seen 35 pos hd om fs wt none) = g3 t s seen' 35 pos pos om fs wt (some true) := by
  refine ⟨seen.add 1, ?_⟩
  simp only [M.step, g3, M.exec, M.word, c3]
  simp [ops, M.say]
/-- an answer goes down through the two frames to the end -/
theorem yes_ {f : Bool} {o1 o2 : Bool} {alt pos' pc' : Nat} :
    To 3 (g3 t s seen pc pos hd om [{ wait := .nextBranch, pc := alt, pos := pos', outermost := o1, kept := k0 }, { wait := .nextStart, pc := pc', pos := s, outermost := o2 }] wt (some true))
      { g3 t s seen pc' s hd o2 [] (wt - 1 - 1) (some true) with outcome := some .matched } := by
  have e1 : M.step (g3 t s seen pc pos hd om [{ wait := .nextBranch, pc := alt, pos := pos', outermost := o1, kept := k0 }, { wait := .nextStart, pc := pc', pos := s, outermost := o2 }] wt (some true)) =
      g3 t s seen alt pos' hd o1 [{ wait := .nextStart, pc := pc', pos := s, outermost := o2 }] (wt - 1) (some true) := by
    simp [M.step, g3, M.resume, M.say, k0]
  have e2 : M.step (g3 t s seen alt pos' hd o1 [{ wait := .nextStart, pc := pc', pos := s, outermost := o2 }] (wt - 1) (some true)) =
      g3 t s seen pc' s hd o2 [] (wt - 1 - 1) (some true) := by
    simp [M.step, g3, M.resume, M.say]
  have e3 : M.step (g3 t s seen pc' s hd o2 [] (wt - 1 - 1) (some true)) = { g3 t s seen pc' s hd o2 [] (wt - 1 - 1) (some true) with outcome := some .matched } := by
    simp [M.step, g3]
  exact (To.step rfl e1).trans ((To.step rfl e2).trans (To.step rfl e3))
abbrev fS (s : Nat) (first : Bool) : Sre.Frame := { wait := .nextStart, pc := 10, pos := s, outermost := first }
abbrev fB (alt s : Nat) (first : Bool) : Sre.Frame := { wait := .nextBranch, pc := alt, pos := s, outermost := first, kept := k0 }
theorem branch_ {first : Bool} : ∃ seen', M.step (g3 t s seen 10 s s first [fS s first] 1 none) = g3 t s seen' 12 s s first [fB 11 s first, fS s first] 2 none := by
  refine ⟨seen.add 7, ?_⟩
  simp only [M.step, g3, M.exec, M.word, c3, M.alternative, M.keep, M.attempt, M.frame, fB, fS, k0]
  simp [ops]
theorem next_ {first : Bool} {pc pos : Nat} {alt alt' : Nat} (h : alt + c3.getD alt 0 = alt') (h' : (c3.getD alt' 0 == 0) = false) :
    M.step (g3 t s seen pc pos hd first [fB alt s first, fS s first] 2 (some false)) = g3 t s seen (alt' + 1) s s first [fB alt' s first, fS s first] 2 none := by
  simp only [M.step, g3, M.resume, M.alternative, M.attempt, M.frame, M.putBack, fB, fS, k0, h, h']
  simp
end

/-- an end of a row at p: CR LF, LF, or CR -/
def isEol (t : Array Nat) (p : Nat) : Bool := p < t.size && (t.getD p 0 == 10 || t.getD p 0 == 13)
def eolLen (t : Array Nat) (p : Nat) : Nat := if t.getD p 0 = 13 ∧ p + 1 < t.size ∧ t.getD (p + 1) 0 = 10 then 2 else 1

theorem at3 (t : Array Nat) (s : Nat) (first : Bool) (seen : Seen) (h : isEol t s = true) :
    ∃ m', To 20 (g3 t s seen 10 s s first [fS s first] 1 none) m' ∧ m'.outcome = some .matched ∧ m'.start = s ∧ m'.handed = s + eolLen t s := by
  simp only [isEol, Bool.and_eq_true, decide_eq_true_eq, Bool.or_eq_true, beq_iff_eq] at h
  obtain ⟨hs, h⟩ := h
  obtain ⟨s1, e1⟩ := branch_ (t := t) (s := s) (seen := seen) (first := first)
  by_cases h13 : t.getD s 0 = 13
  · obtain ⟨s2, e2⟩ := lit_ok (t := t) (s := s) (pc := 12) (pos := s) (hd := s) (c := 13) (wt := 2) (om := first) (fs := [fB 11 s first, fS s first]) (seen := s1) rfl rfl (by omega) hs h13
    by_cases h10 : s + 1 < t.size ∧ t.getD (s + 1) 0 = 10
    · obtain ⟨s3, e3⟩ := lit_ok (t := t) (s := s) (pc := 14) (pos := s + 1) (hd := s) (c := 10) (wt := 2) (om := first) (fs := [fB 11 s first, fS s first]) (seen := s2) rfl rfl (by omega) h10.1 h10.2
      obtain ⟨s4, e4⟩ := jump_ (t := t) (s := s) (pc := 16) (pos := s + 2) (hd := s) (wt := 2) (om := first) (fs := [fB 11 s first, fS s first]) (seen := s3) rfl rfl (by omega)
      obtain ⟨s5, e5⟩ := succ_ (t := t) (s := s) (pos := s + 2) (hd := s) (wt := 2) (om := first) (fs := [fB 11 s first, fS s first]) (seen := s4)
      have he : eolLen t s = 2 := by rw [eolLen, if_pos ⟨h13, h10.1, h10.2⟩]
      rw [he]
      exact ⟨_, ((To.step rfl e1).trans ((To.step rfl e2).trans ((To.step rfl e3).trans ((To.step rfl e4).trans ((To.step rfl e5).trans (yes_ (f := true))))))).le (by omega), rfl, rfl, rfl⟩
    · obtain ⟨s3, e3⟩ := lit_no (t := t) (s := s) (pc := 14) (pos := s + 1) (hd := s) (c := 10) (wt := 2) (om := first) (fs := [fB 11 s first, fS s first]) (seen := s2) rfl rfl (by omega) h10
      have e4 := next_ (t := t) (s := s) (seen := s3) (hd := s) (first := first) (pc := 14) (pos := s + 1) (alt := 11) (alt' := 18) rfl rfl
      obtain ⟨s5, e5⟩ := lit_no (t := t) (s := s) (pc := 19) (pos := s) (hd := s) (c := 10) (wt := 2) (om := first) (fs := [fB 18 s first, fS s first]) (seen := s3) rfl rfl (by omega) (by rw [h13]; omega)
      have e6 := next_ (t := t) (s := s) (seen := s5) (hd := s) (first := first) (pc := 19) (pos := s) (alt := 18) (alt' := 23) rfl rfl
      obtain ⟨s7, e7⟩ := lit_ok (t := t) (s := s) (pc := 24) (pos := s) (hd := s) (c := 13) (wt := 2) (om := first) (fs := [fB 23 s first, fS s first]) (seen := s5) rfl rfl (by omega) hs h13
      have e8 : M.step (g3 t s s7 26 (s + 1) s first [fB 23 s first, fS s first] 2 none) = g3 t s (s7.add 5) 29 (s + 1) (s + 1) false [{ wait := .lookNot, pc := 26, pos := s + 1, outermost := first, kept := k0 }, fB 23 s first, fS s first] 3 none := by
        simp only [M.step, g3, M.exec, M.word, c3, M.keep, M.attempt, M.frame, fB, fS, k0]
        simp [ops]
      obtain ⟨s9, e9⟩ := lit_no (t := t) (s := s) (pc := 29) (pos := s + 1) (hd := s + 1) (c := 10) (wt := 3) (om := false) (fs := [{ wait := .lookNot, pc := 26, pos := s + 1, outermost := first, kept := k0 }, fB 23 s first, fS s first]) (seen := s7.add 5) rfl rfl (by omega) h10
      have e10 : M.step (g3 t s s9 29 (s + 1) (s + 1) false [{ wait := .lookNot, pc := 26, pos := s + 1, outermost := first, kept := k0 }, fB 23 s first, fS s first] 3 (some false)) = g3 t s s9 32 (s + 1) (s + 1) first [fB 23 s first, fS s first] 2 none := by
        simp only [M.step, g3, M.resume, M.word, M.putBack, c3, fB, fS, k0]
        simp
      obtain ⟨s11, e11⟩ := jump_ (t := t) (s := s) (pc := 32) (pos := s + 1) (hd := s + 1) (wt := 2) (om := first) (fs := [fB 23 s first, fS s first]) (seen := s9) rfl rfl (by omega)
      obtain ⟨s12, e12⟩ := succ_ (t := t) (s := s) (pos := s + 1) (hd := s + 1) (wt := 2) (om := first) (fs := [fB 23 s first, fS s first]) (seen := s11)
      have he : eolLen t s = 1 := by
        rw [eolLen, if_neg (fun q => h10 q.2)]
      rw [he]
      exact ⟨_, ((To.step rfl e1).trans ((To.step rfl e2).trans ((To.step rfl e3).trans ((To.step rfl e4).trans ((To.step rfl e5).trans ((To.step rfl e6).trans ((To.step rfl e7).trans ((To.step rfl e8).trans ((To.step rfl e9).trans ((To.step rfl e10).trans ((To.step rfl e11).trans ((To.step rfl e12).trans (yes_ (f := true)))))))))))))).le (by omega), rfl, rfl, rfl⟩
  · have h10 : t.getD s 0 = 10 := h.resolve_right h13
    obtain ⟨s2, e2⟩ := lit_no (t := t) (s := s) (pc := 12) (pos := s) (hd := s) (c := 13) (wt := 2) (om := first) (fs := [fB 11 s first, fS s first]) (seen := s1) rfl rfl (by omega) (fun q => h13 q.2)
    have e4 := next_ (t := t) (s := s) (seen := s2) (hd := s) (first := first) (pc := 12) (pos := s) (alt := 11) (alt' := 18) rfl rfl
    obtain ⟨s5, e5⟩ := lit_ok (t := t) (s := s) (pc := 19) (pos := s) (hd := s) (c := 10) (wt := 2) (om := first) (fs := [fB 18 s first, fS s first]) (seen := s2) rfl rfl (by omega) hs h10
    obtain ⟨s6, e6⟩ := jump_ (t := t) (s := s) (pc := 21) (pos := s + 1) (hd := s) (wt := 2) (om := first) (fs := [fB 18 s first, fS s first]) (seen := s5) rfl rfl (by omega)
    obtain ⟨s7, e7⟩ := succ_ (t := t) (s := s) (pos := s + 1) (hd := s) (wt := 2) (om := first) (fs := [fB 18 s first, fS s first]) (seen := s6)
    have he : eolLen t s = 1 := by rw [eolLen, if_neg (fun q => h13 q.1)]
    rw [he]
    exact ⟨_, ((To.step rfl e1).trans ((To.step rfl e2).trans ((To.step rfl e4).trans ((To.step rfl e5).trans ((To.step rfl e6).trans ((To.step rfl e7).trans (yes_ (f := true)))))))).le (by omega), rfl, rfl, rfl⟩

def fresh3 (t : Array Nat) (s : Nat) : M :=
  { code := c3, text := t, lim := t.size, start := s, pc := 10, pos := s, handed := s, marks := #[], seen := ({} : Seen).add 14 }
theorem forSearch3_eq (t : Array Nat) (s : Nat) : forSearch c3 t 0 s t.size false =
    if (decide (s > t.size) || decide (t.size - s < 1)) = true then (fresh3 t s).say false else M.attemptFrom { fresh3 t s with lastStart := t.size } s true := by
  with_unfolding_all rfl
theorem inSet3 (c : Nat) (seen : Seen) : ∃ seen', inSet c3 c c3.size 5 true seen = .ok (c == 10 || c == 13, seen') := by
  have hz : c3.size = 36 := rfl
  rw [hz]
  by_cases h10 : c = 10
  · subst h10
    exact ⟨seen.add 16, by simp [inSet, c3, ops]⟩
  · by_cases h13 : c = 13
    · subst h13
      exact ⟨(seen.add 16).add 16, by simp [inSet, c3, ops]⟩
    · refine ⟨((seen.add 16).add 16).add 0, ?_⟩
      have a : (c == 10) = false := by simpa using h10
      have b : (c == 13) = false := by simpa using h13
      simp [inSet, c3, ops, a, b, h10, h13]
theorem admitted3 (m : M) (hc : m.code = c3) (hl : m.lim = m.text.size) : ∀ (d s : Nat) (seen : Seen), d = m.text.size - s → s ≤ m.text.size →
    ∃ seen', M.admitted m (d + 1) s seen = .ok (findFrom (isEol m.text) (d + 1) s, seen') := by
  intro d
  induction d with
  | zero =>
    intro s seen hd hs
    have hse : s = m.text.size := by omega
    refine ⟨seen, ?_⟩
    rw [M.admitted, if_pos (by omega)]
    simp [findFrom, isEol, hse]
  | succ d ih =>
    intro s seen hd hs
    rw [M.admitted, if_neg (by omega), hc]
    obtain ⟨s1, e1⟩ := inSet3 (m.text.getD s 0) seen
    rw [e1]
    have hlt : s < m.text.size := by omega
    have hi : isEol m.text s = (m.text.getD s 0 == 10 || m.text.getD s 0 == 13) := by
      unfold isEol
      rw [decide_eq_true hlt, Bool.true_and]
    rw [findFrom, hi]
    cases hb : (m.text.getD s 0 == 10 || m.text.getD s 0 == 13) with
    | true => exact ⟨s1, rfl⟩
    | false =>
      simp only [Bool.false_eq_true, if_false]
      exact ih (s + 1) s1 (by omega) (by omega)

theorem forSearch3 (t : Array Nat) (s : Nat) (hs : s ≤ t.size) :
    ∃ m', To 30 (forSearch c3 t 0 s t.size false) m' ∧
      (match findFrom (isEol t) (t.size - s + 1) s with
       | some p => m'.outcome = some .matched ∧ m'.start = p ∧ m'.handed = p + eolLen t p
       | none => m'.outcome = some .failed) := by
  rw [forSearch3_eq]
  by_cases he : s = t.size
  · have hn : isEol t s = false := by simp [isEol, he]
    rw [if_pos (by simp; omega)]
    refine ⟨{ fresh3 t s with answer := some false, outcome := some .failed }, (To.step rfl ?_).le (by omega), ?_⟩
    · simp [M.say, M.step, fresh3]
    · subst he
      simp [findFrom, hn]
  · rw [if_neg (by simp; omega)]
    obtain ⟨seen', hA⟩ := admitted3 { fresh3 t s with lastStart := t.size } rfl rfl (t.size - s) s (({} : Seen).add 14) rfl hs
    have hf : M.hasFirstSet { fresh3 t s with lastStart := t.size } = true := rfl
    have e : t.size + 1 - s = t.size - s + 1 := by omega
    have e2 : M.attemptFrom { fresh3 t s with lastStart := t.size } s true =
        match findFrom (isEol t) (t.size - s + 1) s with
        | some p => g3 t p seen' 10 p p true [fS p true] 1 none
        | none => { fresh3 t s with lastStart := t.size, seen := seen', answer := some false } := by
      unfold M.attemptFrom
      rw [hf]
      simp only [Bool.not_true, Bool.false_eq_true, if_false]
      have hA' : M.admitted { fresh3 t s with lastStart := t.size } ({ fresh3 t s with lastStart := t.size : M }.lim + 1 - s) s { fresh3 t s with lastStart := t.size : M }.seen = .ok (findFrom (isEol t) (t.size - s + 1) s, seen') := by
        show M.admitted { fresh3 t s with lastStart := t.size } (t.size + 1 - s) s (({} : Seen).add 14) = _
        rw [e]; exact hA
      rw [hA']
      cases findFrom (isEol t) (t.size - s + 1) s with
      | none => rfl
      | some p => simp [M.attemptAt, M.attempt, fresh3, g3, fS]
    rw [e2]
    cases hF : findFrom (isEol t) (t.size - s + 1) s with
    | none =>
      refine ⟨{ fresh3 t s with lastStart := t.size, seen := seen', answer := some false, outcome := some .failed }, (To.step rfl ?_).le (by omega), rfl⟩
      simp [M.step, fresh3]
    | some p =>
      have hp : isEol t p = true := findFrom_yes _ _ hF
      obtain ⟨m', h1, h2⟩ := at3 t p true seen' hp
      exact ⟨m', h1.le (by omega), h2⟩
end Mine

end

/-! RxList -/
section
open PySem
namespace Mine

/-- every end of a row made CR LF -/
def fixL : List Nat → List Nat
  | [] => []
  | 13 :: 10 :: r => 13 :: 10 :: fixL r
  | 13 :: r => 13 :: 10 :: fixL r
  | 10 :: r => 13 :: 10 :: fixL r
  | c :: r => c :: fixL r
/-- a dot at a row's head doubled -/
def dotL : Bool → List Nat → List Nat
  | _, [] => []
  | b, c :: r => (if b && c == 46 then [46, 46] else [c]) ++ dotL (c == 10) r

theorem fixL_plain {c : Nat} {r : List Nat} (h10 : c ≠ 10) (h13 : c ≠ 13) : fixL (c :: r) = c :: fixL r := by
  rw [fixL]
  · intro r' e _; exact h13 e
  · intro e; exact h13 e
  · intro e; exact h10 e
theorem fixL_lf {r : List Nat} : fixL (10 :: r) = 13 :: 10 :: fixL r := by rw [fixL]
theorem fixL_crlf {r : List Nat} : fixL (13 :: 10 :: r) = 13 :: 10 :: fixL r := by rw [fixL]
theorem fixL_cr {r : List Nat} (h : ∀ r', r ≠ 10 :: r') : fixL (13 :: r) = 13 :: 10 :: fixL r := by
  rw [fixL]
  exact h

theorem findFrom_ge {P : Nat → Bool} {p : Nat} : ∀ (f s : Nat), findFrom P f s = some p → s ≤ p
  | 0, s, h => by simp [findFrom] at h
  | f + 1, s, h => by
    rw [findFrom] at h
    split at h
    · cases h; exact Nat.le_refl _
    · exact Nat.le_of_succ_le (findFrom_ge f (s + 1) h)
theorem getD_drop {t : Array Nat} {s : Nat} (h : s < t.size) : t.toList.drop s = t.getD s 0 :: t.toList.drop (s + 1) := by
  rw [List.drop_eq_getElem_cons (by simpa using h)]
  congr 1
  simp [Array.getD, h]

theorem fix_none (t : Array Nat) : ∀ (d s : Nat), d = t.size - s → findFrom (isEol t) (d + 1) s = none → fixL (t.toList.drop s) = t.toList.drop s := by
  intro d
  induction d with
  | zero =>
    intro s hd h
    rw [List.drop_eq_nil_of_le (by simp; omega)]
    rfl
  | succ d ih =>
    intro s hd h
    have hs : s < t.size := by omega
    rw [findFrom] at h
    split at h
    · cases h
    · next q =>
      have := ih (s + 1) (by omega) h
      rw [getD_drop hs]
      simp [isEol, hs] at q
      rw [fixL_plain, this]
      · intro e; exact q.1 (by simpa [Array.getD, hs] using e)
      · intro e; exact q.2 (by simpa [Array.getD, hs] using e)

theorem fix_some (t : Array Nat) (p : Nat) : ∀ (d s : Nat), d = t.size - s → findFrom (isEol t) (d + 1) s = some p →
    fixL (t.toList.drop s) = (t.toList.drop s).take (p - s) ++ ([13, 10] ++ fixL (t.toList.drop (p + eolLen t p))) := by
  intro d
  induction d with
  | zero =>
    intro s hd h
    rw [findFrom] at h
    split at h
    · next q => simp [isEol] at q; omega
    · simp [findFrom] at h
  | succ d ih =>
    intro s hd h
    have hs : s < t.size := by omega
    rw [findFrom] at h
    split at h
    · next q =>
      have hps : p = s := (Option.some.inj h).symm
      clear h ih
      rw [hps]
      rw [Nat.sub_self, List.take_zero, List.nil_append, getD_drop hs]
      unfold eolLen
      by_cases h13 : t.getD s 0 = 13
      · rw [h13]
        by_cases h10 : s + 1 < t.size ∧ t.getD (s + 1) 0 = 10
        · rw [if_pos ⟨rfl, h10.1, h10.2⟩, getD_drop h10.1, h10.2, fixL_crlf]
          rfl
        · rw [if_neg (fun q => h10 q.2), fixL_cr]
          · rfl
          · intro r' e
            by_cases h1 : s + 1 < t.size
            · rw [getD_drop h1] at e
              injection e with e1 e2
              exact h10 ⟨h1, e1⟩
            · rw [List.drop_eq_nil_of_le (by simp; omega)] at e
              cases e
      · have h10 : t.getD s 0 = 10 := by
          simp only [isEol, Bool.and_eq_true, decide_eq_true_eq, Bool.or_eq_true, beq_iff_eq] at q
          exact q.2.resolve_right h13
        rw [if_neg (fun q => h13 q.1), h10, fixL_lf]
        rfl
    · next q =>
      have := ih (s + 1) (by omega) h
      have hge := findFrom_ge _ _ h
      rw [getD_drop hs]
      simp [isEol, hs] at q
      rw [fixL_plain, this]
      · have : p - s = (p - (s + 1)) + 1 := by omega
        rw [this, List.take_succ_cons]
        rfl
      · intro e; exact q.1 (by simpa [Array.getD, hs] using e)
      · intro e; exact q.2 (by simpa [Array.getD, hs] using e)

/-- a row begins at s -/
def headAt (t : Array Nat) (s : Nat) : Bool := s == 0 || t.getD (s - 1) 0 == 10
theorem headAt_succ (t : Array Nat) (s : Nat) : headAt t (s + 1) = (t.getD s 0 == 10) := by simp [headAt]

theorem dot_none (t : Array Nat) : ∀ (d s : Nat), d = t.size - s → findFrom (isDot t) (d + 1) s = none → dotL (headAt t s) (t.toList.drop s) = t.toList.drop s := by
  intro d
  induction d with
  | zero =>
    intro s hd h
    rw [List.drop_eq_nil_of_le (by simp; omega)]
    rfl
  | succ d ih =>
    intro s hd h
    have hs : s < t.size := by omega
    rw [findFrom] at h
    split at h
    · cases h
    · next q =>
      have := ih (s + 1) (by omega) h
      rw [getD_drop hs, dotL, ← headAt_succ, this]
      have hb : (headAt t s && t.getD s 0 == 46) = false := by
        unfold isDot at q
        rw [decide_eq_true hs] at q
        simpa [headAt] using q
      rw [hb]
      rfl

theorem dot_some (t : Array Nat) (p : Nat) : ∀ (d s : Nat), d = t.size - s → findFrom (isDot t) (d + 1) s = some p →
    dotL (headAt t s) (t.toList.drop s) = (t.toList.drop s).take (p - s) ++ ([46, 46] ++ dotL (headAt t (p + 1)) (t.toList.drop (p + 1))) := by
  intro d
  induction d with
  | zero =>
    intro s hd h
    rw [findFrom] at h
    split at h
    · next q => simp [isDot] at q; omega
    · simp [findFrom] at h
  | succ d ih =>
    intro s hd h
    have hs : s < t.size := by omega
    rw [findFrom] at h
    split at h
    · next q =>
      have hps : p = s := (Option.some.inj h).symm
      clear h ih
      rw [hps]
      rw [Nat.sub_self, List.take_zero, List.nil_append, getD_drop hs, dotL, ← headAt_succ]
      have hb : (headAt t s && t.getD s 0 == 46) = true := by
        unfold isDot at q
        rw [decide_eq_true hs, Bool.true_and] at q
        exact q
      rw [hb]
      rfl
    · next q =>
      have := ih (s + 1) (by omega) h
      have hge := findFrom_ge _ _ h
      rw [getD_drop hs, dotL, ← headAt_succ, this]
      have hb : (headAt t s && t.getD s 0 == 46) = false := by
        unfold isDot at q
        rw [decide_eq_true hs, Bool.true_and] at q
        simpa [headAt] using q
      rw [hb]
      have : p - s = (p - (s + 1)) + 1 := by omega
      rw [this, List.take_succ_cons]
      rfl
theorem isDot_lt {t : Array Nat} {p : Nat} (h : isDot t p = true) : p < t.size := by
  simp only [isDot, Bool.and_eq_true, decide_eq_true_eq] at h; exact h.1.1
theorem isEol_lt {t : Array Nat} {p : Nat} (h : isEol t p = true) : p + eolLen t p ≤ t.size := by
  simp only [isEol, Bool.and_eq_true, decide_eq_true_eq] at h
  unfold eolLen
  split
  · next q => omega
  · omega
theorem eolLen_pos (t : Array Nat) (p : Nat) : 0 < eolLen t p := by unfold eolLen; split <;> omega
theorem fixL_length : ∀ (l : List Nat), (fixL l).length ≤ 2 * l.length := by
  intro l
  induction l using fixL.induct with
  | case1 => simp [fixL]
  | case2 r ih => rw [fixL_crlf]; simp only [List.length_cons]; omega
  | case3 r h ih => rw [fixL_cr (fun r' e => h r' e)]; simp only [List.length_cons]; omega
  | case4 r ih => rw [fixL_lf]; simp only [List.length_cons]; omega
  | case5 c r h1 h2 h3 ih =>
    rw [fixL_plain (fun e => h3 e) (fun e => h2 e)]; simp only [List.length_cons]; omega
theorem dotL_length : ∀ (l : List Nat) (b : Bool), (dotL b l).length ≤ 2 * l.length
  | [], _ => by simp [dotL]
  | c :: r, b => by
    have := dotL_length r (c == 10)
    rw [dotL]
    simp only [List.length_append, List.length_cons]
    split <;> simp <;> omega
end Mine

end

/-! RxWp -/
section
open PySem PySem.W PyProof.Rows
namespace Mine
open PySem.Builtin PySem.Builtin.Re

section
variable {M : Model} {A : Around} {E : Value → Shared → Prop} {s : Shared}
theorem drive {Q : Sre.M → Shared → Prop} : ∀ (turns n : Nat) (m m' : Sre.M), To n m m' → m'.outcome.isSome = true → n ≤ 4 * turns → 0 < turns → Q m' s → wpAny M A (reDrive turns m) Q E s := by
  intro turns
  induction turns with
  | zero => intro n m m' _ _ _ h0; omega
  | succ turns ih =>
    intro n m m' hto hd hn _ hQ
    obtain ⟨k, hk, e⟩ := hto
    unfold reDrive
    have e4 : k ≤ 4 → Sre.M.runFor reTurnSteps m = m' := fun h4 => by
      have : reTurnSteps = k + (4 - k) := by show 4 = _; omega
      rw [this, runFor_add, e, runFor_done hd]
    dsimp only
    by_cases h4 : k ≤ 4
    · rw [e4 h4, if_pos hd]
      exact wpAny_pure hQ
    · have e5 : k = 4 + (k - 4) := by omega
      rw [e5, runFor_add] at e
      by_cases hm : (Sre.M.runFor reTurnSteps m).outcome.isSome = true
      · have : Sre.M.runFor reTurnSteps m = m' := by
          have z : Sre.M.runFor 4 m = Sre.M.runFor reTurnSteps m := rfl
          rw [z, runFor_done hm] at e
          exact e
        rw [if_pos hm, this]
        exact wpAny_pure hQ
      · rw [if_neg hm]
        refine wpAny_bind (wpAny_rule ?_)
        exact ih (k - 4) _ m' ⟨k - 4, Nat.le_refl _, e⟩ hd (by omega) (by omega) hQ

theorem runToEnd {Q : Option Sre.M → Shared → Prop} {n : Nat} {m m' : Sre.M} (hto : To n m m') (hn : n ≤ 2 ^ 64)
    (ho : (m'.outcome = some .matched ∧ Q (some m') s) ∨ (m'.outcome = some .failed ∧ Q none s)) : wpAny M A (reRunToEnd m) Q E s := by
  unfold reRunToEnd
  refine wpAny_bind (drive (2 ^ 64) n m m' hto (by rcases ho with h | h <;> rw [h.1] <;> rfl) (by omega) (by decide) ?_)
  refine wpAny_bind (wpAny_forIn_list _ (fun _ _ s' => s' = s) _ (fun i rest b s' hs => ?_) (fun b s' hs => ?_) _ _ rfl)
  · split
    · exact wpAny_bind (wpAny_rule (wpAny_pure hs))
    · exact wpAny_pure hs
  · subst hs
    rcases ho with h | h
    · rw [h.1]; exact wpAny_pure h.2
    · rw [h.1]; exact wpAny_pure h.2

/-- the object of a compiled pattern -/
def patObj (src : Value) (fl : Value) (ct : Addr) (kind : Int) : Obj :=
  { cls := .type "re.Pattern", data := .fields #[src, fl, .int 0 0, .none, .none, .ref ct, .int kind 0] }
def codeObj (c : Array Nat) : Obj := { cls := .type "tuple", data := .seq (c.map fun n : Nat => Value.int (n : Int) 0) }

theorem wholeTarget {P ct : Addr} {src fl : Value} {c : Array Nat} {x : Str} {t : Tok} {Q : ReTarget → Shared → Prop} (hP : s.heap.get? P = some (patObj src fl ct 0)) (hC : s.heap.get? ct = some (codeObj c))
    (h : Q { pattern := .ref P, string := .str x t, code := c, text := x.cps, kind := 0, groups := 0, pos := 0, lim := x.cps.size } s) : wpAny M A (reWholeTarget (.ref P) (.str x t)) Q E s := by
  unfold reWholeTarget
  refine wpAny_bind (wpAny_fieldsOf hP rfl ?_)
  unfold reTextOf
  refine wpAny_bind (wpAny_bind (wpAny_pure (wpAny_pure ?_)))
  dsimp only
  refine wpAny_bind (wpAny_pure ?_)
  unfold reRawItems
  refine wpAny_bind (wpAny_bind (wpAny_seqItems hC rfl (wpAny_pure ?_)))
  refine wpAny_pure ?_
  have e : Array.map (fun x => x.toNat) (Array.map reRawOf ((some (Array.map (fun n : Nat => Value.int (n : Int) 0) c)).getD #[])) = c := by
    simp [Function.comp_def, reRawOf]
  rw [e]
  exact h
end

/-- what is asked of a compiled pattern without groups, without empty matches: its next match, and what is left to do behind a place -/
structure Pat (c : Array Nat) (repl : List Nat) where
  next : Array Nat → Nat → Option (Nat × Nat)
  rest : Array Nat → Nat → List Nat
  finds : ∀ t s, s ≤ t.size → t.size ≤ 2 ^ 24 → ∃ n m', n ≤ 2 ^ 64 ∧ To n (Sre.forSearch c t 0 s t.size false) m' ∧
    (match next t s with
     | some (p, e) => m'.outcome = some .matched ∧ m'.start = p ∧ m'.handed = e
     | none => m'.outcome = some .failed)
  inside : ∀ t s p e, next t s = some (p, e) → s ≤ p ∧ p < e ∧ e ≤ t.size
  none_ : ∀ t s, s ≤ t.size → next t s = none → rest t s = t.toList.drop s
  some_ : ∀ t s p e, s ≤ t.size → next t s = some (p, e) → rest t s = (t.toList.drop s).take (p - s) ++ (repl ++ rest t e)

def fixPat : Pat c3 [13, 10] where
  next := fun t s => (findFrom (isEol t) (t.size - s + 1) s).map fun p => (p, p + eolLen t p)
  rest := fun t s => fixL (t.toList.drop s)
  finds := fun t s hs _ => by
    obtain ⟨m', h1, h2⟩ := forSearch3 t s hs
    refine ⟨30, m', by decide, h1, ?_⟩
    cases h : findFrom (isEol t) (t.size - s + 1) s with
    | none => rw [h] at h2; exact h2
    | some p => rw [h] at h2; exact h2
  inside := fun t s p e h => by
    cases h' : findFrom (isEol t) (t.size - s + 1) s with
    | none => rw [h'] at h; cases h
    | some q =>
      rw [h'] at h
      cases h
      have := isEol_lt (findFrom_yes _ _ h')
      have := eolLen_pos t p
      have := findFrom_ge _ _ h'
      omega
  none_ := fun t s hs h => by
    cases h' : findFrom (isEol t) (t.size - s + 1) s with
    | none => exact fix_none t _ s rfl h'
    | some q => rw [h'] at h; cases h
  some_ := fun t s p e hs h => by
    cases h' : findFrom (isEol t) (t.size - s + 1) s with
    | none => rw [h'] at h; cases h
    | some q =>
      rw [h'] at h
      cases h
      exact fix_some t p _ s rfl h'
def dotPat : Pat c1 [46, 46] where
  next := fun t s => (findFrom (isDot t) (t.size - s + 1) s).map fun p => (p, p + 1)
  rest := fun t s => dotL (headAt t s) (t.toList.drop s)
  finds := fun t s hs hz => by
    obtain ⟨m', h1, h2⟩ := forSearch1 t s hs
    refine ⟨_, m', by omega, h1, ?_⟩
    cases h : findFrom (isDot t) (t.size - s + 1) s with
    | none => rw [h] at h2; exact h2
    | some p => rw [h] at h2; exact h2
  inside := fun t s p e h => by
    cases h' : findFrom (isDot t) (t.size - s + 1) s with
    | none => rw [h'] at h; cases h
    | some q =>
      rw [h'] at h
      cases h
      have := isDot_lt (findFrom_yes _ _ h')
      have := findFrom_ge _ _ h'
      omega
  none_ := fun t s hs h => by
    cases h' : findFrom (isDot t) (t.size - s + 1) s with
    | none => exact dot_none t _ s rfl h'
    | some q => rw [h'] at h; cases h
  some_ := fun t s p e hs h => by
    cases h' : findFrom (isDot t) (t.size - s + 1) s with
    | none => rw [h'] at h; cases h
    | some q =>
      rw [h'] at h
      cases h
      exact dot_some t p _ s rfl h'

abbrev Keeps (h h' : Heap) : Prop := ∀ b o, h.get? b = some o → h'.get? b = some o
def cpsAll (ps : List (Str × Tok)) : List Nat := ps.flatMap fun p => p.1.cps.toList
theorem join_empty : ∀ (ps : List Str), Txt.join ⟨#[]⟩ ps = ⟨(ps.flatMap fun p => p.cps.toList).toArray⟩ := by
  intro ps
  unfold Txt.join Builtin.Str.glued
  cases ps with
  | nil => rfl
  | cons p r =>
    simp only [List.drop_succ_cons, List.drop_zero, List.headD_cons]
    have : ∀ (r : List Str) (acc : Array Nat), (r.foldl (fun acc p => acc ++ (#[] : Array Nat) ++ p.cps) acc) = acc ++ (r.flatMap fun p => p.cps.toList).toArray := by
      intro r
      induction r with
      | nil => intro acc; simp
      | cons q r ih =>
        intro acc
        rw [List.foldl_cons, ih]
        apply Array.ext'
        simp [List.flatMap_cons]
    rw [this]
    congr 1
    apply Array.ext'
    simp [List.flatMap_cons]
theorem joinOk_empty (ps : List Str) (h : (ps.flatMap fun p => p.cps.toList).length ≤ sizeLine) : JoinOk ⟨#[]⟩ ps = true := by
  unfold JoinOk
  have : ∀ (r : List Str) (k : Nat), r.foldl (fun a p => a + p.length + (⟨#[]⟩ : Str).length) k = k + (r.flatMap fun p => p.cps.toList).length := by
    intro r
    induction r with
    | nil => intro k; simp
    | cons q r ih =>
      intro k
      rw [List.foldl_cons, ih]
      simp only [List.flatMap_cons, List.length_append, Str.length, Array.length_toList, Array.size_empty]
      show k + q.cps.size + 0 + _ = _
      omega
  simp only [Builtin.Str.tooLong, List.foldl_toArray, this]
  simpa using h

section
variable {prog : Program} {w : World} {A : Around} {s : Shared}
theorem entry_subLoop : entryFor table "re.Pattern.sub.loop" = some Builtin.«re.Pattern.sub.loop» := entryFor_of_tree (by kernel_rfl)
theorem entry_sub : entryFor table "re.Pattern.sub" = some Builtin.«re.Pattern.sub» := entryFor_of_tree (by kernel_rfl)
theorem plain_subLoop : plainId "re.Pattern.sub.loop" = true := by decide +kernel
theorem pushL {M : Model} {E : Value → Shared → Prop} {hB : Heap} {l : Addr} {vs : List Value} {nn : Nat} {v : Value} {Q : Unit → Shared → Prop} (hl : hB.get? l = none) (hk : Keeps hB s.heap)
    (hls : s.heap.get? l = some { cls := .type "list", data := .seq vs.toArray nn }) (hz : vs.length ≤ 2 ^ 23)
    (h : ∀ h' nn', Keeps hB h' → h'.get? l = some { cls := .type "list", data := .seq (vs ++ [v]).toArray nn' } → Q () { s with heap := h' }) :
    wpAny M A (updateSeq l (·.push v)) Q E s := by
  refine wpAny_updateSeq hls rfl ?_ (by rw [List.size_toArray]; show vs.length ≤ 2 ^ 24; omega) (by simp; show vs.length ≤ 2 ^ 24; omega)
  refine h _ (nn + 1) (fun b o e => ?_) ((Heap.get?_update_self _ hls rfl).trans ?_)
  · have : b ≠ l := fun q => by rw [q, hl] at e; cases e
    exact (Heap.get?_update_other _ _ (Ne.symm this)).trans (hk b o e)
  · simp [Obj.mapSeq]
theorem slice_ {M : Model} {E : Value → Shared → Prop} {x : Str} {b e : Nat} {Q : Value → Shared → Prop} (hx : x.cps.size ≤ 2 ^ 22) (h : Q (.str ⟨x.cps.extract b e⟩ s.toks) { s with toks := s.toks + 1 }) :
    wpAny M A (reSlice x.cps 0 b e) Q E s := by
  unfold reSlice
  rw [if_pos (by rfl)]
  refine wpAny_mkStr h ?_
  show (x.cps.extract b e).size ≤ 2 ^ 24
  rw [Array.size_extract]; omega
theorem cpsAll_append (a b : List (Str × Tok)) : cpsAll (a ++ b) = cpsAll a ++ cpsAll b := by unfold cpsAll; rw [List.flatMap_append]
theorem joinEnd {E : Value → Shared → Prop} {hB : Heap} {l : Addr} {x : Str} {ps : List (Str × Tok)} {nn : Nat} {Q : Fin → Shared → Prop} {n : Int} (hx : x.cps.size ≤ 2 ^ 22) (hk : Keeps hB s.heap)
    (hls : s.heap.get? l = some { cls := .type "list", data := .seq (strValues ps).toArray nn }) (hz : (cpsAll ps).length ≤ 2 ^ 24)
    (h : ∀ tv tk, Q (.done (.ret (.str ⟨(cpsAll ps).toArray⟩ tv))) { s with toks := tk }) :
    wpAny (model prog w) A (do
        let joiner ← reSlice x.cps 0 0 0
        let items ← seqItems? (Value.ref l)
        if (items.getD #[]).isEmpty = true then do
            let text ← pure joiner
            if false = true then do
                let v ← holding [text] do
                      let i ← mkInt n
                      newTuple [text, i]
                ret v
              else ret text
          else do
            let text ← call (Value.builtin (if ((0 : Nat) == 0) = true then "str.join" else "bytes.join")) [joiner, Value.ref l]
            if false = true then do
                let v ← holding [text] do
                      let i ← mkInt n
                      newTuple [text, i]
                ret v
              else ret text) Q E s := by
  refine wpAny_bind (slice_ hx ?_)
  refine wpAny_bind (wpAny_seqItems hls rfl ?_)
  have he : x.cps.extract 0 0 = #[] := by simp
  split
  · next q =>
    refine wpAny_bind (wpAny_pure ?_)
    rw [if_neg (by decide)]
    refine wpAny_pure ?_
    have : ps = [] := by
      have : (strValues ps) = [] := by simpa using q
      simpa [strValues] using this
    subst this
    rw [he]
    exact h _ _
  · rw [if_pos (by rfl)]
    refine wpAny_bind (SC.join (l := ps) (texts := ps.map (·.1)) ⟨_, hls, rfl, _, rfl⟩ rfl ?_ fun tv tk => ?_)
    · rw [he]
      refine joinOk_empty _ ?_
      rw [List.flatMap_map]
      exact hz
    · rw [if_neg (by decide)]
      refine wpAny_pure ?_
      rw [he, join_empty, List.flatMap_map]
      exact h _ _
def lArgs (P l : Addr) (x r : Str) (t tr : Tok) (n k : Int) : Args := ⟨[.ref P, .str x t, .str r tr, rawInt 0, rawInt 0, rawInt n, rawInt k, rawInt k, .bool false, .ref l, .bool false], []⟩

theorem subLoop {c : Array Nat} {rl : List Nat} (pat : Pat c rl) {P ct l : Addr} {src fl : Value} {x r : Str} {t tr : Tok} (hr : r.cps.toList = rl) (hx : x.cps.size ≤ 2 ^ 22) (hB : Heap) (hP : hB.get? P = some (patObj src fl ct 0)) (hC : hB.get? ct = some (codeObj c)) (hl : hB.get? l = none)
    (hrl : rl.length ≤ 2) {R : Result → Shared → Prop} : ∀ (d k : Nat) (n : Int) (ps : List (Str × Tok)) (nn : Nat) (s : Shared), d = x.cps.size - k → k ≤ x.cps.size → Keeps hB s.heap →
      s.heap.get? l = some { cls := .type "list", data := .seq (strValues ps).toArray nn } → ps.length ≤ 2 * k → (cpsAll ps).length ≤ 2 * k →
      (∀ h' tv tk, Keeps hB h' → R (.ok (.ret (.str ⟨(cpsAll ps ++ pat.rest x.cps k).toArray⟩ tv))) { s with heap := h', toks := tk }) →
      codeAny (model prog w) A (.builtin "re.Pattern.sub.loop" (lArgs P l x r t tr n (k : Int))) R s := by
  intro d
  induction d using Nat.strongRecOn with
  | ind d ih =>
    intro k n ps nn s hd hk hkeep hls hpl hsl hR
    have hq : (Code.builtin "re.Pattern.sub.loop" (lArgs P l x r t tr n (k : Int))).quiet = true := plainId_quiet plain_subLoop _
    refine codeAny_builtin entry_subLoop ?_
    rw [Around.under_plainId plain_subLoop]
    unfold Builtin.«re.Pattern.sub.loop»
    simp only [lArgs, rawInt]
    refine wpAny_bind (wholeTarget (hkeep _ _ hP) (hkeep _ _ hC) ?_)
    rw [if_pos (by rfl)]
    unfold reLiteralCannotBeTurned
    refine wpAny_bind (wpAny_bind (wpAny_pure (wpAny_pure ?_)))
    rw [if_neg (by rw [show ((0 : Int) != 0) = false from rfl, Bool.false_and]; decide)]
    obtain ⟨N, m', hN, hto, hm⟩ := pat.finds x.cps k hk (by omega)
    unfold reNextFound
    dsimp only
    have hres : ((k : Int)).toNat = k := rfl
    simp only [hres]
    cases hnx : pat.next x.cps k with
    | none =>
      rw [hnx] at hm
      refine wpAny_bind (runToEnd hto hN (.inr ⟨hm, ?_⟩))
      dsimp only
      have hrest := pat.none_ x.cps k hk hnx
      split
      · next hlt =>
        refine wpAny_bind (slice_ hx ?_)
        refine wpAny_bind (pushL hl hkeep hls (by simp only [strValues, List.length_map]; omega) fun h' nn' hk' hl' => ?_)
        have hcat : cpsAll (ps ++ [((⟨x.cps.extract k x.cps.size⟩ : Str), s.toks)]) = cpsAll ps ++ pat.rest x.cps k := by
          rw [cpsAll_append, hrest]
          simp [cpsAll, Array.toList_extract]
          rw [List.take_of_length_le (by simp)]
        refine joinEnd (ps := ps ++ [(⟨x.cps.extract k x.cps.size⟩, s.toks)]) hx hk' (by simpa [strValues] using hl') ?_ fun tv tk => ?_
        · rw [hcat, hrest]
          simp; omega
        · rw [hcat]
          exact hR _ _ _ hk'
      · next hlt =>
        have : pat.rest x.cps k = [] := by rw [hrest]; exact List.drop_eq_nil_of_le (by simp; omega)
        refine joinEnd hx hkeep hls (by omega) fun tv tk => ?_
        have := hR s.heap tv tk hkeep
        rw [‹pat.rest x.cps k = []›, List.append_nil] at this
        exact this
    | some pe =>
      obtain ⟨p, e⟩ := pe
      rw [hnx] at hm
      obtain ⟨h1, h2, h3⟩ := pat.inside _ _ _ _ hnx
      refine wpAny_bind (runToEnd hto hN (.inl ⟨hm.1, ?_⟩))
      dsimp only
      rw [hm.2.1, hm.2.2]
      have hrest := pat.some_ x.cps k p e hk hnx
      have hne : (e == p) = false := by simp; omega
      rw [hne]
      have hrlen : r.cps.toList.length ≤ 2 := by rw [hr]; exact hrl
      -- behind the piece ahead of the match
      have go : ∀ (ps' : List (Str × Tok)) (nn' : Nat) (s' : Shared), s'.gens = s.gens → s'.drawn = s.drawn → s'.os = s.os → Keeps hB s'.heap →
          s'.heap.get? l = some { cls := .type "list", data := .seq (strValues ps').toArray nn' } → cpsAll ps' = cpsAll ps ++ (x.cps.toList.drop k).take (p - k) → ps'.length ≤ ps.length + (p - k) →
          wpAny (model prog w) A.in1 (if ((0 : Int) == 0) = true then do
              let item ← pure (Value.str r tr)
              if (item != Value.none) = true then do
                  updateSeq l fun x => x.push item
                  again (Code.builtin "re.Pattern.sub.loop" { pos := [Value.ref P, Value.str x t, Value.str r tr, Value.int 0 0, Value.int 0 0, Value.int (n + 1) 0, Value.int (↑e) 0, Value.int (↑e) 0, Value.bool false, Value.ref l, Value.bool false] })
                else again (Code.builtin "re.Pattern.sub.loop" { pos := [Value.ref P, Value.str x t, Value.str r tr, Value.int 0 0, Value.int 0 0, Value.int (n + 1) 0, Value.int (↑e) 0, Value.int (↑e) 0, Value.bool false, Value.ref l, Value.bool false] })
            else do
              let found ← reNewMatch (Value.ref P) (Value.str x t) 0 0 x.cps.size m'
              let item ← holding [found] (if ((0 : Int) == 1) = true then call (Value.str r tr) [found]
                  else do
                    let f ← reFound found
                    reExpand (Value.str r tr) f)
              if (item != Value.none) = true then do
                  updateSeq l fun x => x.push item
                  again (Code.builtin "re.Pattern.sub.loop" { pos := [Value.ref P, Value.str x t, Value.str r tr, Value.int 0 0, Value.int 0 0, Value.int (n + 1) 0, Value.int (↑e) 0, Value.int (↑e) 0, Value.bool false, Value.ref l, Value.bool false] })
                else again (Code.builtin "re.Pattern.sub.loop" { pos := [Value.ref P, Value.str x t, Value.str r tr, Value.int 0 0, Value.int 0 0, Value.int (n + 1) 0, Value.int (↑e) 0, Value.int (↑e) 0, Value.bool false, Value.ref l, Value.bool false] }))
            (fun fin s' => match fin with
              | Fin.done f => R (Except.ok f) s'
              | Fin.again c' => c'.quiet = true ∧ codeAny (model prog w) A c' R s')
            (fun e s' => R (Except.error e) s') s' := by
        intro ps' nn' s' hg hdr hos hk' hl' hcat hlen
        rw [if_pos (by rfl)]
        refine wpAny_bind (wpAny_pure ?_)
        have hcl : (cpsAll ps').length ≤ 2 * k + (p - k) := by
          rw [hcat, List.length_append, List.length_take]; omega
        rw [if_pos (by rfl)]
        refine wpAny_bind (pushL hl hk' hl' (by simp only [strValues, List.length_map]; omega) fun h'' nn'' hk'' hl'' => ?_)
        refine wpAny_pure ⟨plainId_quiet plain_subLoop _, ?_⟩
        refine ih (x.cps.size - e) (by omega) e (n + 1) (ps' ++ [(r, tr)]) nn'' _ rfl h3 hk'' (by simpa [strValues] using hl'') (by simp; omega) ?_ fun h3 tv tk hk3 => ?_
        · rw [cpsAll_append, List.length_append]
          simp only [cpsAll, List.flatMap_cons, List.flatMap_nil, List.append_nil]
          simp only [cpsAll] at hcl
          omega
        · have := hR h3 tv tk hk3
          rw [hrest] at this
          have e2 : cpsAll (ps' ++ [(r, tr)]) ++ pat.rest x.cps e = cpsAll ps ++ ((x.cps.toList.drop k).take (p - k) ++ (rl ++ pat.rest x.cps e)) := by
            rw [cpsAll_append, hcat]
            simp [cpsAll, hr]
          rw [e2]
          show R _ { heap := h3, gens := s'.gens, drawn := s'.drawn, toks := tk, os := s'.os }
          rw [hg, hdr, hos]
          exact this
      split
      · next hlt =>
        refine wpAny_bind (slice_ hx ?_)
        refine wpAny_bind (pushL hl hkeep hls (by simp only [strValues, List.length_map]; omega) fun h' nn' hk' hl' => ?_)
        refine go (ps ++ [(⟨x.cps.extract k p⟩, s.toks)]) nn' _ rfl rfl rfl hk' (by simpa [strValues] using hl') ?_ (by simp; omega)
        rw [cpsAll_append]
        simp [cpsAll, Array.toList_extract]
      · next hlt =>
        refine go ps nn s rfl rfl rfl hkeep hls ?_ (by omega)
        have : p - k = 0 := by omega
        rw [this]; simp
end
end Mine

end

/-! RxSub -/
section
open PySem PySem.W PyProof.Rows
namespace Mine
open PySem.Builtin PySem.Builtin.Re

theorem slot_re_sub : Slot "re.Pattern" "sub" "re.Pattern.sub" :=
  .of (owner := "re.Pattern") (n := "sub") (by rw [typeLookup_type, builtinLookup_eq_fast]; kernel_rfl) (by decide +kernel) (by decide +kernel) (by decide +kernel)
    (by first | exact .inl (by decide +kernel) | exact .inr (by decide +kernel)) (by rw [isSubtype_type]; kernel_rfl)
theorem owner_re : Manifest.owners.lookup (String.ofList ['n', 'r', 'e', 't', 't', 'a', 'P', '.', 'e', 'r'].reverse) = some Manifest.sig_re_Pattern := by kernel_rfl
theorem args_re_sub (a b c : Value) : argsOk "re.Pattern.sub" ⟨[a, b, c], []⟩ := by
  unfold argsOk
  rw [signature?_of (id := "re.Pattern.sub") (n := ['b', 'u', 's']) (o := ['n', 'r', 'e', 't', 't', 'a', 'P', '.', 'e', 'r']) (by kernel_rfl) owner_re]
  kernel_rfl
theorem str_nocall : typeLookup (.type "str") "__call__" = pure none := by rw [typeLookup_type, builtinLookup_eq_fast]; kernel_rfl
theorem named_sub (r x : Value) : reNamed "re.Pattern.sub" "sub" ["repl", "string", "count"] 2 [r, x] [] = pure [some r, some x, none] := by
  rfl

section
variable {prog : Program} {w : World} {A : Around} {E : Value → Shared → Prop} {s : Shared}
theorem call_sub {c : Array Nat} {rl : List Nat} (pat : Pat c rl) {P ct : Addr} {src fl : Value} {x r : Str} {t tr : Tok} {Q : Value → Shared → Prop} (hr : r.cps.toList = rl) (hno : r.cps.contains 92 = false) (hx : x.cps.size ≤ 2 ^ 22) (hrl : rl.length ≤ 2)
    (hP : s.heap.get? P = some (patObj src fl ct 0)) (hC : s.heap.get? ct = some (codeObj c))
    (h : ∀ h' tv tk, Keeps s.heap h' → Q (.str ⟨(pat.rest x.cps 0).toArray⟩ tv) { s with heap := h', toks := tk }) :
    wpAny (model prog w) A (call (.builtin "re.Pattern.sub") [.ref P, .str r tr, .str x t]) Q E s := by
  refine wpAny_call (codeAny_call_builtin slot_re_sub.plain entry_sub (slot_re_sub.check _ _ _ _ _ _ _ _ ⟨_, hP, rfl⟩ (args_re_sub _ _ _) ?_))
  unfold Builtin.«re.Pattern.sub» reSubstitute
  dsimp only
  rw [named_sub]
  refine wpAny_bind (wpAny_pure ?_)
  dsimp only
  refine wpAny_bind (wpAny_pure ?_)
  refine wpAny_bind (wpAny_specialOf_val rfl str_nocall ?_)
  rw [if_neg (by decide)]
  refine wpAny_bind (wpAny_pure ?_)
  dsimp only
  refine wpAny_bind (wpAny_pure ?_)
  rw [hno]
  rw [if_neg (by decide), if_pos (by rfl)]
  refine wpAny_bind (wpAny_pure ?_)
  dsimp only
  refine wpAny_bind (wpAny_holding (wholeTarget hP hC ?_))
  rw [if_neg (by decide)]
  refine wpAny_bind (wpAny_newList ?_)
  refine wpAny_pure ⟨plainId_quiet plain_subLoop _, ?_⟩
  have hnone : s.heap.get? s.heap.objs.size = none := by
    cases e : s.heap.get? s.heap.objs.size with
    | none => rfl
    | some o => exact absurd (Heap.lt_size e) (Nat.lt_irrefl _)
  refine subLoop pat hr hx s.heap hP hC hnone hrl (x.cps.size) 0 0 [] 0 _ rfl (Nat.zero_le _) (fun b o e => Heap.get?_push_of_some _ e) (Heap.get?_push_size _ rfl) (Nat.le_refl _) (Nat.le_refl _) fun h' tv tk hk => ?_
  exact h h' tv tk hk

theorem re_ga : typeLookup (.type "re.Pattern") "__getattribute__" = pure (some (.builtin "object.__getattribute__")) := by rw [typeLookup_type, builtinLookup_eq_fast]; kernel_rfl
theorem re_noga : typeLookup (.type "re.Pattern") "__getattr__" = pure none := by rw [typeLookup_type, builtinLookup_eq_fast]; kernel_rfl
theorem re_ga_canon : (Manifest.canonical "object.__getattribute__" != "object.__getattribute__") = false := by decide +kernel
theorem re_sub_type : typeOf (.builtin "re.Pattern.sub") = pure (.type "method_descriptor") := by show builtinType _ = _; rw [builtinType_eq_fast]; kernel_rfl
theorem getMethod_sub {M : Model} {P ct : Addr} {src fl : Value} {k : Int} {pl : Sem Bool} {Q : Value × List Value → Shared → Prop} (hP : s.heap.get? P = some (patObj src fl ct k)) (h : Q (.builtin "re.Pattern.sub", [.ref P]) s) :
    wpAny M A (getMethod (.ref P) "sub" pl) Q E s := by
  have hT : s.TypeIs (.ref P) "re.Pattern" := ⟨_, hP, rfl⟩
  unfold getMethod
  refine wpAny_bind (wpAny_specialOf hT re_ga ?_)
  dsimp only
  rw [if_neg (by rw [re_ga_canon]; decide)]
  refine wpAny_bind (wpAny_specialOf hT re_noga ?_)
  rw [if_neg (by decide)]
  refine wpAny_bind (wpAny_specialOf hT slot_re_sub.lookup ?_)
  dsimp only
  refine wpAny_bind (wpAny_of_eq re_sub_type ?_)
  rw [if_neg (by decide)]
  refine wpAny_bind (wpAny_loadPart hP ?_)
  exact wpAny_bind (wpAny_rule (wpAny_pure h))

def fixS (x : Str) : Str := ⟨(fixL x.cps.toList).toArray⟩
def dotS (x : Str) : Str := ⟨(dotL true x.cps.toList).toArray⟩
theorem call_fix {h₀ : Heap} {L : Addr} {m : Str → Option Value} {news : List (Addr × Obj)} {P ct : Addr} {src fl : Value} {x r : Str} {t tr : Tok} {Q : Value → Shared → Prop} (F : Fr h₀ L s.heap m) (N : News h₀ L s.heap news)
    (hP : h₀.get? P = some (patObj src fl ct 0)) (hC : h₀.get? ct = some (codeObj c3)) (hr : r.cps.toList = [13, 10]) (hx : x.length ≤ 4194304)
    (h : ∀ h' tv tk, (fixS x).length ≤ 2 * x.length → Fr h₀ L h' m → News h₀ L h' news → Q (.str (fixS x) tv) { s with heap := h', toks := tk }) :
    wpAny (model prog w) A (call (.builtin "re.Pattern.sub") [.ref P, .str r tr, .str x t]) Q E s := by
  refine call_sub fixPat hr ?_ (by show x.length ≤ 2 ^ 22; omega) (by decide) (F.keep _ _ hP) (F.keep _ _ hC) fun h' tv tk hk => h h' tv tk ?_ (F.keeps hk) (N.grown hk)
  · rw [← Array.contains_toList, hr]; rfl
  · show (fixL _).toArray.size ≤ 2 * x.cps.size
    rw [List.size_toArray]
    exact fixL_length _
theorem call_dot {h₀ : Heap} {L : Addr} {m : Str → Option Value} {news : List (Addr × Obj)} {P ct : Addr} {src fl : Value} {x r : Str} {t tr : Tok} {Q : Value → Shared → Prop} (F : Fr h₀ L s.heap m) (N : News h₀ L s.heap news)
    (hP : h₀.get? P = some (patObj src fl ct 0)) (hC : h₀.get? ct = some (codeObj c1)) (hr : r.cps.toList = [46, 46]) (hx : x.length ≤ 4194304)
    (h : ∀ h' tv tk, (dotS x).length ≤ 2 * x.length → Fr h₀ L h' m → News h₀ L h' news → Q (.str (dotS x) tv) { s with heap := h', toks := tk }) :
    wpAny (model prog w) A (call (.builtin "re.Pattern.sub") [.ref P, .str r tr, .str x t]) Q E s := by
  refine call_sub dotPat hr ?_ (by show x.length ≤ 2 ^ 22; omega) (by decide) (F.keep _ _ hP) (F.keep _ _ hC) fun h' tv tk hk => h h' tv tk ?_ (F.keeps hk) (N.grown hk)
  · rw [← Array.contains_toList, hr]; rfl
  · show (dotL _ _).toArray.size ≤ 2 * x.cps.size
    rw [List.size_toArray]
    exact dotL_length _ _
end
end Mine

end

/-! P03 -/
section
open PySem PySem.W PyProof.Rows
namespace Mine
def restL : List Str := [Str.ofString "", Str.ofString "a", Str.ofString "a.", Str.ofString " .b", Str.ofString "\x0c.", Str.ofString "\u2029.."]
def endL : List Str := [Str.ofString "\r\n", Str.ofString "\n", Str.ofString "\r"]
def lastL : List Str := [Str.ofString "", Str.ofString "c."]
def restT (n : Int) : Str := restL.getD (Int.fmod (Int.fdiv n 4) 6).toNat Str.empty
def endT (n : Int) : Str := endL.getD (Int.fmod (Int.fdiv n 24) 3).toNat Str.empty
def lastT (n : Int) : Str := lastL.getD (Int.fmod (Int.fdiv n 9) 2).toNat Str.empty
theorem fm_lo (a : Int) {n : Int} (h : 0 < n) : 0 ≤ Int.fmod a n := Int.fmod_nonneg_of_pos a h
theorem fm_hi (a : Int) {n : Int} (h : 0 < n) : Int.fmod a n < n := Int.fmod_lt_of_pos a h

/-! plain lists -/
def Plain (l : List Nat) : Prop := ∀ c ∈ l, c ≠ 10 ∧ c ≠ 13
theorem fixL_app : ∀ {p : List Nat} (l : List Nat), Plain p → fixL (p ++ l) = p ++ fixL l
  | [], _, _ => rfl
  | c :: r, l, h => by
    have hc := h c (.head _)
    rw [List.cons_append, fixL_plain hc.1 hc.2, fixL_app l (fun d hd => h d (.tail _ hd)), List.cons_append]
theorem dotL_false : ∀ {p : List Nat} (l : List Nat), Plain p → dotL false (p ++ l) = p ++ dotL false l
  | [], _, _ => rfl
  | c :: r, l, h => by
    have hc := h c (.head _)
    have e : (c == 10) = false := by simpa using hc.1
    rw [List.cons_append, dotL, e, dotL_false l (fun d hd => h d (.tail _ hd))]
    rfl
def skip : Bool → List Nat → List Nat
  | true, 10 :: r => r
  | _, l => l
theorem fix_crX (X : List Nat) : fixL (13 :: X) = 13 :: 10 :: fixL (skip true X) := by
  by_cases h : ∃ r, X = 10 :: r
  · obtain ⟨r, rfl⟩ := h
    rw [fixL_crlf]; rfl
  · rw [fixL_cr (fun r e => h ⟨r, e⟩)]
    congr 3
    cases X with
    | nil => rfl
    | cons c r =>
      by_cases hc : c = 10
      · exact absurd ⟨r, by rw [hc]⟩ h
      · unfold skip
        split
        · next hh => injection hh with hh; exact absurd hh hc
        · rfl

/-- a row: its dots, its rest -/
abbrev Row := Nat × List Nat
def RowOk (r : Row) : Prop := Plain r.2 ∧ ∀ t, r.2 ≠ 46 :: t
def dots (d k : Nat) : List Nat := List.replicate (if d = 0 then 0 else d + k) 46
def cat (k : Nat) (rows : List Row) : List Nat := rows.flatMap fun r => dots r.1 k ++ (r.2 ++ [13, 10])
theorem plain_dots (d k : Nat) : Plain (dots d k) := fun c hc => by
  have := List.eq_of_mem_replicate hc
  omega
theorem plain_append {a b : List Nat} (ha : Plain a) (hb : Plain b) : Plain (a ++ b) := fun c hc => (List.mem_append.mp hc).elim (ha c) (hb c)
theorem dotL_row {r : Row} (h : RowOk r) (k : Nat) (l : List Nat) : dotL true (dots r.1 k ++ (r.2 ++ l)) = dots r.1 (k + 1) ++ (r.2 ++ dotL (decide (dots r.1 k ++ r.2 = [])) l) := by
  obtain ⟨d, p⟩ := r
  obtain ⟨hp, hd⟩ := h
  dsimp only at hp hd ⊢
  by_cases h0 : d = 0
  · subst h0
    simp only [dots, if_pos, List.replicate_zero, List.nil_append]
    cases p with
    | nil => rfl
    | cons c q =>
      have hc := hp c (.head _)
      have e : (c == 10) = false := by simpa using hc.1
      have e4 : (c == 46) = false := by simpa using fun e => hd q (by rw [e])
      rw [List.cons_append, dotL, e, e4, dotL_false l (fun x hx => hp x (.tail _ hx))]
      simp
  · simp only [dots, if_neg h0]
    obtain ⟨m, hm⟩ : ∃ m, d + k = m + 1 := ⟨d + k - 1, by omega⟩
    have e2 : d + (k + 1) = m + 1 + 1 := by omega
    rw [hm, e2, List.replicate_succ, List.cons_append, dotL]
    have hpl : Plain (List.replicate m 46 ++ p) := plain_append (fun c hc => by have := List.eq_of_mem_replicate hc; omega) hp
    have : dotL (46 == 10) (List.replicate m 46 ++ (p ++ l)) = List.replicate m 46 ++ p ++ dotL false l := by
      rw [← List.append_assoc]
      exact dotL_false l hpl
    rw [this]
    simp [List.replicate_succ]
theorem dotL_crlf (b : Bool) (l : List Nat) : dotL b (13 :: 10 :: l) = 13 :: 10 :: dotL true l := by
  simp [dotL]
theorem dotL_cat (k : Nat) (fin : Row) (hf : RowOk fin) : ∀ rows : List Row, (∀ r ∈ rows, RowOk r) → dotL true (cat k rows ++ (dots fin.1 k ++ fin.2)) = cat (k + 1) rows ++ (dots fin.1 (k + 1) ++ fin.2)
  | [], _ => by
    have := dotL_row hf k []
    rw [List.append_nil] at this
    simpa [cat, dotL] using this
  | r :: rs, h => by
    have hr := h r (.head _)
    have ih := dotL_cat k fin hf rs (fun x hx => h x (.tail _ hx))
    unfold cat at ih ⊢
    rw [List.flatMap_cons, List.flatMap_cons, List.append_assoc, List.append_assoc, List.append_assoc, List.append_assoc, dotL_row hr, List.cons_append, List.cons_append, List.nil_append, dotL_crlf, ih]
    simp
theorem fixL_cat (k : Nat) (t : List Nat) (ht : Plain t) : ∀ rows : List Row, (∀ r ∈ rows, RowOk r) → fixL (cat k rows ++ t) = cat k rows ++ t
  | [], _ => by
    have := fixL_app [] ht
    simpa [cat, fixL] using this
  | r :: rs, h => by
    have hr := h r (.head _)
    have ih := fixL_cat k t ht rs (fun x hx => h x (.tail _ hx))
    unfold cat at ih ⊢
    rw [List.flatMap_cons, List.append_assoc, List.append_assoc, List.append_assoc, fixL_app _ (plain_dots _ _), fixL_app _ hr.1, List.cons_append, List.cons_append, List.nil_append, fixL_crlf, ih]

/-! the texts -/
theorem mul_dots {k : Int} (h : 0 ≤ k) : (Txt.mul (Str.ofString ".") k).cps.toList = List.replicate k.toNat 46 := by
  have S_dot : Str.ofString "." = ⟨#[46]⟩ := by decide +kernel
  rw [S_dot]
  unfold Txt.mul
  split
  · next q => have : k = 0 := by omega
              subst this; rfl
  · split
    · next q =>
      have : k = 1 := by simpa [Str.length] using q
      subst this; rfl
    · have : ∀ (n : Nat) (acc : Array Nat), ((List.replicate n (#[46] : Array Nat)).foldl (· ++ ·) acc).toList = acc.toList ++ List.replicate n 46 := by
        intro n
        induction n with
        | zero => intro acc; simp
        | succ n ih => intro acc; rw [List.replicate_succ, List.foldl_cons, ih, List.replicate_succ]; simp
      rw [this]; simp
theorem rest_ok (n : Int) : RowOk (0, (restT n).cps.toList) := by
  have key : ∀ j, j < 6 → (∀ c ∈ (restL.getD j Str.empty).cps.toList, c ≠ 10 ∧ c ≠ 13) ∧ ((restL.getD j Str.empty).cps.toList.head? ≠ some 46) := by decide +kernel
  have h0 := fm_lo (Int.fdiv n 4) (n := 6) (by decide)
  have h1 := fm_hi (Int.fdiv n 4) (n := 6) (by decide)
  have := key (Int.fmod (Int.fdiv n 4) 6).toNat (by omega)
  exact ⟨this.1, fun t e => this.2 (by have e' : (restT n).cps.toList = 46 :: t := e; show List.head? (restT n).cps.toList = _; rw [e']; rfl)⟩
theorem last_ok (n : Int) : RowOk (0, (lastT n).cps.toList) := by
  have key : ∀ j, j < 2 → (∀ c ∈ (lastL.getD j Str.empty).cps.toList, c ≠ 10 ∧ c ≠ 13) ∧ ((lastL.getD j Str.empty).cps.toList.head? ≠ some 46) := by decide +kernel
  have h0 := fm_lo (Int.fdiv n 9) (n := 2) (by decide)
  have h1 := fm_hi (Int.fdiv n 9) (n := 2) (by decide)
  have := key (Int.fmod (Int.fdiv n 9) 2).toNat (by omega)
  exact ⟨this.1, fun t e => this.2 (by have e' : (lastT n).cps.toList = 46 :: t := e; show List.head? (lastT n).cps.toList = _; rw [e']; rfl)⟩
theorem end_cases (n : Int) : endT n = ⟨#[13, 10]⟩ ∨ endT n = ⟨#[10]⟩ ∨ endT n = ⟨#[13]⟩ := by
  have key : ∀ j, j < 3 → (endL.getD j Str.empty = ⟨#[13, 10]⟩ ∨ endL.getD j Str.empty = ⟨#[10]⟩ ∨ endL.getD j Str.empty = ⟨#[13]⟩) := by decide +kernel
  have h0 := fm_lo (Int.fdiv n 24) (n := 3) (by decide)
  have h1 := fm_hi (Int.fdiv n 24) (n := 3) (by decide)
  exact key (Int.fmod (Int.fdiv n 24) 3).toNat (by omega)

def Inv3 (R : Int) (text due : Str) (ret : Bool) : Prop := ∃ rows : List Row, (∀ r ∈ rows, RowOk r) ∧ due.cps.toList = cat R.toNat rows ∧ ∀ X, fixL (text.cps.toList ++ X) = cat 0 rows ++ fixL (skip ret X)
def absorb (r : Bool) (n : Int) : Bool := r && decide (Int.fmod n 4 = 0) && (restT n == Str.ofString "") && (endT n == Str.ofString "\n")
abbrev rowS (n : Int) : Str := (Txt.mul (Str.ofString ".") (Int.fmod n 4) ++ restT n) ++ endT n
theorem cps_app (a b : Str) : (a ++ b).cps.toList = a.cps.toList ++ b.cps.toList := by rw [Str.cps_append, Array.toList_append]
theorem S3_nil : Str.ofString "" = ⟨#[]⟩ := by decide +kernel
theorem S3_lf : Str.ofString "\n" = ⟨#[10]⟩ := by decide +kernel
theorem S3_cr : Str.ofString "\r" = ⟨#[13]⟩ := by decide +kernel
theorem S3_crlf : Str.ofString "\r\n" = ⟨#[13, 10]⟩ := by decide +kernel
theorem inv3_start (R : Int) : Inv3 R (Str.ofString "") (Str.ofString "") false :=
  ⟨[], fun _ h => (nomatch h), by rw [S3_nil]; rfl, fun X => by rw [S3_nil]; cases X <;> rfl⟩
theorem way_a {R n : Int} {text due : Str} {ret : Bool} (h : Inv3 R text due ret) (ha : absorb ret n = true) : Inv3 R (text ++ rowS n) due false := by
  obtain ⟨rows, h1, h2, h3⟩ := h
  simp only [absorb, Bool.and_eq_true, decide_eq_true_eq, beq_iff_eq] at ha
  obtain ⟨⟨⟨ha1, ha2⟩, ha3⟩, ha4⟩ := ha
  refine ⟨rows, h1, h2, fun X => ?_⟩
  have e : (text ++ rowS n).cps.toList = text.cps.toList ++ [10] := by
    rw [cps_app, cps_app, cps_app, mul_dots (by omega), ha2, ha3, ha4, S3_nil, S3_lf]; rfl
  rw [e, List.append_assoc, h3, ha1]
  cases X <;> rfl
theorem way_core {R n : Int} {text due : Str} {ret : Bool} (h : Inv3 R text due ret) (hR : 0 ≤ R) (ha : absorb ret n = false) (due' : Str)
    (hd : due'.cps.toList = due.cps.toList ++ (dots (Int.fmod n 4).toNat R.toNat ++ ((restT n).cps.toList ++ [13, 10]))) : Inv3 R (text ++ rowS n) due' (endT n == Str.ofString "\r") := by
  obtain ⟨rows, h1, h2, h3⟩ := h
  have hro := rest_ok n
  have h0 := fm_lo n (n := 4) (by decide)
  have hok : RowOk ((Int.fmod n 4).toNat, (restT n).cps.toList) := hro
  refine ⟨rows ++ [((Int.fmod n 4).toNat, (restT n).cps.toList)], fun r hr => ?_, ?_, fun X => ?_⟩
  · rcases List.mem_append.mp hr with hr | hr
    · exact h1 r hr
    · rw [List.mem_singleton.mp hr]; exact hok
  · rw [hd, h2]; simp [cat]
  · have ed : (Txt.mul (Str.ofString ".") (Int.fmod n 4)).cps.toList = dots (Int.fmod n 4).toNat 0 := by
      rw [mul_dots h0]; unfold dots; split
      · next q => rw [q]
      · rfl
    have e : (text ++ rowS n).cps.toList ++ X = text.cps.toList ++ ((dots (Int.fmod n 4).toNat 0 ++ (restT n).cps.toList) ++ ((endT n).cps.toList ++ X)) := by
      rw [cps_app, cps_app, cps_app, ed]; simp
    have hns : skip ret ((dots (Int.fmod n 4).toNat 0 ++ (restT n).cps.toList) ++ ((endT n).cps.toList ++ X)) = (dots (Int.fmod n 4).toNat 0 ++ (restT n).cps.toList) ++ ((endT n).cps.toList ++ X) := by
      cases ret with
      | false => unfold skip; split <;> first | rfl | (next hh _ => cases hh)
      | true =>
        have hpl : Plain (dots (Int.fmod n 4).toNat 0 ++ (restT n).cps.toList) := plain_append (plain_dots _ _) hro.1
        cases hl : (dots (Int.fmod n 4).toNat 0 ++ (restT n).cps.toList) with
        | cons c q =>
          rw [hl] at hpl
          have := (hpl c (.head _)).1
          rw [List.cons_append]
          unfold skip
          split
          · next hh => injection hh with hh; exact absurd hh this
          · rfl
        | nil =>
          obtain ⟨hl1, hl2⟩ := List.append_eq_nil_iff.mp hl
          have hz : Int.fmod n 4 = 0 := by
            by_cases q : (Int.fmod n 4).toNat = 0
            · omega
            · unfold dots at hl1
              rw [if_neg q] at hl1
              have := congrArg List.length hl1
              simp at this
              omega
          have hr0 : restT n = Str.ofString "" := by
            rw [S3_nil]
            cases hh : restT n with
            | mk a => rw [hh] at hl2; have : a = #[] := by simpa using hl2
                      rw [this]
          have hen : endT n ≠ ⟨#[10]⟩ := by
            intro q
            simp [absorb, hz, hr0, q, S3_lf] at ha
          rcases end_cases n with q | q | q
          · rw [q]; rfl
          · exact absurd q hen
          · rw [q]; rfl
    rw [e, h3, hns, fixL_app _ (plain_append (plain_dots _ _) hro.1)]
    have hcat : cat 0 (rows ++ [((Int.fmod n 4).toNat, (restT n).cps.toList)]) = cat 0 rows ++ (dots (Int.fmod n 4).toNat 0 ++ ((restT n).cps.toList ++ [13, 10])) := by simp [cat]
    rw [hcat]
    have fin : fixL ((endT n).cps.toList ++ X) = 13 :: 10 :: fixL (skip (endT n == Str.ofString "\r") X) := by
      rcases end_cases n with q | q | q
      · rw [q, S3_cr]
        show fixL (13 :: 10 :: X) = _
        rw [fixL_crlf]
        cases X <;> rfl
      · rw [q, S3_cr]
        show fixL (10 :: X) = _
        rw [fixL_lf]
        cases X <;> rfl
      · rw [q, S3_cr]
        show fixL (13 :: X) = _
        rw [fix_crX]
        rfl
    rw [fin]
    simp
theorem way_b {R n : Int} {text due : Str} {ret : Bool} (h : Inv3 R text due ret) (hR : 0 ≤ R) (ha : absorb ret n = false) (hd : 0 < Int.fmod n 4) :
    Inv3 R (text ++ rowS n) ((due ++ Txt.mul (Str.ofString ".") (Int.fmod n 4 + R)) ++ (restT n ++ Str.ofString "\r\n")) (endT n == Str.ofString "\r") := by
  refine way_core h hR ha _ ?_
  rw [cps_app, cps_app, cps_app, mul_dots (by omega), S3_crlf, List.append_assoc]
  have : (Int.fmod n 4 + R).toNat = (Int.fmod n 4).toNat + R.toNat := by omega
  rw [this]; unfold dots; rw [if_neg (by omega)]
theorem way_c {R n : Int} {text due : Str} {ret : Bool} (h : Inv3 R text due ret) (hR : 0 ≤ R) (ha : absorb ret n = false) (hd : ¬ 0 < Int.fmod n 4) :
    Inv3 R (text ++ rowS n) (due ++ (restT n ++ Str.ofString "\r\n")) (endT n == Str.ofString "\r") := by
  refine way_core h hR ha _ ?_
  have h0 := fm_lo n (n := 4) (by decide)
  rw [cps_app, cps_app, S3_crlf]
  unfold dots; rw [if_pos (by omega)]; rfl
theorem ab_t {r : Bool} {n : Int} (h1 : r = true) (h2 : Int.fmod n 4 = 0) (h3 : (restT n == Str.ofString "") = true) (h4 : (endT n == Str.ofString "\n") = true) : absorb r n = true := by
  simp only [absorb, h1, h2, h3, h4]; rfl
theorem ab_1 {r : Bool} {n : Int} (h : r = false) : absorb r n = false := by simp [absorb, h]
theorem ab_2 {r : Bool} {n : Int} (h : ¬ Int.fmod n 4 = 0) : absorb r n = false := by simp [absorb, h]
theorem ab_3 {r : Bool} {n : Int} (h : (restT n == Str.ofString "") = false) : absorb r n = false := by simp only [absorb, h, Bool.and_false, Bool.false_and]
theorem ab_4 {r : Bool} {n : Int} (h : (endT n == Str.ofString "\n") = false) : absorb r n = false := by simp only [absorb, h, Bool.and_false]

def quoteS (x : Str) : Str := dotS (fixS x)
def iterQ : Nat → Str → Str
  | 0, x => x
  | k + 1, x => quoteS (iterQ k x)
theorem toArr (a : Str) (l : List Nat) (h : a.cps.toList = l) : a = ⟨l.toArray⟩ := by
  cases a with | mk c => rw [← h]
theorem law3_core {R : Int} {text due last : Str} {ret : Bool} {d : Nat} (h : Inv3 R text due ret) (hl : RowOk (0, last.cps.toList)) (hR : 1 ≤ R)
    (text' due' : Str) (ht : text'.cps.toList = text.cps.toList ++ (List.replicate d 46 ++ last.cps.toList)) (hd : due'.cps.toList = due.cps.toList ++ (dots d R.toNat ++ last.cps.toList)) : iterQ R.toNat text' = due' := by
  obtain ⟨rows, h1, h2, h3⟩ := h
  have hok : RowOk (d, last.cps.toList) := hl
  have hpl : Plain (dots d 0 ++ last.cps.toList) := plain_append (plain_dots _ _) hl.1
  have ed : List.replicate d 46 = dots d 0 := by
    unfold dots; split
    · next q => rw [q]
    · rfl
  have key : ∀ k, (iterQ (k + 1) text').cps.toList = cat (k + 1) rows ++ (dots d (k + 1) ++ last.cps.toList) := by
    intro k
    induction k with
    | zero =>
      show (dotL true (fixL text'.cps.toList).toArray.toList).toArray.toList = _
      rw [List.toList_toArray, List.toList_toArray, ht, h3, ed]
      have hs : skip ret (dots d 0 ++ last.cps.toList) = dots d 0 ++ last.cps.toList := by
        cases ret with
        | false => unfold skip; split <;> first | rfl | (next hh _ => cases hh)
        | true =>
          cases hq : (dots d 0 ++ last.cps.toList) with
          | nil => rfl
          | cons c q =>
            rw [hq] at hpl
            have := (hpl c (.head _)).1
            unfold skip
            split
            · next hh => injection hh with hh; exact absurd hh this
            · rfl
      have hfx : fixL (dots d 0 ++ last.cps.toList) = dots d 0 ++ last.cps.toList := by
        have := fixL_app [] hpl
        simpa [fixL] using this
      rw [hs, hfx, dotL_cat 0 (d, last.cps.toList) hok rows h1]
    | succ k ih =>
      show (dotL true (fixL (iterQ (k + 1) text').cps.toList).toArray.toList).toArray.toList = _
      rw [List.toList_toArray, List.toList_toArray, ih, fixL_cat _ _ (plain_append (plain_dots _ _) hl.1) rows h1, dotL_cat (k + 1) (d, last.cps.toList) hok rows h1]
  obtain ⟨k, hk⟩ : ∃ k, R.toNat = k + 1 := ⟨R.toNat - 1, by omega⟩
  have e1 := key k
  rw [← hk] at e1
  rw [toArr (iterQ R.toNat text') _ e1, toArr due' _ hd, h2]
theorem law3_b {R n : Int} {text due : Str} {ret : Bool} (h : Inv3 R text due ret) (hR : 1 ≤ R) (hd : 0 < Int.fmod (Int.fdiv n 3) 3) :
    iterQ R.toNat (text ++ (Txt.mul (Str.ofString ".") (Int.fmod (Int.fdiv n 3) 3) ++ lastT n)) = (due ++ Txt.mul (Str.ofString ".") (Int.fmod (Int.fdiv n 3) 3 + R)) ++ lastT n := by
  refine law3_core (d := (Int.fmod (Int.fdiv n 3) 3).toNat) h (last_ok n) hR _ _ ?_ ?_
  · rw [cps_app, cps_app, mul_dots (by omega)]
  · rw [cps_app, cps_app, mul_dots (by omega), List.append_assoc]
    have : (Int.fmod (Int.fdiv n 3) 3 + R).toNat = (Int.fmod (Int.fdiv n 3) 3).toNat + R.toNat := by omega
    rw [this]; unfold dots; rw [if_neg (by omega)]
theorem law3_c {R n : Int} {text due : Str} {ret : Bool} (h : Inv3 R text due ret) (hR : 1 ≤ R) (hd : ¬ 0 < Int.fmod (Int.fdiv n 3) 3) :
    iterQ R.toNat (text ++ (Txt.mul (Str.ofString ".") (Int.fmod (Int.fdiv n 3) 3) ++ lastT n)) = due ++ lastT n := by
  have h0 := fm_lo (Int.fdiv n 3) (n := 3) (by decide)
  refine law3_core (d := (Int.fmod (Int.fdiv n 3) 3).toNat) h (last_ok n) hR _ _ ?_ ?_
  · rw [cps_app, cps_app, mul_dots (by omega)]
  · rw [cps_app]
    unfold dots; rw [if_pos (by omega)]; rfl
end Mine

end

/-! W03 -/
section
open PySem PySem.W PyProof.Rows
namespace Mine
section
variable {prog : Program} {w : World} {A : Around} {E : Value → Shared → Prop} {s : Shared} {x y : Str} {t u : Tok} {Q : Value → Shared → Prop} {K L : Nat}
theorem addS (hx : x.length ≤ K) (hy : y.length ≤ L) (hs : K + L ≤ 1000000) (h : ∀ t' k, (x ++ y).length ≤ K + L → Q (.str (x ++ y) t') { s with toks := k }) : wpAny (model prog w) A (binaryOp .Add (.str x t) (.str y u)) Q E s :=
  SB.add (fun t' k => h t' k (by rw [Str.length_append]; omega)) (by show _ ≤ 2 ^ 24; omega)
theorem iaddS (hx : x.length ≤ K) (hy : y.length ≤ L) (hs : K + L ≤ 1000000) (h : ∀ t' k, (x ++ y).length ≤ K + L → Q (.str (x ++ y) t') { s with toks := k }) : wpAny (model prog w) A (inplaceOp .Add (.str x t) (.str y u)) Q E s :=
  SB.iadd (fun t' k => h t' k (by rw [Str.length_append]; omega)) (by show _ ≤ 2 ^ 24; omega)
theorem mulS {i : Int} (h0 : 0 ≤ i) (h1 : i ≤ 8) (h : ∀ t' k, (Txt.mul (Str.ofString ".") i).length ≤ 8 → Q (.str (Txt.mul (Str.ofString ".") i) t') { s with toks := k }) : wpAny (model prog w) A (binaryOp .Mult (.str (Str.ofString ".") t) (.int i u)) Q E s :=
  KXi.mul (n := 1) (by decide +kernel) (by decide) (by omega) (by omega) fun t' k _ _ => h t' k (by
    show (Txt.mul (Str.ofString ".") i).cps.size ≤ 8
    rw [← Array.length_toList, mul_dots h0, List.length_replicate]; omega)
theorem mul_4 {n : Int} (h : ∀ t' k, (Txt.mul (Str.ofString ".") (Int.fmod n 4)).length ≤ 8 → Q (.str (Txt.mul (Str.ofString ".") (Int.fmod n 4)) t') { s with toks := k }) : wpAny (model prog w) A (binaryOp .Mult (.str (Str.ofString ".") t) (.int (Int.fmod n 4) u)) Q E s :=
  mulS (fm_lo _ (by decide)) (by have := fm_hi n (n := 4) (by decide); omega) h
theorem mul_3 {n : Int} (h : ∀ t' k, (Txt.mul (Str.ofString ".") (Int.fmod n 3)).length ≤ 8 → Q (.str (Txt.mul (Str.ofString ".") (Int.fmod n 3)) t') { s with toks := k }) : wpAny (model prog w) A (binaryOp .Mult (.str (Str.ofString ".") t) (.int (Int.fmod n 3) u)) Q E s :=
  mulS (fm_lo _ (by decide)) (by have := fm_hi n (n := 3) (by decide); omega) h
theorem mul_4R {n R : Int} (h1 : 1 ≤ R) (h3 : R ≤ 3) (h : ∀ t' k, (Txt.mul (Str.ofString ".") (Int.fmod n 4 + R)).length ≤ 8 → Q (.str (Txt.mul (Str.ofString ".") (Int.fmod n 4 + R)) t') { s with toks := k }) : wpAny (model prog w) A (binaryOp .Mult (.str (Str.ofString ".") t) (.int (Int.fmod n 4 + R) u)) Q E s :=
  mulS (by have := fm_lo n (n := 4) (by decide); omega) (by have := fm_hi n (n := 4) (by decide); omega) h
theorem mul_3R {n R : Int} (h1 : 1 ≤ R) (h3 : R ≤ 3) (h : ∀ t' k, (Txt.mul (Str.ofString ".") (Int.fmod n 3 + R)).length ≤ 8 → Q (.str (Txt.mul (Str.ofString ".") (Int.fmod n 3 + R)) t') { s with toks := k }) : wpAny (model prog w) A (binaryOp .Mult (.str (Str.ofString ".") t) (.int (Int.fmod n 3 + R) u)) Q E s :=
  mulS (by have := fm_lo n (n := 3) (by decide); omega) (by have := fm_hi n (n := 3) (by decide); omega) h
variable {value slice : Expr} {l : Addr} {vs : List Value} {n : Int}
theorem item_rest (hl : s.heap.IsList l vs.toArray) (hw : StrsAre vs restL) (h : ∀ t', (restT n).length ≤ 4 → Q (.str (restT n) t') s)
    (hs : subscripted slice false (.ref l) (.int (Int.fmod (Int.fdiv n 4) 6) u) = operate [.ref l, .int (Int.fmod (Int.fdiv n 4) 6) u] (getItem (.ref l) (.int (Int.fmod (Int.fdiv n 4) 6) u)) := by with_unfolding_all rfl) :
    wpAny (model prog w) A (subscriptTail value slice (.ref l) (.int (Int.fmod (Int.fdiv n 4) 6) u)) Q E s := by
  have h0 := fm_lo (Int.fdiv n 4) (n := 6) (by decide)
  have h1 := fm_hi (Int.fdiv n 4) (n := 6) (by decide)
  have key : ∀ j, j < 6 → (restL.getD j Str.empty).length ≤ 4 := by decide +kernel
  exact KTb.item_list hl hw h0 (by show _ < ((6 : Nat) : Int); omega) (by omega) (fun t' _ => h t' (key _ (by omega))) hs
theorem item_end (hl : s.heap.IsList l vs.toArray) (hw : StrsAre vs endL) (h : ∀ t', (endT n).length ≤ 4 → Q (.str (endT n) t') s)
    (hs : subscripted slice false (.ref l) (.int (Int.fmod (Int.fdiv n 24) 3) u) = operate [.ref l, .int (Int.fmod (Int.fdiv n 24) 3) u] (getItem (.ref l) (.int (Int.fmod (Int.fdiv n 24) 3) u)) := by with_unfolding_all rfl) :
    wpAny (model prog w) A (subscriptTail value slice (.ref l) (.int (Int.fmod (Int.fdiv n 24) 3) u)) Q E s := by
  have h0 := fm_lo (Int.fdiv n 24) (n := 3) (by decide)
  have h1 := fm_hi (Int.fdiv n 24) (n := 3) (by decide)
  have key : ∀ j, j < 3 → (endL.getD j Str.empty).length ≤ 4 := by decide +kernel
  exact KTb.item_list hl hw h0 (by show _ < ((3 : Nat) : Int); omega) (by omega) (fun t' _ => h t' (key _ (by omega))) hs
theorem item_last (hl : s.heap.IsList l vs.toArray) (hw : StrsAre vs lastL) (h : ∀ t', (lastT n).length ≤ 4 → Q (.str (lastT n) t') s)
    (hs : subscripted slice false (.ref l) (.int (Int.fmod (Int.fdiv n 9) 2) u) = operate [.ref l, .int (Int.fmod (Int.fdiv n 9) 2) u] (getItem (.ref l) (.int (Int.fmod (Int.fdiv n 9) 2) u)) := by with_unfolding_all rfl) :
    wpAny (model prog w) A (subscriptTail value slice (.ref l) (.int (Int.fmod (Int.fdiv n 9) 2) u)) Q E s := by
  have h0 := fm_lo (Int.fdiv n 9) (n := 2) (by decide)
  have h1 := fm_hi (Int.fdiv n 9) (n := 2) (by decide)
  have key : ∀ j, j < 2 → (lastL.getD j Str.empty).length ≤ 4 := by decide +kernel
  exact KTb.item_list hl hw h0 (by show _ < ((2 : Nat) : Int); omega) (by omega) (fun t' _ => h t' (key _ (by omega))) hs
end
theorem lit_crlf : (Str.ofString "\r\n").length ≤ 2 := by decide +kernel
theorem st_start {R : Int} (h1 : 1 ≤ R) (h3 : R ≤ 3) : ((Str.ofString "").length ≤ 20 * ([] : List Int).length ∧ (Str.ofString "").length ≤ 20 * ([] : List Int).length ∧ 1 ≤ R ∧ R ≤ 3 ∧ Inv3 R (Str.ofString "") (Str.ofString "") false) :=
  ⟨by decide +kernel, by decide +kernel, h1, h3, inv3_start R⟩
theorem R_lo (n : Int) : 1 ≤ 1 + Int.fmod n 3 := by have := fm_lo n (n := 3) (by decide); omega
theorem R_hi (n : Int) : 1 + Int.fmod n 3 ≤ 3 := by have := fm_hi n (n := 3) (by decide); omega
theorem len_snoc (pre : List Int) (n : Int) : (pre ++ [n]).length = pre.length + 1 := by simp
theorem quote_len (x : Str) : (quoteS x).length ≤ 4 * x.length := by
  show (dotL true (fixL x.cps.toList).toArray.toList).toArray.size ≤ 4 * x.cps.size
  rw [List.size_toArray, List.toList_toArray]
  have h1 := dotL_length (fixL x.cps.toList) true
  have h2 := fixL_length x.cps.toList
  have : x.cps.toList.length = x.cps.size := Array.length_toList
  omega
end Mine
namespace Mine
def P3q (text : Str) (pre : List Int) (got : Str) : Prop := got = iterQ pre.length text
theorem q_start {text : Str} (h : text.length ≤ 1000) : (([] : List Int).length ≤ 3 ∧ (([] : List Int).length = 0 → text.length ≤ 1000) ∧ (([] : List Int).length = 1 → text.length ≤ 4000) ∧ (([] : List Int).length = 2 → text.length ≤ 16000) ∧ P3q text [] text) :=
  ⟨by decide, fun _ => h, fun e => by simp at e, fun e => by simp at e, rfl⟩
theorem q_turn {text got : Str} {pre : List Int} {k : Int} (hl : pre.length < 3) (h0 : pre.length = 0 → got.length ≤ 1000) (h1 : pre.length = 1 → got.length ≤ 4000) (h : P3q text pre got) :
    ((pre ++ [k]).length ≤ 3 ∧ ((pre ++ [k]).length = 0 → (dotS (fixS got)).length ≤ 1000) ∧ ((pre ++ [k]).length = 1 → (dotS (fixS got)).length ≤ 4000) ∧ ((pre ++ [k]).length = 2 → (dotS (fixS got)).length ≤ 16000) ∧ P3q text (pre ++ [k]) (dotS (fixS got))) := by
  have hq := quote_len got
  unfold quoteS at hq
  rw [len_snoc]
  refine ⟨by omega, by omega, fun e => ?_, fun e => ?_, ?_⟩
  · have := h0 (by omega); omega
  · have := h1 (by omega); omega
  · unfold P3q at h ⊢
    rw [len_snoc, h]; rfl
end Mine
namespace Mine
theorem fm_pos {n k : Int} (hk : 0 < k) (h : Int.fmod n k ≠ 0) : 0 < Int.fmod n k := by have := fm_lo n hk; omega
theorem fm_zero {n k : Int} (hk : 0 < k) (h : Int.fmod n k = 0) : ¬ 0 < Int.fmod n k := by omega
end Mine
namespace Mine
theorem lit_nil : (Str.ofString "").length ≤ 0 := by decide +kernel
theorem law3_0 {R : Int} {text due : Str} {ret : Bool} (h : Inv3 R text due ret) (hR : 1 ≤ R) : iterQ R.toNat (text ++ Str.ofString "") = due ++ Str.ofString "" := by
  have hok : RowOk (0, (Str.ofString "").cps.toList) := by
    rw [S3_nil]
    exact ⟨fun c hc => (nomatch hc), fun t e => (nomatch e)⟩
  refine law3_core (d := 0) (last := Str.ofString "") h hok hR _ _ ?_ ?_
  · rw [cps_app]; rfl
  · rw [cps_app]; rfl
end Mine
namespace Mine
theorem len_app_nil {x : Str} {k : Nat} (h : x.length ≤ k) : (x ++ Str.ofString "").length ≤ k := by
  rw [Str.length_append]
  have := lit_nil
  omega
theorem rk_len (R : Int) : (rangeKs 0 (R - 0).toNat).length = R.toNat := by rw [rangeKs_length, Int.sub_zero]
theorem end3_b {R n : Int} {text due got : Str} {ret : Bool} (h : Inv3 R text due ret) (hR : 1 ≤ R) (hd : 0 < Int.fmod (Int.fdiv n 3) 3)
    (hq : P3q (text ++ (Txt.mul (Str.ofString ".") (Int.fmod (Int.fdiv n 3) 3) ++ lastT n)) (rangeKs 0 (R - 0).toNat) got) :
    ((got == (due ++ Txt.mul (Str.ofString ".") (Int.fmod (Int.fdiv n 3) 3 + R)) ++ lastT n) == true) = true := by
  unfold P3q at hq
  rw [rk_len] at hq
  rw [hq, law3_b h hR hd]; simp
theorem end3_c {R n : Int} {text due got : Str} {ret : Bool} (h : Inv3 R text due ret) (hR : 1 ≤ R) (hd : ¬ 0 < Int.fmod (Int.fdiv n 3) 3)
    (hq : P3q (text ++ (Txt.mul (Str.ofString ".") (Int.fmod (Int.fdiv n 3) 3) ++ lastT n)) (rangeKs 0 (R - 0).toNat) got) :
    ((got == due ++ lastT n) == true) = true := by
  unfold P3q at hq
  rw [rk_len] at hq
  rw [hq, law3_c h hR hd]; simp
theorem last_0 : lastT 0 = Str.ofString "" := by decide +kernel
theorem end3_0 {R : Int} {text due got : Str} {ret : Bool} (h : Inv3 R text due ret) (hR : 1 ≤ R) (hq : P3q (text ++ Str.ofString "") (rangeKs 0 (R - 0).toNat) got) :
    ((got == due ++ lastT 0) == true) = true := by
  unfold P3q at hq
  rw [rk_len] at hq
  rw [hq, law3_0 h hR, last_0]; simp
end Mine

end

/-! A03 -/
open PySem PySem.W PyProof.Rows
namespace Mine
end Mine
local macro_rules | `(tactic| walk_at "execs cons") => `(tactic| first | (k_here; k_gentoks) | ((with_reducible refine wpAny_execs_cons ?_); (try dsimp only)))
local macro_rules | `(tactic| walk_at "binaryOp Add str str") => `(tactic| (k_here; (with_reducible show wpAny _ _ (binaryOp Operator.Add (Value.str _ _) (Value.str _ _)) _ _ _); (refine' Mine.addS ?kax ?kay ?kas ?_; (case kax => with_reducible first | assumption | exact Mine.lit_crlf | exact Mine.lit_nil); (case kay => with_reducible first | assumption | exact Mine.lit_crlf | exact Mine.lit_nil); (case kas => k_dflt omega)); intro t' k' kaLen'))
local macro_rules | `(tactic| walk_at "inplaceOp Add str str") => `(tactic| (k_here; (with_reducible show wpAny _ _ (inplaceOp Operator.Add (Value.str _ _) (Value.str _ _)) _ _ _); (refine' Mine.iaddS ?kax ?kay ?kas ?_; (case kax => with_reducible first | assumption | exact Mine.lit_crlf | exact Mine.lit_nil); (case kay => with_reducible first | assumption | exact Mine.lit_crlf | exact Mine.lit_nil); (case kas => k_dflt omega)); intro t' k' kaLen'))
local macro_rules | `(tactic| walk_at "binaryOp Mult str int") => `(tactic| (k_here; (first
  | ((with_reducible show wpAny _ _ (binaryOp Operator.Mult (Value.str _ _) (Value.int (Int.fmod _ 4) _)) _ _ _); refine Mine.mul_4 ?_)
  | ((with_reducible show wpAny _ _ (binaryOp Operator.Mult (Value.str _ _) (Value.int (Int.fmod _ 3) _)) _ _ _); refine Mine.mul_3 ?_)
  | ((with_reducible show wpAny _ _ (binaryOp Operator.Mult (Value.str _ _) (Value.int (Int.fmod _ 4 + _) _)) _ _ _); refine Mine.mul_4R (by first | assumption | exact Mine.R_lo _) (by first | assumption | exact Mine.R_hi _) ?_)
  | ((with_reducible show wpAny _ _ (binaryOp Operator.Mult (Value.str _ _) (Value.int (Int.fmod _ 3 + _) _)) _ _ _); refine Mine.mul_3R (by first | assumption | exact Mine.R_lo _) (by first | assumption | exact Mine.R_hi _) ?_)); intro t' k' kaLen'))
local macro_rules | `(tactic| walk_at "subscriptTail") => `(tactic| (k_here; (first
  | ((with_reducible show wpAny _ _ (subscriptTail _ _ (Value.ref _) (Value.int (Int.fmod (Int.fdiv _ 4) 6) _)) _ _ _); k_dflt (refine' Mine.item_rest ?ktbl ?ktbw ?_; (case ktbl => ktb_isList); (case ktbw => repeat constructor)))
  | ((with_reducible show wpAny _ _ (subscriptTail _ _ (Value.ref _) (Value.int (Int.fmod (Int.fdiv _ 24) 3) _)) _ _ _); k_dflt (refine' Mine.item_end ?ktbl ?ktbw ?_; (case ktbl => ktb_isList); (case ktbw => repeat constructor)))
  | ((with_reducible show wpAny _ _ (subscriptTail _ _ (Value.ref _) (Value.int (Int.fmod (Int.fdiv _ 9) 2) _)) _ _ _); k_dflt (refine' Mine.item_last ?ktbl ?ktbw ?_; (case ktbl => ktb_isList); (case ktbw => repeat constructor)))); intro ktbT ktbLen))
local macro_rules | `(tactic| walk_at "getMethod ref") => `(tactic| (k_here; (with_reducible show wpAny _ _ (getMethod (Value.ref _) (Str.ofString "sub") _) _ _ _); (rename Frag.In _ _ => kX'); (rename Fr _ _ _ _ => kF'); k_dflt (refine Mine.getMethod_sub (Fr.keep kF' _ _ (kX' _ _ (by with_unfolding_all rfl))) ?_)))
local macro_rules | `(tactic| walk_at "call builtin:re.Pattern.sub") => `(tactic| (k_here; (rename Frag.In _ _ => kX'); (rename Fr _ _ _ _ => kF'); (rename News _ _ _ _ => kN'); k_dflt (first
  | (refine Mine.call_fix kF' kN' (kX' 41 _ (by with_unfolding_all rfl)) (kX' 40 _ (by with_unfolding_all rfl)) (by decide +kernel) (by omega) ?_; intro h' t' tk' hLen' F' N')
  | (refine Mine.call_dot kF' kN' (kX' 36 _ (by with_unfolding_all rfl)) (kX' 35 _ (by with_unfolding_all rfl)) (by decide +kernel) (by omega) ?_; intro h' t' tk' hLen' F' N'))))
set_option maxHeartbeats 8000000 in
theorem PySem.Challenge.cw_dn0159_03_holds : PySem.Challenge.rw_dn0159_03.Holds := by
  (k_with "pyIter ref" => (k_of "n" => k_state_given ["rounds"] (fun rounds pre text due returned => text.length ≤ 20 * pre.length ∧ due.length ≤ 20 * pre.length ∧ 1 ≤ rounds ∧ rounds ≤ 3 ∧ Mine.Inv3 rounds text due returned) "text" "due" "returned"))
  (k_with "pyIter ref" => (k_of "_" => k_state_given ["text"] (fun text pre got => pre.length ≤ 3 ∧ (pre.length = 0 → got.length ≤ 1000) ∧ (pre.length = 1 → got.length ≤ 4000) ∧ (pre.length = 2 → got.length ≤ 16000) ∧ Mine.P3q text pre got) "got"))
  (k_with "state" => first
    | with_reducible exact Mine.st_start (Mine.R_lo _) (Mine.R_hi _)
    | with_reducible exact Mine.q_start (by first | (k_dflt omega) | exact Mine.len_app_nil (by k_dflt omega))
    | with_reducible exact Mine.q_turn (by k_dflt omega) (by assumption) (by assumption) (by assumption)
    | ((refine ⟨?_, ?_, by assumption, by assumption, ?_⟩); (rw [Mine.len_snoc]; k_dflt omega); (rw [Mine.len_snoc]; k_dflt omega); with_reducible first
      | exact Mine.way_a (by assumption) (Mine.ab_t (by assumption) (by assumption) (by assumption) (by assumption))
      | exact Mine.way_b (by assumption) (by k_dflt omega) (by first | exact Mine.ab_1 (by assumption) | exact Mine.ab_2 (by first | assumption | k_dflt omega) | exact Mine.ab_3 (by assumption) | exact Mine.ab_4 (by assumption)) (by first | assumption | (k_dflt omega) | exact Mine.fm_pos (by decide) (by assumption))
      | exact Mine.way_c (by assumption) (by k_dflt omega) (by first | exact Mine.ab_1 (by assumption) | exact Mine.ab_2 (by first | assumption | k_dflt omega) | exact Mine.ab_3 (by assumption) | exact Mine.ab_4 (by assumption)) (by first | assumption | (k_dflt omega) | exact Mine.fm_zero (by decide) (by assumption))))
  (k_with "end" => with_reducible first
    | exact Mine.end3_b (by assumption) (by assumption) (by first | assumption | (k_dflt omega) | exact Mine.fm_pos (by decide) (by assumption)) (by assumption)
    | exact Mine.end3_c (by assumption) (by assumption) (by first | assumption | (k_dflt omega) | exact Mine.fm_zero (by decide) (by assumption)) (by assumption)
    | exact Mine.end3_0 (by assumption) (by assumption) (by assumption))
  open_k

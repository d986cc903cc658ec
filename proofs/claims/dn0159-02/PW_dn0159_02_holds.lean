import PyProof.Rows.All
import Wide.All
import OpenK.AllK
import Wide.FinOn
import PySem.Challenge.RW_dn0159_02
set_option Elab.async false
set_option maxRecDepth 100000

/-! RxPure -/
section
open PySem
namespace Mine
open PySem.Sre

def c1 : Array Nat := #[14, 4, 0, 1, 1, 6, 1, 16, 46, 1]
def c3 : Array Nat := #[14, 9, 4, 1, 2, 16, 10, 16, 13, 0, 7, 7, 16, 13, 16, 10, 15, 18, 5, 16, 10, 15, 13, 11, 16, 13, 5, 5, 0, 16, 10, 1, 15, 2, 0, 1]

theorem runFor_add : ∀ (a b : Nat) (m : M), M.runFor (a + b) m = M.runFor b (M.runFor a m)
  | 0, b, m => by simp [M.runFor]
  | a + 1, b, m => by
    rw [Nat.succ_add]
    show (if m.outcome.isSome then m else M.runFor (a + b) m.step) = M.runFor b (if m.outcome.isSome then m else M.runFor a m.step)
    cases h : m.outcome.isSome with
    | false => simp only [Bool.false_eq_true, if_false]; exact runFor_add a b m.step
    | true =>
      simp only [if_true]
      cases b with
      | zero => rfl
      | succ b => simp [M.runFor, h]
theorem runFor_one {m : M} (h : m.outcome = none) : M.runFor 1 m = m.step := by simp [M.runFor, h]
theorem runFor_done {m : M} (h : m.outcome.isSome = true) : ∀ n, M.runFor n m = m
  | 0 => rfl
  | n + 1 => by simp [M.runFor, h]

/-- m comes to m' within n steps -/
def To (n : Nat) (m m' : M) : Prop := ∃ k, k ≤ n ∧ M.runFor k m = m'
theorem To.refl (m : M) : To 0 m m := ⟨0, Nat.le_refl _, rfl⟩
theorem To.trans {a b : Nat} {m m' m'' : M} (h : To a m m') (h' : To b m' m'') : To (a + b) m m'' := by
  obtain ⟨k, hk, e⟩ := h; obtain ⟨k', hk', e'⟩ := h'
  exact ⟨k + k', by omega, by rw [runFor_add, e, e']⟩
theorem To.step {m m' : M} (ho : m.outcome = none) (h : m.step = m') : To 1 m m' := ⟨1, Nat.le_refl _, by rw [runFor_one ho, h]⟩
theorem To.le {a b : Nat} {m m' : M} (h : To a m m') (hab : a ≤ b) : To b m m' := by
  obtain ⟨k, hk, e⟩ := h; exact ⟨k, by omega, e⟩

/-- a state at the head of an attempt -/
def at1 (t : Array Nat) (s : Nat) (first : Bool) (seen : Seen) : M :=
  { code := c1, text := t, lim := t.size, start := s, lastStart := t.size, pc := 5, pos := s, handed := s, outermost := first, marks := #[],
    frames := [{ wait := .nextStart, pc := 5, pos := s, outermost := first }], weight := 1, seen := seen }

/-- a dot at a row's head -/
def isDot (t : Array Nat) (p : Nat) : Bool := p < t.size && (p == 0 || t.getD (p - 1) 0 == 10) && t.getD p 0 == 46

theorem at1_yes (t : Array Nat) (s : Nat) (first : Bool) (seen : Seen) (h : isDot t s = true) :
    ∃ m', To 5 (at1 t s first seen) m' ∧ m'.outcome = some .matched ∧ m'.start = s ∧ m'.handed = s + 1 := by
  simp only [isDot, Bool.and_eq_true, decide_eq_true_eq] at h
  obtain ⟨⟨h1, h2⟩, h3⟩ := h
  have e1 : (at1 t s first seen).step = { at1 t s first seen with pc := 7, seen := (seen.add 6).add 44 } := by
    simp only [M.step, at1, M.exec, M.word, c1, M.isAt, h2]
    simp [ops]
  have e2 : M.step { at1 t s first seen with pc := 7, seen := (seen.add 6).add 44 } = { at1 t s first seen with pc := 9, pos := s + 1, seen := ((seen.add 6).add 44).add 16 } := by
    have h3' : t.getD s 0 = 46 := by simpa using h3
    simp only [M.step, at1, M.exec, M.word, c1, accepts, itemWidth]
    simp only [h3']
    simp [ops, Nat.not_le.mpr h1]
  have e3 : M.step { at1 t s first seen with pc := 9, pos := s + 1, seen := ((seen.add 6).add 44).add 16 } = { at1 t s first seen with pc := 9, pos := s + 1, handed := s + 1, answer := some true, seen := (((seen.add 6).add 44).add 16).add 1 } := by
    simp only [M.step, at1, M.exec, M.word, c1]
    simp [ops, M.say]
  have e4 : M.step { at1 t s first seen with pc := 9, pos := s + 1, handed := s + 1, answer := some true, seen := (((seen.add 6).add 44).add 16).add 1 } = { at1 t s first seen with pc := 5, pos := s, handed := s + 1, answer := some true, frames := [], weight := 0, seen := (((seen.add 6).add 44).add 16).add 1 } := by
    simp [M.step, at1, M.resume, M.say]
  have e5 : M.step { at1 t s first seen with pc := 5, pos := s, handed := s + 1, answer := some true, frames := [], weight := 0, seen := (((seen.add 6).add 44).add 16).add 1 } = { at1 t s first seen with pc := 5, pos := s, handed := s + 1, answer := some true, frames := [], weight := 0, seen := (((seen.add 6).add 44).add 16).add 1, outcome := some .matched } := by
    simp [M.step, at1]
  exact ⟨_, ((((To.step rfl e1).trans (To.step rfl e2)).trans (To.step rfl e3)).trans (To.step rfl e4)).trans (To.step rfl e5), rfl, rfl, rfl⟩

theorem at1_no (t : Array Nat) (s : Nat) (first : Bool) (seen : Seen) (h : isDot t s = false) :
    ∃ seen', To 4 (at1 t s first seen) (if s < t.size then at1 t (s + 1) false seen' else { at1 t s first seen' with pc := 5, pos := s, answer := some false, frames := [], weight := 0, outcome := some .failed }) := by
  have tail : ∀ (pc : Nat) (seen' : Seen), To 2 { at1 t s first seen' with pc := pc, answer := some false } (if s < t.size then at1 t (s + 1) false seen' else { at1 t s first seen' with pc := 5, pos := s, answer := some false, frames := [], weight := 0, outcome := some .failed }) := by
    intro pc seen'
    by_cases hs : s < t.size
    · rw [if_pos hs]
      refine (To.step rfl ?_).le (by omega)
      simp only [M.step, at1, M.resume, M.attemptFrom, M.attemptAt, M.hasFirstSet, M.attempt, c1]
      simp [hs, ops]
    · rw [if_neg hs]
      have e1 : M.step { at1 t s first seen' with pc := pc, answer := some false } = { at1 t s first seen' with pc := 5, pos := s, answer := some false, frames := [], weight := 0 } := by
        simp only [M.step, at1, M.resume, M.say]
        simp [hs]
      have e2 : M.step { at1 t s first seen' with pc := 5, pos := s, answer := some false, frames := [], weight := 0 } = { at1 t s first seen' with pc := 5, pos := s, answer := some false, frames := [], weight := 0, outcome := some .failed } := by
        simp [M.step, at1]
      exact (To.step rfl e1).trans (To.step rfl e2)
  cases h2 : (s == 0 || t.getD (s - 1) 0 == 10) with
  | false =>
    have e1 : (at1 t s first seen).step = { at1 t s first ((seen.add 6).add 44) with pc := 5, answer := some false } := by
      simp only [M.step, at1, M.exec, M.word, c1, M.isAt, h2]
      simp [ops, M.say]
    exact ⟨_, ((To.step rfl e1).trans (tail 5 _)).le (by omega)⟩
  | true =>
    have e1 : (at1 t s first seen).step = { at1 t s first seen with pc := 7, seen := (seen.add 6).add 44 } := by
      simp only [M.step, at1, M.exec, M.word, c1, M.isAt, h2]
      simp [ops]
    by_cases hs : s < t.size
    · have h3' : (t.getD s 0 == 46) = false := by
        have hh := h
        unfold isDot at hh
        rw [h2, decide_eq_true hs] at hh
        exact hh
      have e2 : M.step { at1 t s first seen with pc := 7, seen := (seen.add 6).add 44 } = { at1 t s first (((seen.add 6).add 44).add 16) with pc := 7, answer := some false } := by
        simp only [M.step, at1, M.exec, M.word, c1, accepts, itemWidth]
        simp only [List.getElem?_toArray, Array.getD_eq_getD_getElem?] at h3' ⊢
        simp [ops, Nat.not_le.mpr hs, M.say]
        simp [h3']
      exact ⟨_, ((To.step rfl e1).trans ((To.step rfl e2).trans (tail 7 _))).le (by omega)⟩
    · have e2 : M.step { at1 t s first seen with pc := 7, seen := (seen.add 6).add 44 } = { at1 t s first (((seen.add 6).add 44).add 16) with pc := 7, answer := some false } := by
        simp only [M.step, at1, M.exec, M.word, c1]
        simp [ops, Nat.le_of_not_lt hs, M.say]
      exact ⟨_, ((To.step rfl e1).trans ((To.step rfl e2).trans (tail 7 _))).le (by omega)⟩

/-- the first place at or behind s -/
def findFrom (P : Nat → Bool) : (fuel s : Nat) → Option Nat
  | 0, _ => none
  | fuel + 1, s => if P s then some s else findFrom P fuel (s + 1)

theorem findFrom_yes {P : Nat → Bool} {p : Nat} : ∀ (f s : Nat), findFrom P f s = some p → P p = true
  | 0, s, h => by simp [findFrom] at h
  | f + 1, s, h => by
    rw [findFrom] at h
    split at h
    · next q => cases h; exact q
    · exact findFrom_yes f (s + 1) h

theorem search1 (t : Array Nat) : ∀ (d s : Nat) (first : Bool) (seen : Seen), d = t.size - s → s ≤ t.size →
    ∃ m', To (5 * (d + 1)) (at1 t s first seen) m' ∧
      (match findFrom (isDot t) (d + 1) s with
       | some p => m'.outcome = some .matched ∧ m'.start = p ∧ m'.handed = p + 1
       | none => m'.outcome = some .failed) := by
  intro d
  induction d with
  | zero =>
    intro s first seen hd hs
    have hse : s = t.size := by omega
    have hn : isDot t s = false := by simp [isDot, hse]
    obtain ⟨seen', h⟩ := at1_no t s first seen hn
    rw [if_neg (by omega)] at h
    refine ⟨_, h.le (by omega), ?_⟩
    simp [findFrom, hn]
  | succ d ih =>
    intro s first seen hd hs
    cases hy : isDot t s with
    | true =>
      obtain ⟨m', h1, h2, h3, h4⟩ := at1_yes t s first seen hy
      refine ⟨m', h1.le (by omega), ?_⟩
      rw [findFrom, hy]
      exact ⟨h2, h3, h4⟩
    | false =>
      obtain ⟨seen', h⟩ := at1_no t s first seen hy
      rw [if_pos (by omega)] at h
      obtain ⟨m', h', hm⟩ := ih (s + 1) false seen' (by omega) (by omega)
      refine ⟨m', (h.trans h').le (by omega), ?_⟩
      rw [findFrom, hy]
      exact hm

def fresh1 (t : Array Nat) (s : Nat) : M :=
  { code := c1, text := t, lim := t.size, start := s, pc := 5, pos := s, handed := s, marks := #[], seen := ({} : Seen).add 14 }
theorem forSearch1_eq (t : Array Nat) (s : Nat) : forSearch c1 t 0 s t.size false =
    if (decide (s > t.size) || decide (t.size - s < 1)) = true then (fresh1 t s).say false else M.attemptFrom { fresh1 t s with lastStart := t.size } s true := by
  with_unfolding_all rfl

theorem forSearch1 (t : Array Nat) (s : Nat) (hs : s ≤ t.size) :
    ∃ m', To (5 * (t.size + 2)) (forSearch c1 t 0 s t.size false) m' ∧
      (match findFrom (isDot t) (t.size - s + 1) s with
       | some p => m'.outcome = some .matched ∧ m'.start = p ∧ m'.handed = p + 1
       | none => m'.outcome = some .failed) := by
  rw [forSearch1_eq]
  by_cases he : s = t.size
  · have hn : isDot t s = false := by simp [isDot, he]
    rw [if_pos (by simp; omega)]
    refine ⟨{ fresh1 t s with answer := some false, outcome := some .failed }, (To.step rfl ?_).le (by omega), ?_⟩
    · simp [M.say, M.step, fresh1]
    · subst he
      simp [findFrom, hn]
  · have h1 : ¬ (t.size - s < 1) := by omega
    have h2 : ¬ (s > t.size) := by omega
    have e : M.attemptFrom { fresh1 t s with lastStart := t.size } s true = at1 t s true (({} : Seen).add 14) := by
      simp only [fresh1, c1, at1]
      simp [ops, M.attemptFrom, M.hasFirstSet, M.attemptAt, M.attempt]
    rw [if_neg (by simp; omega), e]
    obtain ⟨m', h1, h2⟩ := search1 t (t.size - s) s true _ rfl hs
    exact ⟨m', h1.le (by omega), h2⟩

/-! the ends of rows -/
def g3 (t : Array Nat) (s : Nat) (seen : Seen) (pc pos handed : Nat) (om : Bool) (fs : List Sre.Frame) (wt : Nat) (ans : Option Bool) : M :=
  { code := c3, text := t, lim := t.size, start := s, lastStart := t.size, pc := pc, pos := pos, handed := handed, outermost := om, marks := #[], frames := fs, weight := wt, answer := ans, seen := seen }
def k0 : Sre.Kept := { lastmark := -1, lastindex := -1, whole := false, marks := #[] }
section
variable {t : Array Nat} {s pc pos hd c wt : Nat} {om : Bool} {fs : List Sre.Frame} {seen : Seen}
theorem ops16 : ops[16]? = some Op.LITERAL := rfl
theorem lit_ok (h1 : c3.getD pc 0 = 16) (h2 : c3.getD (pc + 1) 0 = c) (hpc : pc < 36) (hp : pos < t.size) (hc : t.getD pos 0 = c) :
    ∃ seen', M.step (g3 t s seen pc pos hd om fs wt none) = g3 t s seen' (pc + 2) (pos + 1) hd om fs wt none := by
  have hz : c3.size = 36 := rfl
  refine ⟨seen.add 16, ?_⟩
  simp only [M.step, g3, M.exec, M.word, accepts, itemWidth, Nat.add_zero, h1, h2, hc, hz, hpc, ops16]
  simp [Nat.not_le.mpr hp]
theorem lit_no (h1 : c3.getD pc 0 = 16) (h2 : c3.getD (pc + 1) 0 = c) (hpc : pc < 36) (hc : ¬ (pos < t.size ∧ t.getD pos 0 = c)) :
    ∃ seen', M.step (g3 t s seen pc pos hd om fs wt none) = g3 t s seen' pc pos hd om fs wt (some false) := by
  have hz : c3.size = 36 := rfl
  refine ⟨seen.add 16, ?_⟩
  simp only [M.step, g3, M.exec, M.word, accepts, itemWidth, Nat.add_zero, h1, h2, hz, hpc, ops16]
  by_cases hp : pos < t.size
  · have hc' : (t.getD pos 0 == c) = false := by
      have : ¬ t.getD pos 0 = c := fun e => hc ⟨hp, e⟩
      simpa using this
    simp only [hc']
    simp [Nat.not_le.mpr hp, M.say]
  · simp [Nat.le_of_not_lt hp, M.say]
theorem jump_ (h1 : c3.getD pc 0 = 15) (h2 : pc + 1 + c3.getD (pc + 1) 0 = 35) (hpc : pc < 36) :
    ∃ seen', M.step (g3 t s seen pc pos hd om fs wt none) = g3 t s seen' 35 pos hd om fs wt none := by
  have hz : c3.size = 36 := rfl
  have ho : ops[15]? = some Op.JUMP := rfl
  refine ⟨seen.add 15, ?_⟩
  simp only [M.step, g3, M.exec, M.word, Nat.add_zero, h1, h2, hz, hpc, ho]
  simp
theorem succ_ : ∃ seen', M.step (g3 t s seen 35 pos hd om fs wt none) = g3 t s seen' 35 pos pos om fs wt (some true) := by
  refine ⟨seen.add 1, ?_⟩
  simp only [M.step, g3, M.exec, M.word, c3]
  simp [ops, M.say]
/-- an answer goes down through the two frames to the end -/
theorem yes_ {f : Bool} {o1 o2 : Bool} {alt pos' pc' : Nat} :
    To 3 (g3 t s seen pc pos hd om [{ wait := .nextBranch, pc := alt, pos := pos', outermost := o1, kept := k0 }, { wait := .nextStart, pc := pc', pos := s, outermost := o2 }] wt (some true))
      { g3 t s seen pc' s hd o2 [] (wt - 1 - 1) (some true) with outcome := some .matched } := by
  have e1 : M.step (g3 t s seen pc pos hd om [{ wait := .nextBranch, pc := alt, pos := pos', outermost := o1, kept := k0 }, { wait := .nextStart, pc := pc', pos := s, outermost := o2 }] wt (some true)) =
      g3 t s seen alt pos' hd o1 [{ wait := .nextStart, pc := pc', pos := s, outermost := o2 }] (wt - 1) (some true) := by
    simp [M.step, g3, M.resume, M.say, k0]
  have e2 : M.step (g3 t s seen alt pos' hd o1 [{ wait := .nextStart, pc := pc', pos := s, outermost := o2 }] (wt - 1) (some true)) =
      g3 t s seen pc' s hd o2 [] (wt - 1 - 1) (some true) := by
    simp [M.step, g3, M.resume, M.say]
  have e3 : M.step (g3 t s seen pc' s hd o2 [] (wt - 1 - 1) (some true)) = { g3 t s seen pc' s hd o2 [] (wt - 1 - 1) (some true) with outcome := some .matched } := by
    simp [M.step, g3]
  exact (To.step rfl e1).trans ((To.step rfl e2).trans (To.step rfl e3))
abbrev fS (s : Nat) (first : Bool) : Sre.Frame := { wait := .nextStart, pc := 10, pos := s, outermost := first }
abbrev fB (alt s : Nat) (first : Bool) : Sre.Frame := { wait := .nextBranch, pc := alt, pos := s, outermost := first, kept := k0 }
theorem branch_ {first : Bool} : ∃ seen', M.step (g3 t s seen 10 s s first [fS s first] 1 none) = g3 t s seen' 12 s s first [fB 11 s first, fS s first] 2 none := by
  refine ⟨seen.add 7, ?_⟩
  simp only [M.step, g3, M.exec, M.word, c3, M.alternative, M.keep, M.attempt, M.frame, fB, fS, k0]
  simp [ops]
theorem next_ {first : Bool} {pc pos : Nat} {alt alt' : Nat} (h : alt + c3.getD alt 0 = alt') (h' : (c3.getD alt' 0 == 0) = false) :
    M.step (g3 t s seen pc pos hd first [fB alt s first, fS s first] 2 (some false)) = g3 t s seen (alt' + 1) s s first [fB alt' s first, fS s first] 2 none := by
  simp only [M.step, g3, M.resume, M.alternative, M.attempt, M.frame, M.putBack, fB, fS, k0, h, h']
  simp
end

/-- an end of a row at p: CR LF, LF, or CR -/
def isEol (t : Array Nat) (p : Nat) : Bool := p < t.size && (t.getD p 0 == 10 || t.getD p 0 == 13)
def eolLen (t : Array Nat) (p : Nat) : Nat := if t.getD p 0 = 13 ∧ p + 1 < t.size ∧ t.getD (p + 1) 0 = 10 then 2 else 1

theorem at3 (t : Array Nat) (s : Nat) (first : Bool) (seen : Seen) (h : isEol t s = true) :
    ∃ m', To 20 (g3 t s seen 10 s s first [fS s first] 1 none) m' ∧ m'.outcome = some .matched ∧ m'.start = s ∧ m'.handed = s + eolLen t s := by
  simp only [isEol, Bool.and_eq_true, decide_eq_true_eq, Bool.or_eq_true, beq_iff_eq] at h
  obtain ⟨hs, h⟩ := h
  obtain ⟨s1, e1⟩ := branch_ (t := t) (s := s) (seen := seen) (first := first)
  by_cases h13 : t.getD s 0 = 13
  · obtain ⟨s2, e2⟩ := lit_ok (t := t) (s := s) (pc := 12) (pos := s) (hd := s) (c := 13) (wt := 2) (om := first) (fs := [fB 11 s first, fS s first]) (seen := s1) rfl rfl (by omega) hs h13
    by_cases h10 : s + 1 < t.size ∧ t.getD (s + 1) 0 = 10
    · obtain ⟨s3, e3⟩ := lit_ok (t := t) (s := s) (pc := 14) (pos := s + 1) (hd := s) (c := 10) (wt := 2) (om := first) (fs := [fB 11 s first, fS s first]) (seen := s2) rfl rfl (by omega) h10.1 h10.2
      obtain ⟨s4, e4⟩ := jump_ (t := t) (s := s) (pc := 16) (pos := s + 2) (hd := s) (wt := 2) (om := first) (fs := [fB 11 s first, fS s first]) (seen := s3) rfl rfl (by omega)
      obtain ⟨s5, e5⟩ := succ_ (t := t) (s := s) (pos := s + 2) (hd := s) (wt := 2) (om := first) (fs := [fB 11 s first, fS s first]) (seen := s4)
      have he : eolLen t s = 2 := by rw [eolLen, if_pos ⟨h13, h10.1, h10.2⟩]
      rw [he]
      exact ⟨_, ((To.step rfl e1).trans ((To.step rfl e2).trans ((To.step rfl e3).trans ((To.step rfl e4).trans ((To.step rfl e5).trans (yes_ (f := true))))))).le (by omega), rfl, rfl, rfl⟩
    · obtain ⟨s3, e3⟩ := lit_no (t := t) (s := s) (pc := 14) (pos := s + 1) (hd := s) (c := 10) (wt := 2) (om := first) (fs := [fB 11 s first, fS s first]) (seen := s2) rfl rfl (by omega) h10
      have e4 := next_ (t := t) (s := s) (seen := s3) (hd := s) (first := first) (pc := 14) (pos := s + 1) (alt := 11) (alt' := 18) rfl rfl
      obtain ⟨s5, e5⟩ := lit_no (t := t) (s := s) (pc := 19) (pos := s) (hd := s) (c := 10) (wt := 2) (om := first) (fs := [fB 18 s first, fS s first]) (seen := s3) rfl rfl (by omega) (by rw [h13]; omega)
      have e6 := next_ (t := t) (s := s) (seen := s5) (hd := s) (first := first) (pc := 19) (pos := s) (alt := 18) (alt' := 23) rfl rfl
      obtain ⟨s7, e7⟩ := lit_ok (t := t) (s := s) (pc := 24) (pos := s) (hd := s) (c := 13) (wt := 2) (om := first) (fs := [fB 23 s first, fS s first]) (seen := s5) rfl rfl (by omega) hs h13
      have e8 : M.step (g3 t s s7 26 (s + 1) s first [fB 23 s first, fS s first] 2 none) = g3 t s (s7.add 5) 29 (s + 1) (s + 1) false [{ wait := .lookNot, pc := 26, pos := s + 1, outermost := first, kept := k0 }, fB 23 s first, fS s first] 3 none := by
        simp only [M.step, g3, M.exec, M.word, c3, M.keep, M.attempt, M.frame, fB, fS, k0]
        simp [ops]
      obtain ⟨s9, e9⟩ := lit_no (t := t) (s := s) (pc := 29) (pos := s + 1) (hd := s + 1) (c := 10) (wt := 3) (om := false) (fs := [{ wait := .lookNot, pc := 26, pos := s + 1, outermost := first, kept := k0 }, fB 23 s first, fS s first]) (seen := s7.add 5) rfl rfl (by omega) h10
      have e10 : M.step (g3 t s s9 29 (s + 1) (s + 1) false [{ wait := .lookNot, pc := 26, pos := s + 1, outermost := first, kept := k0 }, fB 23 s first, fS s first] 3 (some false)) = g3 t s s9 32 (s + 1) (s + 1) first [fB 23 s first, fS s first] 2 none := by
        simp only [M.step, g3, M.resume, M.word, M.putBack, c3, fB, fS, k0]
        simp
      obtain ⟨s11, e11⟩ := jump_ (t := t) (s := s) (pc := 32) (pos := s + 1) (hd := s + 1) (wt := 2) (om := first) (fs := [fB 23 s first, fS s first]) (seen := s9) rfl rfl (by omega)
      obtain ⟨s12, e12⟩ := succ_ (t := t) (s := s) (pos := s + 1) (hd := s + 1) (wt := 2) (om := first) (fs := [fB 23 s first, fS s first]) (seen := s11)
      have he : eolLen t s = 1 := by
        rw [eolLen, if_neg (fun q => h10 q.2)]
      rw [he]
      exact ⟨_, ((To.step rfl e1).trans ((To.step rfl e2).trans ((To.step rfl e3).trans ((To.step rfl e4).trans ((To.step rfl e5).trans ((To.step rfl e6).trans ((To.step rfl e7).trans ((To.step rfl e8).trans ((To.step rfl e9).trans ((To.step rfl e10).trans ((To.step rfl e11).trans ((To.step rfl e12).trans (yes_ (f := true)))))))))))))).le (by omega), rfl, rfl, rfl⟩
  · have h10 : t.getD s 0 = 10 := h.resolve_right h13
    obtain ⟨s2, e2⟩ := lit_no (t := t) (s := s) (pc := 12) (pos := s) (hd := s) (c := 13) (wt := 2) (om := first) (fs := [fB 11 s first, fS s first]) (seen := s1) rfl rfl (by omega) (fun q => h13 q.2)
    have e4 := next_ (t := t) (s := s) (seen := s2) (hd := s) (first := first) (pc := 12) (pos := s) (alt := 11) (alt' := 18) rfl rfl
    obtain ⟨s5, e5⟩ := lit_ok (t := t) (s := s) (pc := 19) (pos := s) (hd := s) (c := 10) (wt := 2) (om := first) (fs := [fB 18 s first, fS s first]) (seen := s2) rfl rfl (by omega) hs h10
    obtain ⟨s6, e6⟩ := jump_ (t := t) (s := s) (pc := 21) (pos := s + 1) (hd := s) (wt := 2) (om := first) (fs := [fB 18 s first, fS s first]) (seen := s5) rfl rfl (by omega)
    obtain ⟨s7, e7⟩ := succ_ (t := t) (s := s) (pos := s + 1) (hd := s) (wt := 2) (om := first) (fs := [fB 18 s first, fS s first]) (seen := s6)
    have he : eolLen t s = 1 := by rw [eolLen, if_neg (fun q => h13 q.1)]
    rw [he]
    exact ⟨_, ((To.step rfl e1).trans ((To.step rfl e2).trans ((To.step rfl e4).trans ((To.step rfl e5).trans ((To.step rfl e6).trans ((To.step rfl e7).trans (yes_ (f := true)))))))).le (by omega), rfl, rfl, rfl⟩

def fresh3 (t : Array Nat) (s : Nat) : M :=
  { code := c3, text := t, lim := t.size, start := s, pc := 10, pos := s, handed := s, marks := #[], seen := ({} : Seen).add 14 }
theorem forSearch3_eq (t : Array Nat) (s : Nat) : forSearch c3 t 0 s t.size false =
    if (decide (s > t.size) || decide (t.size - s < 1)) = true then (fresh3 t s).say false else M.attemptFrom { fresh3 t s with lastStart := t.size } s true := by
  with_unfolding_all rfl
theorem inSet3 (c : Nat) (seen : Seen) : ∃ seen', inSet c3 c c3.size 5 true seen = .ok (c == 10 || c == 13, seen') := by
  have hz : c3.size = 36 := rfl
  rw [hz]
  by_cases h10 : c = 10
  · subst h10
    exact ⟨seen.add 16, by simp [inSet, c3, ops]⟩
  · by_cases h13 : c = 13
    · subst h13
      exact ⟨(seen.add 16).add 16, by simp [inSet, c3, ops]⟩
    · refine ⟨((seen.add 16).add 16).add 0, ?_⟩
      have a : (c == 10) = false := by simpa using h10
      have b : (c == 13) = false := by simpa using h13
      simp [inSet, c3, ops, a, b, h10, h13]
theorem admitted3 (m : M) (hc : m.code = c3) (hl : m.lim = m.text.size) : ∀ (d s : Nat) (seen : Seen), d = m.text.size - s → s ≤ m.text.size →
    ∃ seen', M.admitted m (d + 1) s seen = .ok (findFrom (isEol m.text) (d + 1) s, seen') := by
  intro d
  induction d with
  | zero =>
    intro s seen hd hs
    have hse : s = m.text.size := by omega
    refine ⟨seen, ?_⟩
    rw [M.admitted, if_pos (by omega)]
    simp [findFrom, isEol, hse]
  | succ d ih =>
    intro s seen hd hs
    rw [M.admitted, if_neg (by omega), hc]
    obtain ⟨s1, e1⟩ := inSet3 (m.text.getD s 0) seen
    rw [e1]
    have hlt : s < m.text.size := by omega
    have hi : isEol m.text s = (m.text.getD s 0 == 10 || m.text.getD s 0 == 13) := by
      unfold isEol
      rw [decide_eq_true hlt, Bool.true_and]
    rw [findFrom, hi]
    cases hb : (m.text.getD s 0 == 10 || m.text.getD s 0 == 13) with
    | true => exact ⟨s1, rfl⟩
    | false =>
      simp only [Bool.false_eq_true, if_false]
      exact ih (s + 1) s1 (by omega) (by omega)

theorem forSearch3 (t : Array Nat) (s : Nat) (hs : s ≤ t.size) :
    ∃ m', To 30 (forSearch c3 t 0 s t.size false) m' ∧
      (match findFrom (isEol t) (t.size - s + 1) s with
       | some p => m'.outcome = some .matched ∧ m'.start = p ∧ m'.handed = p + eolLen t p
       | none => m'.outcome = some .failed) := by
  rw [forSearch3_eq]
  by_cases he : s = t.size
  · have hn : isEol t s = false := by simp [isEol, he]
    rw [if_pos (by simp; omega)]
    refine ⟨{ fresh3 t s with answer := some false, outcome := some .failed }, (To.step rfl ?_).le (by omega), ?_⟩
    · simp [M.say, M.step, fresh3]
    · subst he
      simp [findFrom, hn]
  · rw [if_neg (by simp; omega)]
    obtain ⟨seen', hA⟩ := admitted3 { fresh3 t s with lastStart := t.size } rfl rfl (t.size - s) s (({} : Seen).add 14) rfl hs
    have hf : M.hasFirstSet { fresh3 t s with lastStart := t.size } = true := rfl
    have e : t.size + 1 - s = t.size - s + 1 := by omega
    have e2 : M.attemptFrom { fresh3 t s with lastStart := t.size } s true =
        match findFrom (isEol t) (t.size - s + 1) s with
        | some p => g3 t p seen' 10 p p true [fS p true] 1 none
        | none => { fresh3 t s with lastStart := t.size, seen := seen', answer := some false } := by
      unfold M.attemptFrom
      rw [hf]
      simp only [Bool.not_true, Bool.false_eq_true, if_false]
      have hA' : M.admitted { fresh3 t s with lastStart := t.size } ({ fresh3 t s with lastStart := t.size : M }.lim + 1 - s) s { fresh3 t s with lastStart := t.size : M }.seen = .ok (findFrom (isEol t) (t.size - s + 1) s, seen') := by
        show M.admitted { fresh3 t s with lastStart := t.size } (t.size + 1 - s) s (({} : Seen).add 14) = _
        rw [e]; exact hA
      rw [hA']
      cases findFrom (isEol t) (t.size - s + 1) s with
      | none => rfl
      | some p => simp [M.attemptAt, M.attempt, fresh3, g3, fS]
    rw [e2]
    cases hF : findFrom (isEol t) (t.size - s + 1) s with
    | none =>
      refine ⟨{ fresh3 t s with lastStart := t.size, seen := seen', answer := some false, outcome := some .failed }, (To.step rfl ?_).le (by omega), rfl⟩
      simp [M.step, fresh3]
    | some p =>
      have hp : isEol t p = true := findFrom_yes _ _ hF
      obtain ⟨m', h1, h2⟩ := at3 t p true seen' hp
      exact ⟨m', h1.le (by omega), h2⟩
end Mine

end

/-! RxList -/
section
open PySem
namespace Mine

/-- every end of a row made CR LF -/
def fixL : List Nat → List Nat
  | [] => []
  | 13 :: 10 :: r => 13 :: 10 :: fixL r
  | 13 :: r => 13 :: 10 :: fixL r
  | 10 :: r => 13 :: 10 :: fixL r
  | c :: r => c :: fixL r
/-- a dot at a row's head doubled -/
def dotL : Bool → List Nat → List Nat
  | _, [] => []
  | b, c :: r => (if b && c == 46 then [46, 46] else [c]) ++ dotL (c == 10) r

theorem fixL_plain {c : Nat} {r : List Nat} (h10 : c ≠ 10) (h13 : c ≠ 13) : fixL (c :: r) = c :: fixL r := by
  rw [fixL]
  · intro r' e _; exact h13 e
  · intro e; exact h13 e
  · intro e; exact h10 e
theorem fixL_lf {r : List Nat} : fixL (10 :: r) = 13 :: 10 :: fixL r := by rw [fixL]
theorem fixL_crlf {r : List Nat} : fixL (13 :: 10 :: r) = 13 :: 10 :: fixL r := by rw [fixL]
theorem fixL_cr {r : List Nat} (h : ∀ r', r ≠ 10 :: r') : fixL (13 :: r) = 13 :: 10 :: fixL r := by
  rw [fixL]
  exact h

theorem findFrom_ge {P : Nat → Bool} {p : Nat} : ∀ (f s : Nat), findFrom P f s = some p → s ≤ p
  | 0, s, h => by simp [findFrom] at h
  | f + 1, s, h => by
    rw [findFrom] at h
    split at h
    · cases h; exact Nat.le_refl _
    · exact Nat.le_of_succ_le (findFrom_ge f (s + 1) h)
theorem getD_drop {t : Array Nat} {s : Nat} (h : s < t.size) : t.toList.drop s = t.getD s 0 :: t.toList.drop (s + 1) := by
  rw [List.drop_eq_getElem_cons (by simpa using h)]
  congr 1
  simp [Array.getD, h]

theorem fix_none (t : Array Nat) : ∀ (d s : Nat), d = t.size - s → findFrom (isEol t) (d + 1) s = none → fixL (t.toList.drop s) = t.toList.drop s := by
  intro d
  induction d with
  | zero =>
    intro s hd h
    rw [List.drop_eq_nil_of_le (by simp; omega)]
    rfl
  | succ d ih =>
    intro s hd h
    have hs : s < t.size := by omega
    rw [findFrom] at h
    split at h
    · cases h
    · next q =>
      have := ih (s + 1) (by omega) h
      rw [getD_drop hs]
      simp [isEol, hs] at q
      rw [fixL_plain, this]
      · intro e; exact q.1 (by simpa [Array.getD, hs] using e)
      · intro e; exact q.2 (by simpa [Array.getD, hs] using e)

theorem fix_some (t : Array Nat) (p : Nat) : ∀ (d s : Nat), d = t.size - s → findFrom (isEol t) (d + 1) s = some p →
    fixL (t.toList.drop s) = (t.toList.drop s).take (p - s) ++ ([13, 10] ++ fixL (t.toList.drop (p + eolLen t p))) := by
  intro d
  induction d with
  | zero =>
    intro s hd h
    rw [findFrom] at h
    split at h
    · next q => simp [isEol] at q; omega
    · simp [findFrom] at h
  | succ d ih =>
    intro s hd h
    have hs : s < t.size := by omega
    rw [findFrom] at h
    split at h
    · next q =>
      have hps : p = s := (Option.some.inj h).symm
      clear h ih
      rw [hps]
      rw [Nat.sub_self, List.take_zero, List.nil_append, getD_drop hs]
      unfold eolLen
      by_cases h13 : t.getD s 0 = 13
      · rw [h13]
        by_cases h10 : s + 1 < t.size ∧ t.getD (s + 1) 0 = 10
        · rw [if_pos ⟨rfl, h10.1, h10.2⟩, getD_drop h10.1, h10.2, fixL_crlf]
          rfl
        · rw [if_neg (fun q => h10 q.2), fixL_cr]
          · rfl
          · intro r' e
            by_cases h1 : s + 1 < t.size
            · rw [getD_drop h1] at e
              injection e with e1 e2
              exact h10 ⟨h1, e1⟩
            · rw [List.drop_eq_nil_of_le (by simp; omega)] at e
              cases e
      · have h10 : t.getD s 0 = 10 := by
          simp only [isEol, Bool.and_eq_true, decide_eq_true_eq, Bool.or_eq_true, beq_iff_eq] at q
          exact q.2.resolve_right h13
        rw [if_neg (fun q => h13 q.1), h10, fixL_lf]
        rfl
    · next q =>
      have := ih (s + 1) (by omega) h
      have hge := findFrom_ge _ _ h
      rw [getD_drop hs]
      simp [isEol, hs] at q
      rw [fixL_plain, this]
      · have : p - s = (p - (s + 1)) + 1 := by omega
        rw [this, List.take_succ_cons]
        rfl
      · intro e; exact q.1 (by simpa [Array.getD, hs] using e)
      · intro e; exact q.2 (by simpa [Array.getD, hs] using e)

/-- a row begins at s -/
def headAt (t : Array Nat) (s : Nat) : Bool := s == 0 || t.getD (s - 1) 0 == 10
theorem headAt_succ (t : Array Nat) (s : Nat) : headAt t (s + 1) = (t.getD s 0 == 10) := by simp [headAt]

theorem dot_none (t : Array Nat) : ∀ (d s : Nat), d = t.size - s → findFrom (isDot t) (d + 1) s = none → dotL (headAt t s) (t.toList.drop s) = t.toList.drop s := by
  intro d
  induction d with
  | zero =>
    intro s hd h
    rw [List.drop_eq_nil_of_le (by simp; omega)]
    rfl
  | succ d ih =>
    intro s hd h
    have hs : s < t.size := by omega
    rw [findFrom] at h
    split at h
    · cases h
    · next q =>
      have := ih (s + 1) (by omega) h
      rw [getD_drop hs, dotL, ← headAt_succ, this]
      have hb : (headAt t s && t.getD s 0 == 46) = false := by
        unfold isDot at q
        rw [decide_eq_true hs] at q
        simpa [headAt] using q
      rw [hb]
      rfl

theorem dot_some (t : Array Nat) (p : Nat) : ∀ (d s : Nat), d = t.size - s → findFrom (isDot t) (d + 1) s = some p →
    dotL (headAt t s) (t.toList.drop s) = (t.toList.drop s).take (p - s) ++ ([46, 46] ++ dotL (headAt t (p + 1)) (t.toList.drop (p + 1))) := by
  intro d
  induction d with
  | zero =>
    intro s hd h
    rw [findFrom] at h
    split at h
    · next q => simp [isDot] at q; omega
    · simp [findFrom] at h
  | succ d ih =>
    intro s hd h
    have hs : s < t.size := by omega
    rw [findFrom] at h
    split at h
    · next q =>
      have hps : p = s := (Option.some.inj h).symm
      clear h ih
      rw [hps]
      rw [Nat.sub_self, List.take_zero, List.nil_append, getD_drop hs, dotL, ← headAt_succ]
      have hb : (headAt t s && t.getD s 0 == 46) = true := by
        unfold isDot at q
        rw [decide_eq_true hs, Bool.true_and] at q
        exact q
      rw [hb]
      rfl
    · next q =>
      have := ih (s + 1) (by omega) h
      have hge := findFrom_ge _ _ h
      rw [getD_drop hs, dotL, ← headAt_succ, this]
      have hb : (headAt t s && t.getD s 0 == 46) = false := by
        unfold isDot at q
        rw [decide_eq_true hs, Bool.true_and] at q
        simpa [headAt] using q
      rw [hb]
      have : p - s = (p - (s + 1)) + 1 := by omega
      rw [this, List.take_succ_cons]
      rfl
theorem isDot_lt {t : Array Nat} {p : Nat} (h : isDot t p = true) : p < t.size := by
  simp only [isDot, Bool.and_eq_true, decide_eq_true_eq] at h; exact h.1.1
theorem isEol_lt {t : Array Nat} {p : Nat} (h : isEol t p = true) : p + eolLen t p ≤ t.size := by
  simp only [isEol, Bool.and_eq_true, decide_eq_true_eq] at h
  unfold eolLen
  split
  · next q => omega
  · omega
theorem eolLen_pos (t : Array Nat) (p : Nat) : 0 < eolLen t p := by unfold eolLen; split <;> omega
theorem fixL_length : ∀ (l : List Nat), (fixL l).length ≤ 2 * l.length := by
  intro l
  induction l using fixL.induct with
  | case1 => simp [fixL]
  | case2 r ih => rw [fixL_crlf]; simp only [List.length_cons]; omega
  | case3 r h ih => rw [fixL_cr (fun r' e => h r' e)]; simp only [List.length_cons]; omega
  | case4 r ih => rw [fixL_lf]; simp only [List.length_cons]; omega
  | case5 c r h1 h2 h3 ih =>
    rw [fixL_plain (fun e => h3 e) (fun e => h2 e)]; simp only [List.length_cons]; omega
theorem dotL_length : ∀ (l : List Nat) (b : Bool), (dotL b l).length ≤ 2 * l.length
  | [], _ => by simp [dotL]
  | c :: r, b => by
    have := dotL_length r (c == 10)
    rw [dotL]
    simp only [List.length_append, List.length_cons]
    split <;> simp <;> omega
end Mine

end

/-! RxWp -/
section
open PySem PySem.W PyProof.Rows
namespace Mine
open PySem.Builtin PySem.Builtin.Re

section
variable {M : Model} {A : Around} {E : Value → Shared → Prop} {s : Shared}
theorem drive {Q : Sre.M → Shared → Prop} : ∀ (turns n : Nat) (m m' : Sre.M), To n m m' → m'.outcome.isSome = true → n ≤ 4 * turns → 0 < turns → Q m' s → wpAny M A (reDrive turns m) Q E s := by
  intro turns
  induction turns with
  | zero => intro n m m' _ _ _ h0; omega
  | succ turns ih =>
    intro n m m' hto hd hn _ hQ
    obtain ⟨k, hk, e⟩ := hto
    unfold reDrive
    have e4 : k ≤ 4 → Sre.M.runFor reTurnSteps m = m' := fun h4 => by
      have : reTurnSteps = k + (4 - k) := by show 4 = _; omega
      rw [this, runFor_add, e, runFor_done hd]
    dsimp only
    by_cases h4 : k ≤ 4
    · rw [e4 h4, if_pos hd]
      exact wpAny_pure hQ
    · have e5 : k = 4 + (k - 4) := by omega
      rw [e5, runFor_add] at e
      by_cases hm : (Sre.M.runFor reTurnSteps m).outcome.isSome = true
      · have : Sre.M.runFor reTurnSteps m = m' := by
          have z : Sre.M.runFor 4 m = Sre.M.runFor reTurnSteps m := rfl
          rw [z, runFor_done hm] at e
          exact e
        rw [if_pos hm, this]
        exact wpAny_pure hQ
      · rw [if_neg hm]
        refine wpAny_bind (wpAny_rule ?_)
        exact ih (k - 4) _ m' ⟨k - 4, Nat.le_refl _, e⟩ hd (by omega) (by omega) hQ

theorem runToEnd {Q : Option Sre.M → Shared → Prop} {n : Nat} {m m' : Sre.M} (hto : To n m m') (hn : n ≤ 2 ^ 64)
    (ho : (m'.outcome = some .matched ∧ Q (some m') s) ∨ (m'.outcome = some .failed ∧ Q none s)) : wpAny M A (reRunToEnd m) Q E s := by
  unfold reRunToEnd
  refine wpAny_bind (drive (2 ^ 64) n m m' hto (by rcases ho with h | h <;> rw [h.1] <;> rfl) (by omega) (by decide) ?_)
  refine wpAny_bind (wpAny_forIn_list _ (fun _ _ s' => s' = s) _ (fun i rest b s' hs => ?_) (fun b s' hs => ?_) _ _ rfl)
  · split
    · exact wpAny_bind (wpAny_rule (wpAny_pure hs))
    · exact wpAny_pure hs
  · subst hs
    rcases ho with h | h
    · rw [h.1]; exact wpAny_pure h.2
    · rw [h.1]; exact wpAny_pure h.2

/-- the object of a compiled pattern -/
def patObj (src : Value) (fl : Value) (ct : Addr) (kind : Int) : Obj :=
  { cls := .type "re.Pattern", data := .fields #[src, fl, .int 0 0, .none, .none, .ref ct, .int kind 0] }
def codeObj (c : Array Nat) : Obj := { cls := .type "tuple", data := .seq (c.map fun n : Nat => Value.int (n : Int) 0) }

theorem wholeTarget {P ct : Addr} {src fl : Value} {c : Array Nat} {x : Str} {t : Tok} {Q : ReTarget → Shared → Prop} (hP : s.heap.get? P = some (patObj src fl ct 0)) (hC : s.heap.get? ct = some (codeObj c))
    (h : Q { pattern := .ref P, string := .str x t, code := c, text := x.cps, kind := 0, groups := 0, pos := 0, lim := x.cps.size } s) : wpAny M A (reWholeTarget (.ref P) (.str x t)) Q E s := by
  unfold reWholeTarget
  refine wpAny_bind (wpAny_fieldsOf hP rfl ?_)
  unfold reTextOf
  refine wpAny_bind (wpAny_bind (wpAny_pure (wpAny_pure ?_)))
  dsimp only
  refine wpAny_bind (wpAny_pure ?_)
  unfold reRawItems
  refine wpAny_bind (wpAny_bind (wpAny_seqItems hC rfl (wpAny_pure ?_)))
  refine wpAny_pure ?_
  have e : Array.map (fun x => x.toNat) (Array.map reRawOf ((some (Array.map (fun n : Nat => Value.int (n : Int) 0) c)).getD #[])) = c := by
    simp [Function.comp_def, reRawOf]
  rw [e]
  exact h
end

/-- what is asked of a compiled pattern without groups, without empty matches: its next match, and what is left to do behind a place -/
structure Pat (c : Array Nat) (repl : List Nat) where
  next : Array Nat → Nat → Option (Nat × Nat)
  rest : Array Nat → Nat → List Nat
  finds : ∀ t s, s ≤ t.size → t.size ≤ 2 ^ 24 → ∃ n m', n ≤ 2 ^ 64 ∧ To n (Sre.forSearch c t 0 s t.size false) m' ∧
    (match next t s with
     | some (p, e) => m'.outcome = some .matched ∧ m'.start = p ∧ m'.handed = e
     | none => m'.outcome = some .failed)
  inside : ∀ t s p e, next t s = some (p, e) → s ≤ p ∧ p < e ∧ e ≤ t.size
  none_ : ∀ t s, s ≤ t.size → next t s = none → rest t s = t.toList.drop s
  some_ : ∀ t s p e, s ≤ t.size → next t s = some (p, e) → rest t s = (t.toList.drop s).take (p - s) ++ (repl ++ rest t e)

def fixPat : Pat c3 [13, 10] where
  next := fun t s => (findFrom (isEol t) (t.size - s + 1) s).map fun p => (p, p + eolLen t p)
  rest := fun t s => fixL (t.toList.drop s)
  finds := fun t s hs _ => by
    obtain ⟨m', h1, h2⟩ := forSearch3 t s hs
    refine ⟨30, m', by decide, h1, ?_⟩
    cases h : findFrom (isEol t) (t.size - s + 1) s with
    | none => rw [h] at h2; exact h2
    | some p => rw [h] at h2; exact h2
  inside := fun t s p e h => by
    cases h' : findFrom (isEol t) (t.size - s + 1) s with
    | none => rw [h'] at h; cases h
    | some q =>
      rw [h'] at h
      cases h
      have := isEol_lt (findFrom_yes _ _ h')
      have := eolLen_pos t p
      have := findFrom_ge _ _ h'
      omega
  none_ := fun t s hs h => by
    cases h' : findFrom (isEol t) (t.size - s + 1) s with
    | none => exact fix_none t _ s rfl h'
    | some q => rw [h'] at h; cases h
  some_ := fun t s p e hs h => by
    cases h' : findFrom (isEol t) (t.size - s + 1) s with
    | none => rw [h'] at h; cases h
    | some q =>
      rw [h'] at h
      cases h
      exact fix_some t p _ s rfl h'
def dotPat : Pat c1 [46, 46] where
  next := fun t s => (findFrom (isDot t) (t.size - s + 1) s).map fun p => (p, p + 1)
  rest := fun t s => dotL (headAt t s) (t.toList.drop s)
  finds := fun t s hs hz => by
    obtain ⟨m', h1, h2⟩ := forSearch1 t s hs
    refine ⟨_, m', by omega, h1, ?_⟩
    cases h : findFrom (isDot t) (t.size - s + 1) s with
    | none => rw [h] at h2; exact h2
    | some p => rw [h] at h2; exact h2
  inside := fun t s p e h => by
    cases h' : findFrom (isDot t) (t.size - s + 1) s with
    | none => rw [h'] at h; cases h
    | some q =>
      rw [h'] at h
      cases h
      have := isDot_lt (findFrom_yes _ _ h')
      have := findFrom_ge _ _ h'
      omega
  none_ := fun t s hs h => by
    cases h' : findFrom (isDot t) (t.size - s + 1) s with
    | none => exact dot_none t _ s rfl h'
    | some q => rw [h'] at h; cases h
  some_ := fun t s p e hs h => by
    cases h' : findFrom (isDot t) (t.size - s + 1) s with
    | none => rw [h'] at h; cases h
    | some q =>
      rw [h'] at h
      cases h
      exact dot_some t p _ s rfl h'

abbrev Keeps (h h' : Heap) : Prop := ∀ b o, h.get? b = some o → h'.get? b = some o
def cpsAll (ps : List (Str × Tok)) : List Nat := ps.flatMap fun p => p.1.cps.toList
theorem join_empty : ∀ (ps : List Str), Txt.join ⟨#[]⟩ ps = ⟨(ps.flatMap fun p => p.cps.toList).toArray⟩ := by
  intro ps
  unfold Txt.join Builtin.Str.glued
  cases ps with
  | nil => rfl
  | cons p r =>
    simp only [List.drop_succ_cons, List.drop_zero, List.headD_cons]
    have : ∀ (r : List Str) (acc : Array Nat), (r.foldl (fun acc p => acc ++ (#[] : Array Nat) ++ p.cps) acc) = acc ++ (r.flatMap fun p => p.cps.toList).toArray := by
      intro r
      induction r with
      | nil => intro acc; simp
      | cons q r ih =>
        intro acc
        rw [List.foldl_cons, ih]
        apply Array.ext'
        simp [List.flatMap_cons]
    rw [this]
    congr 1
    apply Array.ext'
    simp [List.flatMap_cons]
theorem joinOk_empty (ps : List Str) (h : (ps.flatMap fun p => p.cps.toList).length ≤ sizeLine) : JoinOk ⟨#[]⟩ ps = true := by
  unfold JoinOk
  have : ∀ (r : List Str) (k : Nat), r.foldl (fun a p => a + p.length + (⟨#[]⟩ : Str).length) k = k + (r.flatMap fun p => p.cps.toList).length := by
    intro r
    induction r with
    | nil => intro k; simp
    | cons q r ih =>
      intro k
      rw [List.foldl_cons, ih]
      simp only [List.flatMap_cons, List.length_append, Str.length, Array.length_toList, Array.size_empty]
      show k + q.cps.size + 0 + _ = _
      omega
  simp only [Builtin.Str.tooLong, List.foldl_toArray, this]
  simpa using h

section
variable {prog : Program} {w : World} {A : Around} {s : Shared}
theorem entry_subLoop : entryFor table "re.Pattern.sub.loop" = some Builtin.«re.Pattern.sub.loop» := entryFor_of_tree (by kernel_rfl)
theorem entry_sub : entryFor table "re.Pattern.sub" = some Builtin.«re.Pattern.sub» := entryFor_of_tree (by kernel_rfl)
theorem plain_subLoop : plainId "re.Pattern.sub.loop" = true := by decide +kernel
theorem pushL {M : Model} {E : Value → Shared → Prop} {hB : Heap} {l : Addr} {vs : List Value} {nn : Nat} {v : Value} {Q : Unit → Shared → Prop} (hl : hB.get? l = none) (hk : Keeps hB s.heap)
    (hls : s.heap.get? l = some { cls := .type "list", data := .seq vs.toArray nn }) (hz : vs.length ≤ 2 ^ 23)
    (h : ∀ h' nn', Keeps hB h' → h'.get? l = some { cls := .type "list", data := .seq (vs ++ [v]).toArray nn' } → Q () { s with heap := h' }) :
    wpAny M A (updateSeq l (·.push v)) Q E s := by
  refine wpAny_updateSeq hls rfl ?_ (by rw [List.size_toArray]; show vs.length ≤ 2 ^ 24; omega) (by simp; show vs.length ≤ 2 ^ 24; omega)
  refine h _ (nn + 1) (fun b o e => ?_) ((Heap.get?_update_self _ hls rfl).trans ?_)
  · have : b ≠ l := fun q => by rw [q, hl] at e; cases e
    exact (Heap.get?_update_other _ _ (Ne.symm this)).trans (hk b o e)
  · simp [Obj.mapSeq]
theorem slice_ {M : Model} {E : Value → Shared → Prop} {x : Str} {b e : Nat} {Q : Value → Shared → Prop} (hx : x.cps.size ≤ 2 ^ 22) (h : Q (.str ⟨x.cps.extract b e⟩ s.toks) { s with toks := s.toks + 1 }) :
    wpAny M A (reSlice x.cps 0 b e) Q E s := by
  unfold reSlice
  rw [if_pos (by rfl)]
  refine wpAny_mkStr h ?_
  show (x.cps.extract b e).size ≤ 2 ^ 24
  rw [Array.size_extract]; omega
theorem cpsAll_append (a b : List (Str × Tok)) : cpsAll (a ++ b) = cpsAll a ++ cpsAll b := by unfold cpsAll; rw [List.flatMap_append]
theorem joinEnd {E : Value → Shared → Prop} {hB : Heap} {l : Addr} {x : Str} {ps : List (Str × Tok)} {nn : Nat} {Q : Fin → Shared → Prop} {n : Int} (hx : x.cps.size ≤ 2 ^ 22) (hk : Keeps hB s.heap)
    (hls : s.heap.get? l = some { cls := .type "list", data := .seq (strValues ps).toArray nn }) (hz : (cpsAll ps).length ≤ 2 ^ 24)
    (h : ∀ tv tk, Q (.done (.ret (.str ⟨(cpsAll ps).toArray⟩ tv))) { s with toks := tk }) :
    wpAny (model prog w) A (do
        let joiner ← reSlice x.cps 0 0 0
        let items ← seqItems? (Value.ref l)
        if (items.getD #[]).isEmpty = true then do
            let text ← pure joiner
            if false = true then do
                let v ← holding [text] do
                      let i ← mkInt n
                      newTuple [text, i]
                ret v
              else ret text
          else do
            let text ← call (Value.builtin (if ((0 : Nat) == 0) = true then "str.join" else "bytes.join")) [joiner, Value.ref l]
            if false = true then do
                let v ← holding [text] do
                      let i ← mkInt n
                      newTuple [text, i]
                ret v
              else ret text) Q E s := by
  refine wpAny_bind (slice_ hx ?_)
  refine wpAny_bind (wpAny_seqItems hls rfl ?_)
  have he : x.cps.extract 0 0 = #[] := by simp
  split
  · next q =>
    refine wpAny_bind (wpAny_pure ?_)
    rw [if_neg (by decide)]
    refine wpAny_pure ?_
    have : ps = [] := by
      have : (strValues ps) = [] := by simpa using q
      simpa [strValues] using this
    subst this
    rw [he]
    exact h _ _
  · rw [if_pos (by rfl)]
    refine wpAny_bind (SC.join (l := ps) (texts := ps.map (·.1)) ⟨_, hls, rfl, _, rfl⟩ rfl ?_ fun tv tk => ?_)
    · rw [he]
      refine joinOk_empty _ ?_
      rw [List.flatMap_map]
      exact hz
    · rw [if_neg (by decide)]
      refine wpAny_pure ?_
      rw [he, join_empty, List.flatMap_map]
      exact h _ _
def lArgs (P l : Addr) (x r : Str) (t tr : Tok) (n k : Int) : Args := ⟨[.ref P, .str x t, .str r tr, rawInt 0, rawInt 0, rawInt n, rawInt k, rawInt k, .bool false, .ref l, .bool false], []⟩

theorem subLoop {c : Array Nat} {rl : List Nat} (pat : Pat c rl) {P ct l : Addr} {src fl : Value} {x r : Str} {t tr : Tok} (hr : r.cps.toList = rl) (hx : x.cps.size ≤ 2 ^ 22) (hB : Heap) (hP : hB.get? P = some (patObj src fl ct 0)) (hC : hB.get? ct = some (codeObj c)) (hl : hB.get? l = none)
    (hrl : rl.length ≤ 2) {R : Result → Shared → Prop} : ∀ (d k : Nat) (n : Int) (ps : List (Str × Tok)) (nn : Nat) (s : Shared), d = x.cps.size - k → k ≤ x.cps.size → Keeps hB s.heap →
      s.heap.get? l = some { cls := .type "list", data := .seq (strValues ps).toArray nn } → ps.length ≤ 2 * k → (cpsAll ps).length ≤ 2 * k →
      (∀ h' tv tk, Keeps hB h' → R (.ok (.ret (.str ⟨(cpsAll ps ++ pat.rest x.cps k).toArray⟩ tv))) { s with heap := h', toks := tk }) →
      codeAny (model prog w) A (.builtin "re.Pattern.sub.loop" (lArgs P l x r t tr n (k : Int))) R s := by
  intro d
  induction d using Nat.strongRecOn with
  | ind d ih =>
    intro k n ps nn s hd hk hkeep hls hpl hsl hR
    have hq : (Code.builtin "re.Pattern.sub.loop" (lArgs P l x r t tr n (k : Int))).quiet = true := plainId_quiet plain_subLoop _
    refine codeAny_builtin entry_subLoop ?_
    rw [Around.under_plainId plain_subLoop]
    unfold Builtin.«re.Pattern.sub.loop»
    simp only [lArgs, rawInt]
    refine wpAny_bind (wholeTarget (hkeep _ _ hP) (hkeep _ _ hC) ?_)
    rw [if_pos (by rfl)]
    unfold reLiteralCannotBeTurned
    refine wpAny_bind (wpAny_bind (wpAny_pure (wpAny_pure ?_)))
    rw [if_neg (by rw [show ((0 : Int) != 0) = false from rfl, Bool.false_and]; decide)]
    obtain ⟨N, m', hN, hto, hm⟩ := pat.finds x.cps k hk (by omega)
    unfold reNextFound
    dsimp only
    have hres : ((k : Int)).toNat = k := rfl
    simp only [hres]
    cases hnx : pat.next x.cps k with
    | none =>
      rw [hnx] at hm
      refine wpAny_bind (runToEnd hto hN (.inr ⟨hm, ?_⟩))
      dsimp only
      have hrest := pat.none_ x.cps k hk hnx
      split
      · next hlt =>
        refine wpAny_bind (slice_ hx ?_)
        refine wpAny_bind (pushL hl hkeep hls (by simp only [strValues, List.length_map]; omega) fun h' nn' hk' hl' => ?_)
        have hcat : cpsAll (ps ++ [((⟨x.cps.extract k x.cps.size⟩ : Str), s.toks)]) = cpsAll ps ++ pat.rest x.cps k := by
          rw [cpsAll_append, hrest]
          simp [cpsAll, Array.toList_extract]
          rw [List.take_of_length_le (by simp)]
        refine joinEnd (ps := ps ++ [(⟨x.cps.extract k x.cps.size⟩, s.toks)]) hx hk' (by simpa [strValues] using hl') ?_ fun tv tk => ?_
        · rw [hcat, hrest]
          simp; omega
        · rw [hcat]
          exact hR _ _ _ hk'
      · next hlt =>
        have : pat.rest x.cps k = [] := by rw [hrest]; exact List.drop_eq_nil_of_le (by simp; omega)
        refine joinEnd hx hkeep hls (by omega) fun tv tk => ?_
        have := hR s.heap tv tk hkeep
        rw [‹pat.rest x.cps k = []›, List.append_nil] at this
        exact this
    | some pe =>
      obtain ⟨p, e⟩ := pe
      rw [hnx] at hm
      obtain ⟨h1, h2, h3⟩ := pat.inside _ _ _ _ hnx
      refine wpAny_bind (runToEnd hto hN (.inl ⟨hm.1, ?_⟩))
      dsimp only
      rw [hm.2.1, hm.2.2]
      have hrest := pat.some_ x.cps k p e hk hnx
      have hne : (e == p) = false := by simp; omega
      rw [hne]
      have hrlen : r.cps.toList.length ≤ 2 := by rw [hr]; exact hrl
      -- behind the piece ahead of the match
      have go : ∀ (ps' : List (Str × Tok)) (nn' : Nat) (s' : Shared), s'.gens = s.gens → s'.drawn = s.drawn → s'.os = s.os → Keeps hB s'.heap →
          s'.heap.get? l = some { cls := .type "list", data := .seq (strValues ps').toArray nn' } → cpsAll ps' = cpsAll ps ++ (x.cps.toList.drop k).take (p - k) → ps'.length ≤ ps.length + (p - k) →
          wpAny (model prog w) A.in1 (if ((0 : Int) == 0) = true then do
              let item ← pure (Value.str r tr)
              if (item != Value.none) = true then do
                  updateSeq l fun x => x.push item
                  again (Code.builtin "re.Pattern.sub.loop" { pos := [Value.ref P, Value.str x t, Value.str r tr, Value.int 0 0, Value.int 0 0, Value.int (n + 1) 0, Value.int (↑e) 0, Value.int (↑e) 0, Value.bool false, Value.ref l, Value.bool false] })
                else again (Code.builtin "re.Pattern.sub.loop" { pos := [Value.ref P, Value.str x t, Value.str r tr, Value.int 0 0, Value.int 0 0, Value.int (n + 1) 0, Value.int (↑e) 0, Value.int (↑e) 0, Value.bool false, Value.ref l, Value.bool false] })
            else do
              let found ← reNewMatch (Value.ref P) (Value.str x t) 0 0 x.cps.size m'
              let item ← holding [found] (if ((0 : Int) == 1) = true then call (Value.str r tr) [found]
                  else do
                    let f ← reFound found
                    reExpand (Value.str r tr) f)
              if (item != Value.none) = true then do
                  updateSeq l fun x => x.push item
                  again (Code.builtin "re.Pattern.sub.loop" { pos := [Value.ref P, Value.str x t, Value.str r tr, Value.int 0 0, Value.int 0 0, Value.int (n + 1) 0, Value.int (↑e) 0, Value.int (↑e) 0, Value.bool false, Value.ref l, Value.bool false] })
                else again (Code.builtin "re.Pattern.sub.loop" { pos := [Value.ref P, Value.str x t, Value.str r tr, Value.int 0 0, Value.int 0 0, Value.int (n + 1) 0, Value.int (↑e) 0, Value.int (↑e) 0, Value.bool false, Value.ref l, Value.bool false] }))
            (fun fin s' => match fin with
              | Fin.done f => R (Except.ok f) s'
              | Fin.again c' => c'.quiet = true ∧ codeAny (model prog w) A c' R s')
            (fun e s' => R (Except.error e) s') s' := by
        intro ps' nn' s' hg hdr hos hk' hl' hcat hlen
        rw [if_pos (by rfl)]
        refine wpAny_bind (wpAny_pure ?_)
        have hcl : (cpsAll ps').length ≤ 2 * k + (p - k) := by
          rw [hcat, List.length_append, List.length_take]; omega
        rw [if_pos (by rfl)]
        refine wpAny_bind (pushL hl hk' hl' (by simp only [strValues, List.length_map]; omega) fun h'' nn'' hk'' hl'' => ?_)
        refine wpAny_pure ⟨plainId_quiet plain_subLoop _, ?_⟩
        refine ih (x.cps.size - e) (by omega) e (n + 1) (ps' ++ [(r, tr)]) nn'' _ rfl h3 hk'' (by simpa [strValues] using hl'') (by simp; omega) ?_ fun h3 tv tk hk3 => ?_
        · rw [cpsAll_append, List.length_append]
          simp only [cpsAll, List.flatMap_cons, List.flatMap_nil, List.append_nil]
          simp only [cpsAll] at hcl
          omega
        · have := hR h3 tv tk hk3
          rw [hrest] at this
          have e2 : cpsAll (ps' ++ [(r, tr)]) ++ pat.rest x.cps e = cpsAll ps ++ ((x.cps.toList.drop k).take (p - k) ++ (rl ++ pat.rest x.cps e)) := by
            rw [cpsAll_append, hcat]
            simp [cpsAll, hr]
          rw [e2]
          show R _ { heap := h3, gens := s'.gens, drawn := s'.drawn, toks := tk, os := s'.os }
          rw [hg, hdr, hos]
          exact this
      split
      · next hlt =>
        refine wpAny_bind (slice_ hx ?_)
        refine wpAny_bind (pushL hl hkeep hls (by simp only [strValues, List.length_map]; omega) fun h' nn' hk' hl' => ?_)
        refine go (ps ++ [(⟨x.cps.extract k p⟩, s.toks)]) nn' _ rfl rfl rfl hk' (by simpa [strValues] using hl') ?_ (by simp; omega)
        rw [cpsAll_append]
        simp [cpsAll, Array.toList_extract]
      · next hlt =>
        refine go ps nn s rfl rfl rfl hkeep hls ?_ (by omega)
        have : p - k = 0 := by omega
        rw [this]; simp
end
end Mine

end

/-! RxSub -/
section
open PySem PySem.W PyProof.Rows
namespace Mine
open PySem.Builtin PySem.Builtin.Re

theorem slot_re_sub : Slot "re.Pattern" "sub" "re.Pattern.sub" :=
  .of (owner := "re.Pattern") (n := "sub") (by rw [typeLookup_type, builtinLookup_eq_fast]; kernel_rfl) (by decide +kernel) (by decide +kernel) (by decide +kernel)
    (by first | exact .inl (by decide +kernel) | exact .inr (by decide +kernel)) (by rw [isSubtype_type]; kernel_rfl)
theorem owner_re : Manifest.owners.lookup (String.ofList ['n', 'r', 'e', 't', 't', 'a', 'P', '.', 'e', 'r'].reverse) = some Manifest.sig_re_Pattern := by kernel_rfl
theorem args_re_sub (a b c : Value) : argsOk "re.Pattern.sub" ⟨[a, b, c], []⟩ := by
  unfold argsOk
  rw [signature?_of (id := "re.Pattern.sub") (n := ['b', 'u', 's']) (o := ['n', 'r', 'e', 't', 't', 'a', 'P', '.', 'e', 'r']) (by kernel_rfl) owner_re]
  kernel_rfl
theorem str_nocall : typeLookup (.type "str") "__call__" = pure none := by rw [typeLookup_type, builtinLookup_eq_fast]; kernel_rfl
theorem named_sub (r x : Value) : reNamed "re.Pattern.sub" "sub" ["repl", "string", "count"] 2 [r, x] [] = pure [some r, some x, none] := by
  rfl

section
variable {prog : Program} {w : World} {A : Around} {E : Value → Shared → Prop} {s : Shared}
theorem call_sub {c : Array Nat} {rl : List Nat} (pat : Pat c rl) {P ct : Addr} {src fl : Value} {x r : Str} {t tr : Tok} {Q : Value → Shared → Prop} (hr : r.cps.toList = rl) (hno : r.cps.contains 92 = false) (hx : x.cps.size ≤ 2 ^ 22) (hrl : rl.length ≤ 2)
    (hP : s.heap.get? P = some (patObj src fl ct 0)) (hC : s.heap.get? ct = some (codeObj c))
    (h : ∀ h' tv tk, Keeps s.heap h' → Q (.str ⟨(pat.rest x.cps 0).toArray⟩ tv) { s with heap := h', toks := tk }) :
    wpAny (model prog w) A (call (.builtin "re.Pattern.sub") [.ref P, .str r tr, .str x t]) Q E s := by
  refine wpAny_call (codeAny_call_builtin slot_re_sub.plain entry_sub (slot_re_sub.check _ _ _ _ _ _ _ _ ⟨_, hP, rfl⟩ (args_re_sub _ _ _) ?_))
  unfold Builtin.«re.Pattern.sub» reSubstitute
  dsimp only
  rw [named_sub]
  refine wpAny_bind (wpAny_pure ?_)
  dsimp only
  refine wpAny_bind (wpAny_pure ?_)
  refine wpAny_bind (wpAny_specialOf_val rfl str_nocall ?_)
  rw [if_neg (by decide)]
  refine wpAny_bind (wpAny_pure ?_)
  dsimp only
  refine wpAny_bind (wpAny_pure ?_)
  rw [hno]
  rw [if_neg (by decide), if_pos (by rfl)]
  refine wpAny_bind (wpAny_pure ?_)
  dsimp only
  refine wpAny_bind (wpAny_holding (wholeTarget hP hC ?_))
  rw [if_neg (by decide)]
  refine wpAny_bind (wpAny_newList ?_)
  refine wpAny_pure ⟨plainId_quiet plain_subLoop _, ?_⟩
  have hnone : s.heap.get? s.heap.objs.size = none := by
    cases e : s.heap.get? s.heap.objs.size with
    | none => rfl
    | some o => exact absurd (Heap.lt_size e) (Nat.lt_irrefl _)
  refine subLoop pat hr hx s.heap hP hC hnone hrl (x.cps.size) 0 0 [] 0 _ rfl (Nat.zero_le _) (fun b o e => Heap.get?_push_of_some _ e) (Heap.get?_push_size _ rfl) (Nat.le_refl _) (Nat.le_refl _) fun h' tv tk hk => ?_
  exact h h' tv tk hk

theorem re_ga : typeLookup (.type "re.Pattern") "__getattribute__" = pure (some (.builtin "object.__getattribute__")) := by rw [typeLookup_type, builtinLookup_eq_fast]; kernel_rfl
theorem re_noga : typeLookup (.type "re.Pattern") "__getattr__" = pure none := by rw [typeLookup_type, builtinLookup_eq_fast]; kernel_rfl
theorem re_ga_canon : (Manifest.canonical "object.__getattribute__" != "object.__getattribute__") = false := by decide +kernel
theorem re_sub_type : typeOf (.builtin "re.Pattern.sub") = pure (.type "method_descriptor") := by show builtinType _ = _; rw [builtinType_eq_fast]; kernel_rfl
theorem getMethod_sub {M : Model} {P ct : Addr} {src fl : Value} {k : Int} {pl : Sem Bool} {Q : Value × List Value → Shared → Prop} (hP : s.heap.get? P = some (patObj src fl ct k)) (h : Q (.builtin "re.Pattern.sub", [.ref P]) s) :
    wpAny M A (getMethod (.ref P) "sub" pl) Q E s := by
  have hT : s.TypeIs (.ref P) "re.Pattern" := ⟨_, hP, rfl⟩
  unfold getMethod
  refine wpAny_bind (wpAny_specialOf hT re_ga ?_)
  dsimp only
  rw [if_neg (by rw [re_ga_canon]; decide)]
  refine wpAny_bind (wpAny_specialOf hT re_noga ?_)
  rw [if_neg (by decide)]
  refine wpAny_bind (wpAny_specialOf hT slot_re_sub.lookup ?_)
  dsimp only
  refine wpAny_bind (wpAny_of_eq re_sub_type ?_)
  rw [if_neg (by decide)]
  refine wpAny_bind (wpAny_loadPart hP ?_)
  exact wpAny_bind (wpAny_rule (wpAny_pure h))

def fixS (x : Str) : Str := ⟨(fixL x.cps.toList).toArray⟩
def dotS (x : Str) : Str := ⟨(dotL true x.cps.toList).toArray⟩
theorem call_fix {h₀ : Heap} {L : Addr} {m : Str → Option Value} {news : List (Addr × Obj)} {P ct : Addr} {src fl : Value} {x r : Str} {t tr : Tok} {Q : Value → Shared → Prop} (F : Fr h₀ L s.heap m) (N : News h₀ L s.heap news)
    (hP : h₀.get? P = some (patObj src fl ct 0)) (hC : h₀.get? ct = some (codeObj c3)) (hr : r.cps.toList = [13, 10]) (hx : x.length ≤ 4194304)
    (h : ∀ h' tv tk, (fixS x).length ≤ 2 * x.length → Fr h₀ L h' m → News h₀ L h' news → Q (.str (fixS x) tv) { s with heap := h', toks := tk }) :
    wpAny (model prog w) A (call (.builtin "re.Pattern.sub") [.ref P, .str r tr, .str x t]) Q E s := by
  refine call_sub fixPat hr ?_ (by show x.length ≤ 2 ^ 22; omega) (by decide) (F.keep _ _ hP) (F.keep _ _ hC) fun h' tv tk hk => h h' tv tk ?_ (F.keeps hk) (N.grown hk)
  · rw [← Array.contains_toList, hr]; rfl
  · show (fixL _).toArray.size ≤ 2 * x.cps.size
    rw [List.size_toArray]
    exact fixL_length _
theorem call_dot {h₀ : Heap} {L : Addr} {m : Str → Option Value} {news : List (Addr × Obj)} {P ct : Addr} {src fl : Value} {x r : Str} {t tr : Tok} {Q : Value → Shared → Prop} (F : Fr h₀ L s.heap m) (N : News h₀ L s.heap news)
    (hP : h₀.get? P = some (patObj src fl ct 0)) (hC : h₀.get? ct = some (codeObj c1)) (hr : r.cps.toList = [46, 46]) (hx : x.length ≤ 4194304)
    (h : ∀ h' tv tk, (dotS x).length ≤ 2 * x.length → Fr h₀ L h' m → News h₀ L h' news → Q (.str (dotS x) tv) { s with heap := h', toks := tk }) :
    wpAny (model prog w) A (call (.builtin "re.Pattern.sub") [.ref P, .str r tr, .str x t]) Q E s := by
  refine call_sub dotPat hr ?_ (by show x.length ≤ 2 ^ 22; omega) (by decide) (F.keep _ _ hP) (F.keep _ _ hC) fun h' tv tk hk => h h' tv tk ?_ (F.keeps hk) (N.grown hk)
  · rw [← Array.contains_toList, hr]; rfl
  · show (dotL _ _).toArray.size ≤ 2 * x.cps.size
    rw [List.size_toArray]
    exact dotL_length _ _
end
end Mine

end

/-! P02 -/
section
open PySem PySem.W PyProof.Rows
namespace Mine
/-! the law of 02, plain: a text's rows, the stream, the receiver -/
abbrev Rows := List (List Nat)
/-- one sign more: the rows so far (the open one last), the sign ahead -/
def rowStep (a : Option Nat) (rs : Rows) (c : Nat) : Rows :=
  if c = 13 ∨ (c = 10 ∧ a ≠ some 13) then rs ++ [[]]
  else if c ≠ 10 then rs.dropLast ++ [rs.getLastD [] ++ [c]] else rs
def rowsFrom : Option Nat → Rows → List Nat → Rows
  | _, rs, [] => rs
  | a, rs, c :: r => rowsFrom (some c) (rowStep a rs c) r
/-- the rows of a text, as the law's own reader makes them -/
def trim (rs : Rows) : Rows := if 1 < rs.length ∧ rs.getLastD [] = [] then rs.dropLast else rs
def rowsN (l : List Nat) : Rows := trim (rowsFrom none [[]] l)
def isEnd (l : List Nat) : Bool := match l.getLast? with | some c => c == 13 || c == 10 | none => false
def stuff (r : List Nat) : List Nat := if r.head? = some 46 then 46 :: r else r
def wire (rs : Rows) : List Nat := rs.flatMap fun r => stuff r ++ [13, 10]

/-- the rows of a text, told by recursion: the open row so far, the rest -/
def plainRow (r : List Nat) : Prop := ∀ c ∈ r, c ≠ 10 ∧ c ≠ 13
theorem rowStep_end {a : Option Nat} {rs : Rows} {c : Nat} (h : c = 13 ∨ (c = 10 ∧ a ≠ some 13)) : rowStep a rs c = rs ++ [[]] := by rw [rowStep, if_pos h]
theorem rowStep_skip {rs : Rows} : rowStep (some 13) rs 10 = rs := by simp [rowStep]
theorem rowStep_sign {a : Option Nat} {rs : Rows} {r : List Nat} {c : Nat} (h10 : c ≠ 10) (h13 : c ≠ 13) : rowStep a (rs ++ [r]) c = rs ++ [r ++ [c]] := by
  simp [rowStep, h10, h13]
/-- what quoting sends for the text behind an open row r: the row's rest and the rows behind it -/
theorem dotL_open (b : Bool) (r : List Nat) (hr : plainRow r) (X : List Nat) : True := trivial
/-- rows with their open last one, on the wire: closed rows whole, the open one without its end -/
def wireOpen (rs : Rows) (r : List Nat) : List Nat := wire rs ++ stuff r
theorem stuff_snoc (r : List Nat) (c : Nat) : stuff (r ++ [c]) = stuff r ++ (if r = [] ∧ c = 46 then [46, 46] else [c]) := by
  cases r with
  | nil =>
    by_cases h : c = 46
    · subst h; rfl
    · simp [stuff, h]
  | cons d q => simp [stuff]; split <;> simp
theorem wire_snoc (rs : Rows) (r : List Nat) : wire (rs ++ [r]) = wireOpen rs r ++ [13, 10] := by simp [wire, wireOpen]
/-- the heart: the fixed and dotted text, row by row -/
theorem quote_rows (l : List Nat) : ∀ (a : Option Nat) (rs : Rows) (r : List Nat), (a = some 13 → ∀ q, l ≠ 10 :: q) → 
    ∃ rs' r', rowsFrom a (rs ++ [r]) l = rs' ++ [r'] ∧ wireOpen rs' r' = wireOpen rs r ++ dotL (r == []) (fixL l) := by
  induction l using fixL.induct with
  | case1 => intro a rs r _; exact ⟨rs, r, rfl, by simp [fixL, dotL]⟩
  | case2 q ih =>
    intro a rs r _
    obtain ⟨rs', r', h1, h2⟩ := ih (some 10) (rs ++ [r]) [] (by simp)
    refine ⟨rs', r', ?_, ?_⟩
    · rw [rowsFrom, rowsFrom, rowStep_end (.inl rfl), rowStep_skip]; exact h1
    · rw [h2, fixL_crlf, wireOpen, wire_snoc]
      have : dotL (r == []) (13 :: 10 :: fixL q) = 13 :: 10 :: dotL true (fixL q) := by simp [dotL]
      rw [this]
      simp [stuff]
  | case3 q h ih =>
    intro a rs r _
    obtain ⟨rs', r', h1, h2⟩ := ih (some 13) (rs ++ [r]) [] (fun _ q' e => h q' e)
    refine ⟨rs', r', ?_, ?_⟩
    · rw [rowsFrom, rowStep_end (.inl rfl)]; exact h1
    · rw [h2, fixL_cr (fun q' e => h q' e), wireOpen, wire_snoc]
      have : dotL (r == []) (13 :: 10 :: fixL q) = 13 :: 10 :: dotL true (fixL q) := by simp [dotL]
      rw [this]
      simp [stuff]
  | case4 q ih =>
    intro a rs r ha
    have h13 : a ≠ some 13 := fun e => ha e q rfl
    obtain ⟨rs', r', h1, h2⟩ := ih (some 10) (rs ++ [r]) [] (by simp)
    refine ⟨rs', r', ?_, ?_⟩
    · rw [rowsFrom, rowStep_end (.inr ⟨rfl, h13⟩)]; exact h1
    · rw [h2, fixL_lf, wireOpen, wire_snoc]
      have : dotL (r == []) (13 :: 10 :: fixL q) = 13 :: 10 :: dotL true (fixL q) := by simp [dotL]
      rw [this]
      simp [stuff]
  | case5 c q h1 h2 h3 ih =>
    intro a rs r _
    have h13 : c ≠ 13 := fun e => h2 e
    have h10 : c ≠ 10 := fun e => h3 e
    obtain ⟨rs', r', k1, k2⟩ := ih (some c) rs (r ++ [c]) (fun e => absurd (Option.some.inj e) h13)
    refine ⟨rs', r', ?_, ?_⟩
    · rw [rowsFrom, rowStep_sign h10 h13]; exact k1
    · have e1 : ((r ++ [c]) == ([] : List Nat)) = false := by simp
      have e2 : (c == 10) = false := by simpa using h10
      rw [k2, e1, fixL_plain h10 h13, dotL, e2]
      unfold wireOpen
      rw [stuff_snoc]
      by_cases hr : r = []
      · subst hr
        by_cases hc : c = 46
        · subst hc; simp
        · simp [hc]
      · have : (r == ([] : List Nat)) = false := by simpa using hr
        simp [hr, this]

/-! the open row and the last sign -/
def endsO (a : Option Nat) : Bool := match a with | some c => c == 13 || c == 10 | none => false
theorem last_row (l : List Nat) : ∀ (a : Option Nat) (rs : Rows) (r : List Nat), (endsO a = true → r = [] ∧ rs ≠ []) → (endsO a = false → a ≠ none → r ≠ []) →
    ∃ rs' r', rowsFrom a (rs ++ [r]) l = rs' ++ [r'] ∧ (endsO (l.getLast?.or a) = true → r' = [] ∧ rs' ≠ []) ∧ (endsO (l.getLast?.or a) = false → l.getLast?.or a ≠ none → r' ≠ []) ∧ (l = [] → rs' = rs ∧ r' = r) := by
  induction l with
  | nil => intro a rs r h1 h2; exact ⟨rs, r, rfl, by simpa using h1, by simpa using h2, fun _ => ⟨rfl, rfl⟩⟩
  | cons c q ih =>
    intro a rs r h1 h2
    have hl : (c :: q).getLast?.or a = q.getLast?.or (some c) := by
      cases q with
      | nil => rfl
      | cons d q => rw [List.getLast?_cons_cons, List.getLast?_eq_some_getLast (l := d :: q) (by simp)]; rfl
    rw [hl, rowsFrom]
    by_cases he : c = 13 ∨ (c = 10 ∧ a ≠ some 13)
    · rw [rowStep_end he]
      obtain ⟨rs', r', k1, k2, k3, _⟩ := ih (some c) (rs ++ [r]) [] (fun _ => ⟨rfl, by simp⟩) (fun hh _ => by
        rcases he with rfl | ⟨rfl, _⟩ <;> simp [endsO] at hh)
      exact ⟨rs', r', k1, k2, k3, fun e => by cases e⟩
    · by_cases h10 : c = 10
      · have ha : a = some 13 := by
          cases a with
          | none => exact absurd (.inr ⟨h10, by simp⟩) he
          | some d => by_cases hd : d = 13
                      · rw [hd]
                      · exact absurd (.inr ⟨h10, by simpa using hd⟩) he
        subst ha h10
        rw [rowStep_skip]
        obtain ⟨hr, hrs⟩ := h1 rfl
        obtain ⟨rs', r', k1, k2, k3, _⟩ := ih (some 10) rs r (fun _ => ⟨hr, hrs⟩) (fun hh _ => by simp [endsO] at hh)
        exact ⟨rs', r', k1, k2, k3, fun e => by cases e⟩
      · have h13 : c ≠ 13 := fun e => he (.inl e)
        rw [rowStep_sign h10 h13]
        obtain ⟨rs', r', k1, k2, k3, _⟩ := ih (some c) rs (r ++ [c]) (fun hh => by simp [endsO, h10, h13] at hh) (fun _ _ => by simp)
        exact ⟨rs', r', k1, k2, k3, fun e => by cases e⟩
theorem rows_plain (l : List Nat) : ∀ (a : Option Nat) (rs : Rows) (r : List Nat), (∀ x ∈ rs, plainRow x) → plainRow r → ∀ x ∈ rowsFrom a (rs ++ [r]) l, plainRow x := by
  induction l with
  | nil =>
    intro a rs r h1 h2 x hx
    rcases List.mem_append.mp hx with hx | hx
    · exact h1 x hx
    · rw [List.mem_singleton.mp hx]; exact h2
  | cons c q ih =>
    intro a rs r h1 h2
    rw [rowsFrom]
    by_cases he : c = 13 ∨ (c = 10 ∧ a ≠ some 13)
    · rw [rowStep_end he]
      refine ih (some c) (rs ++ [r]) [] (fun x hx => ?_) (fun d hd => (nomatch hd))
      rcases List.mem_append.mp hx with hx | hx
      · exact h1 x hx
      · rw [List.mem_singleton.mp hx]; exact h2
    · by_cases h10 : c = 10
      · have : rowStep a (rs ++ [r]) c = rs ++ [r] := by
          rw [rowStep, if_neg he, if_neg (by simpa using h10)]
        rw [this]
        exact ih (some c) rs r h1 h2
      · have h13 : c ≠ 13 := fun e => he (.inl e)
        rw [rowStep_sign h10 h13]
        refine ih (some c) rs (r ++ [c]) h1 (fun d hd => ?_)
        rcases List.mem_append.mp hd with hd | hd
        · exact h2 d hd
        · rw [List.mem_singleton.mp hd]; exact ⟨h10, h13⟩
def quoteN (l : List Nat) : List Nat := dotL true (fixL l)
theorem trim_end {rs : Rows} (h : rs ≠ []) : trim (rs ++ [[]]) = rs := by
  have hl : 0 < rs.length := List.length_pos_iff.mpr h
  unfold trim
  rw [if_pos ⟨by simp; omega, by simp⟩]
  simp
theorem trim_open {rs : Rows} {r : List Nat} (h : r ≠ [] ∨ rs = []) : trim (rs ++ [r]) = rs ++ [r] := by
  unfold trim
  rw [if_neg]
  rintro ⟨h1, h2⟩
  rcases h with h | h
  · exact h (by simpa using h2)
  · subst h; simp at h1
theorem isEnd_eq (l : List Nat) : isEnd l = endsO (l.getLast?.or none) := by
  unfold isEnd endsO
  cases l.getLast? <;> rfl
/-- what a message is on the wire -/
theorem quote_wire (l : List Nat) : quoteN l ++ (if isEnd l then [] else [13, 10]) = wire (rowsN l) := by
  obtain ⟨rs', r', h1, h2⟩ := quote_rows l none [] [] (by simp)
  obtain ⟨rs2, r2, k1, k2, k3, k4⟩ := last_row l none [] [] (by simp [endsO]) (by simp)
  rw [h1] at k1
  obtain ⟨e1, e2⟩ := List.append_inj' k1 rfl
  have e2' : r' = r2 := by simpa using e2
  subst e1 e2'
  have hq : quoteN l = wireOpen rs' r' := by
    rw [h2]; rfl
  have hrow : rowsFrom none [[]] l = rs' ++ [r'] := h1
  unfold rowsN
  rw [hrow, hq, isEnd_eq]
  cases he : endsO (l.getLast?.or none) with
  | true =>
    obtain ⟨q1, q2⟩ := k2 he
    rw [q1, trim_end q2]
    simp [wireOpen, stuff]
  | false =>
    have : r' ≠ [] ∨ rs' = [] := by
      cases l with
      | nil => exact .inr (k4 rfl).1
      | cons c q => exact .inl (k3 he (by rw [List.getLast?_eq_some_getLast (l := c :: q) (by simp)]; simp))
    rw [trim_open this]
    simp [wire, wireOpen]
theorem stuff_last {r : List Nat} (h : r ≠ []) : ∃ q c, stuff r = q ++ [c] ∧ c ∈ r := by
  obtain ⟨q, c, rfl⟩ : ∃ q c, r = q ++ [c] := ⟨r.dropLast, r.getLast h, (List.dropLast_concat_getLast h).symm⟩
  unfold stuff
  split
  · exact ⟨46 :: q, c, by simp, by simp⟩
  · exact ⟨q, c, rfl, by simp⟩
/-- a quoted message ends in CRLF exactly where the message ends in a return or a feed -/
theorem quote_end (l : List Nat) : (isEnd l = true → ∃ q, quoteN l = q ++ [13, 10]) ∧ (isEnd l = false → quoteN l = [] ∨ ∃ q c, quoteN l = q ++ [c] ∧ c ≠ 10) := by
  obtain ⟨rs', r', h1, h2⟩ := quote_rows l none [] [] (by simp)
  obtain ⟨rs2, r2, k1, k2, k3, k4⟩ := last_row l none [] [] (by simp [endsO]) (by simp)
  have hp := rows_plain l none [] [] (fun x hx => (nomatch hx)) (fun d hd => (nomatch hd))
  rw [h1] at k1 hp
  obtain ⟨e1, e2⟩ := List.append_inj' k1 rfl
  have e2' : r' = r2 := by simpa using e2
  subst e1 e2'
  have hq : quoteN l = wireOpen rs' r' := by rw [h2]; rfl
  rw [hq, isEnd_eq]
  constructor
  · intro he
    obtain ⟨q1, q2⟩ := k2 he
    rw [q1]
    obtain ⟨q, c, rfl⟩ : ∃ q c, rs' = q ++ [c] := ⟨rs'.dropLast, rs'.getLast q2, (List.dropLast_concat_getLast q2).symm⟩
    exact ⟨wire q ++ stuff c, by simp [wireOpen, wire, stuff]⟩
  · intro he
    cases l with
    | nil =>
      obtain ⟨q1, q2⟩ := k4 rfl
      exact .inl (by rw [q1, q2]; rfl)
    | cons c q =>
      have hr := k3 he (by rw [List.getLast?_eq_some_getLast (l := c :: q) (by simp)]; simp)
      obtain ⟨u, d, e, hd⟩ := stuff_last hr
      exact .inr ⟨wire rs' ++ u, d, by rw [wireOpen, e, List.append_assoc], (hp r' (by simp) d hd).1⟩

/-! the receiver -/
def hearN : List Rows → Rows → List (List Nat) → List Rows
  | H, _, [] => H
  | H, cur, p :: ps => if p = [46] then hearN (H ++ [cur]) [] ps else if p.head? = some 46 then hearN H (cur ++ [p.tail]) ps else hearN H (cur ++ [p]) ps
theorem hear_rows (rs : Rows) : ∀ (H : List Rows) (cur : Rows) (rest : List (List Nat)), hearN H cur (rs.map stuff ++ [46] :: rest) = hearN (H ++ [cur ++ rs]) [] rest := by
  induction rs with
  | nil => intro H cur rest; simp [hearN]
  | cons r rs ih =>
    intro H cur rest
    rw [List.map_cons, List.cons_append, hearN]
    by_cases h : r.head? = some 46
    · have hs : stuff r = 46 :: r := by rw [stuff, if_pos h]
      rw [hs]
      have hne : ¬ ((46 :: r) = [46]) := by
        intro e
        have : r = [] := by simpa using e
        rw [this] at h; cases h
      rw [if_neg hne, if_pos (by rfl)]
      have := ih H (cur ++ [r]) rest
      simpa using this
    · have hs : stuff r = r := by rw [stuff, if_neg h]
      rw [hs]
      have hne : ¬ (r = [46]) := by intro e; rw [e] at h; exact h rfl
      rw [if_neg hne, if_neg h]
      have := ih H (cur ++ [r]) rest
      simpa using this
/-- the pieces between the ends, for all messages -/
def pieces (ms : List (List Nat)) : List (List Nat) := ms.flatMap fun l => (rowsN l).map stuff ++ [[46]]
theorem hear_all (ms : List (List Nat)) : ∀ H, hearN H [] (pieces ms) = H ++ ms.map rowsN := by
  induction ms with
  | nil => intro H; simp [pieces, hearN]
  | cons m ms ih =>
    intro H
    have e : pieces (m :: ms) = (rowsN m).map stuff ++ [46] :: pieces ms := by simp [pieces]
    rw [e, hear_rows, ih]
    simp
def streamN (ms : List (List Nat)) : List Nat := ms.flatMap fun l => (quoteN l ++ (if isEnd l then [] else [13, 10])) ++ [46, 13, 10]
theorem stream_pieces (ms : List (List Nat)) : streamN ms = (pieces ms).flatMap fun p => p ++ [13, 10] := by
  induction ms with
  | nil => rfl
  | cons m ms ih =>
    unfold streamN pieces at ih ⊢
    rw [List.flatMap_cons, List.flatMap_cons, List.flatMap_append, ← ih, quote_wire]
    simp [wire, List.flatMap_map]
theorem plain_trim {rs : Rows} (h : ∀ x ∈ rs, plainRow x) : ∀ x ∈ trim rs, plainRow x := by
  unfold trim
  split
  · exact fun x hx => h x (List.dropLast_subset _ hx)
  · exact h
theorem plain_stuff {r : List Nat} (h : plainRow r) : plainRow (stuff r) := by
  unfold stuff
  split
  · intro c hc
    rcases List.mem_cons.mp hc with rfl | hc
    · omega
    · exact h c hc
  · exact h
theorem pieces_plain (ms : List (List Nat)) : ∀ p ∈ pieces ms, plainRow p := by
  intro p hp
  obtain ⟨l, _, hp⟩ := List.mem_flatMap.mp hp
  rcases List.mem_append.mp hp with hp | hp
  · obtain ⟨r, hr, rfl⟩ := List.mem_map.mp hp
    exact plain_stuff (plain_trim (rows_plain l none [] [] (fun x hx => (nomatch hx)) (fun d hd => (nomatch hd))) r hr)
  · rw [List.mem_singleton.mp hp]
    intro c hc
    rw [List.mem_singleton.mp hc]; omega
def sizeN (ms : List (List Nat)) : Nat := (ms.map fun l => 3 + ((rowsN l).map fun r => r.length + 2 + (if r.head? = some 46 then 1 else 0)).sum).sum
theorem size_all (ms : List (List Nat)) : (streamN ms).length = sizeN ms := by
  induction ms with
  | nil => rfl
  | cons m ms ih =>
    unfold streamN sizeN at ih ⊢
    rw [List.flatMap_cons, List.length_append, ih, quote_wire, List.map_cons, List.sum_cons, List.length_append]
    have : (wire (rowsN m)).length = ((rowsN m).map fun r => r.length + 2 + (if r.head? = some 46 then 1 else 0)).sum := by
      unfold wire
      generalize rowsN m = rs
      induction rs with
      | nil => rfl
      | cons r rs ih2 =>
        rw [List.flatMap_cons, List.length_append, ih2, List.map_cons, List.sum_cons]
        unfold stuff
        split <;> simp <;> omega
    rw [this]
    simp
    omega

/-! the split at CRLF -/
open PySem.StrLaws in
theorem split_parts (x : Str) : ∀ (ps : List (List Nat)) (cuts : List Nat) (a f : Nat), (∀ p ∈ ps, plainRow p) → a ≤ x.length → x.cps.toList.drop a = (ps.flatMap fun p => p ++ [13, 10]) →
    ChainG x ⟨#[13, 10]⟩ x.length a cuts f → (∀ k, f ≤ k → ¬ At x ⟨#[13, 10]⟩ x.length k) → partsFrom x 2 a cuts = (ps.map fun p => (⟨p.toArray⟩ : Str)) ++ [⟨#[]⟩] := by
  have hAt : ∀ k, At x ⟨#[13, 10]⟩ x.length k ↔ (x.cps.toList.drop k).take 2 = [13, 10] := by
    intro k
    constructor
    · intro h
      have := h.2
      rw [subAt_eq] at this
      exact eq_of_beq this
    · intro h
      refine ⟨?_, ?_⟩
      · show k + 2 ≤ x.length
        have := congrArg List.length h
        simp [Str.length] at this ⊢
        omega
      · rw [subAt_eq]
        exact beq_iff_eq.mpr h
  intro ps
  induction ps with
  | nil =>
    intro cuts a f hp ha hx hc hn
    cases cuts with
    | nil =>
      show [Builtin.Str.strSub x a x.length] = [⟨#[]⟩]
      congr 1
      apply Str.ext'
      apply Array.toList_inj.mp
      rw [strSub_toList, hx]
      simp
    | cons c r =>
      exfalso
      have h1 := (hAt c).mp hc.2.1
      have : x.cps.toList.drop c = (x.cps.toList.drop a).drop (c - a) := by rw [List.drop_drop]; congr 1; have := hc.1; omega
      rw [this, hx] at h1
      simp at h1
  | cons p ps ih =>
    intro cuts a f hp ha hx hc hn
    rw [List.flatMap_cons, List.append_assoc] at hx
    have hpl := hp p (.head _)
    -- the first place is right behind p
    have hat : At x ⟨#[13, 10]⟩ x.length (a + p.length) := by
      rw [hAt]
      have : x.cps.toList.drop (a + p.length) = (x.cps.toList.drop a).drop p.length := by rw [List.drop_drop]
      rw [this, hx]
      simp
    have hno : ∀ k, a ≤ k → k < a + p.length → ¬ At x ⟨#[13, 10]⟩ x.length k := by
      intro k h1 h2 h3
      rw [hAt] at h3
      have e : x.cps.toList.drop k = (x.cps.toList.drop a).drop (k - a) := by rw [List.drop_drop]; congr 1; omega
      rw [e, hx, List.drop_append_of_le_length (by omega)] at h3
      have hlt : k - a < p.length := by omega
      rw [List.drop_eq_getElem_cons hlt] at h3
      simp only [List.cons_append, List.take_succ_cons] at h3
      injection h3 with h4 _
      exact (hpl _ (List.getElem_mem hlt)).2 h4
    cases cuts with
    | nil =>
      exfalso
      have : f = a := hc
      exact hn (a + p.length) (by omega) hat
    | cons c r =>
      obtain ⟨g1, g2, g3, g4⟩ := hc
      have hcp : c = a + p.length := by
        rcases Nat.lt_trichotomy c (a + p.length) with q | q | q
        · exact absurd g2 (hno c g1 q)
        · exact q
        · exact absurd hat (g3 _ (by omega) q)
      subst hcp
      have hlen : a + p.length + 2 ≤ x.length := hat.1
      show Builtin.Str.strSub x a (a + p.length) :: partsFrom x 2 (a + p.length + 2) r = _
      rw [ih r (a + p.length + 2) f (fun q hq => hp q (.tail _ hq)) hlen ?_ g4 hn]
      · rw [List.map_cons, List.cons_append]
        congr 1
        apply Str.ext'
        apply Array.toList_inj.mp
        rw [strSub_toList, hx]
        simp
      · have e : x.cps.toList.drop (a + p.length + 2) = (x.cps.toList.drop a).drop (p.length + 2) := by rw [List.drop_drop]; try (congr 1)
        rw [e, hx]
        rw [List.drop_append, List.drop_eq_nil_of_le (by omega)]
        simp
open PySem.StrLaws in
theorem split_stream (x : Str) (ps : List (List Nat)) (hp : ∀ p ∈ ps, plainRow p) (hne : ps ≠ []) (hx : x.cps.toList = (ps.flatMap fun p => p ++ [13, 10])) :
    Txt.split x ⟨#[13, 10]⟩ = (ps.map fun p => (⟨p.toArray⟩ : Str)) ++ [⟨#[]⟩] := by
  obtain ⟨f, hc, hn⟩ := occ_tight x ⟨#[13, 10]⟩ (by decide)
  have key := split_parts x ps _ 0 f hp (Nat.zero_le _) (by rw [List.drop_zero]; exact hx) hc hn
  have hl : 2 ≤ x.length := by
    obtain ⟨p, r, rfl⟩ := List.exists_cons_of_ne_nil hne
    have := congrArg List.length hx
    simp [Str.length] at this ⊢
    omega
  unfold Txt.split
  rw [if_neg, if_neg]
  · rw [partsBetween_eq]; exact key
  · intro h
    have : Builtin.Str.occurrences x ⟨#[13, 10]⟩ 0 x.length (x.length + 1) = [] := by simpa using h
    rw [this] at key
    have := congrArg List.length key
    simp [partsFrom] at this
    exact hne this
  · have hk : Builtin.Str.strKind ⟨#[13, 10]⟩ = 1 := by decide +kernel
    have hk2 : 1 ≤ Builtin.Str.strKind x := by
      unfold Builtin.Str.strKind
      split
      · decide
      · split <;> decide
    intro h
    rcases Bool.or_eq_true_iff.mp h with h | h
    · have := of_decide_eq_true h
      have h2 : (⟨#[13, 10]⟩ : Str).length = 2 := rfl
      omega
    · have := of_decide_eq_true h
      omega
end Mine

end

/-! L02 -/
section
open PySem PySem.W PySem.Calls PyProof.Rows
namespace Mine
/-! a ledger's list of texts: its last item read, stored, taken off -/
def lastS (ws : List Str) : Str := ws.getLastD ⟨#[]⟩
theorem strs_last {vs : List Value} {ws : List Str} (h : StrsAre vs ws) (h1 : 1 ≤ ws.length) : ∃ t, vs = vs.dropLast ++ [.str (lastS ws) t] ∧ StrsAre vs.dropLast ws.dropLast := by
  rcases PyProof.Rows.strs_nil_or_snoc h with ⟨_, rfl⟩ | ⟨vi, yi, y, t, rfl, rfl, hi⟩
  · simp at h1
  · refine ⟨t, ?_, ?_⟩
    · simp [lastS]
    · simpa using hi
section
variable {prog : Program} {w : World} {A : Around} {E : Value → Shared → Prop} {s : Shared} {h₀ : Heap} {L D : Addr} {m : Str → Option Value} {news news' : List (Addr × Obj)} {n : Nat} {vs : List Value} {ws : List Str} {u : Tok}
theorem get_last {Q : Value → Shared → Prop} (N : News h₀ L s.heap news) (hm : (D, PySem.W.listOf vs.toArray n) ∈ news) (hi : StrsAre vs ws) (h1 : 1 ≤ ws.length) (h : ∀ t, Q (.str (lastS ws) t) s) :
    wpAny (model prog w) A (getItem (.ref D) (.int (-1) u)) Q E s := by
  obtain ⟨t, e, _⟩ := strs_last hi h1
  have hl : s.heap.IsList D vs.toArray := ⟨_, (N _ hm).1, rfl, n, rfl⟩
  have hlen := hi.length
  refine wpAny_getItem_list_neg hl (by decide) (by rw [List.size_toArray]; omega) (by decide) ?_ (h t)
  have e2 : ((-1 : Int) + (vs.toArray.size : Int)).toNat = vs.dropLast.length := by simp; omega
  rw [e2]
  have : vs.toArray[vs.dropLast.length]? = vs[vs.dropLast.length]? := by simp
  rw [this]
  conv => lhs; arg 1; rw [e]
  simp
theorem sub_last {value slice : PySem.Expr} {Q : Value → Shared → Prop} (N : News h₀ L s.heap news) (hm : (D, PySem.W.listOf vs.toArray n) ∈ news) (hi : StrsAre vs ws) (h1 : 1 ≤ ws.length) (h : ∀ t, Q (.str (lastS ws) t) s)
    (hs : subscripted slice false (.ref D) (.int (-1) u) = operate [.ref D, .int (-1) u] (getItem (.ref D) (.int (-1) u)) := by with_unfolding_all rfl) (hg : ∀ r, letTemporaryGo value (.ref D) r = pure () := by intro _; with_unfolding_all rfl) :
    wpAny (model prog w) A (subscriptTail value slice (.ref D) (.int (-1) u)) Q E s := by
  have hl : s.heap.IsList D vs.toArray := ⟨_, (N _ hm).1, rfl, n, rfl⟩
  exact subscriptTail_builtin hl.typeIs slot_list_getitem.lookup (get_last N hm hi h1 h) hs hg
theorem set_last {x : Str} {t : Tok} {Q : Unit → Shared → Prop} (F : Fr h₀ L s.heap m) (N : News h₀ L s.heap news) (hi : StrsAre vs ws) (h1 : 1 ≤ ws.length)
    (U : Upd D (PySem.W.listOf vs.toArray n) (PySem.W.listOf (vs.dropLast ++ [Value.str x t]).toArray n) news news')
    (h : ∀ h', Fr h₀ L h' m → News h₀ L h' news' → StrsAre (vs.dropLast ++ [Value.str x t]) (ws.dropLast ++ [x]) → Q () { s with heap := h' }) :
    wpAny (model prog w) A (setItem (.ref D) (.int (-1) u) (.str x t)) Q E s := by
  obtain ⟨t', e, hi'⟩ := strs_last hi h1
  obtain ⟨pre, post, rfl, rfl, a, b⟩ := U.split
  have z := N (D, PySem.W.listOf vs.toArray n) (List.mem_append.mpr (.inr (.head _)))
  have hlen := hi.length
  refine ki_setBack z.1 (by decide) (by rw [List.size_toArray]; omega) (by decide) (h _ (F.change (Heap.SameBut.update ..) z.2.1 z.2.2) (ki_turn _ N a b ?_ ?_) (hi'.append' (.cons _ _ .nil)))
  · have e2 : ((-1 : Int) + (vs.toArray.size : Int)).toNat = vs.dropLast.length := by simp; omega
    rw [e2]
    apply Array.toList_inj.mp
    have e3 : vs.toArray.setIfInBounds vs.dropLast.length (Value.str x t) = (vs.set vs.dropLast.length (Value.str x t)).toArray := by simp
    rw [e3]
    show vs.set vs.dropLast.length (.str x t) = vs.dropLast ++ [Value.str x t]
    conv => lhs; arg 1; rw [e]
    simp
  · have : (vs.dropLast ++ [Value.str x t]).toArray.size = vs.toArray.size := by simp; omega
    rw [this]; simp
theorem pop_last {Q : Value → Shared → Prop} (F : Fr h₀ L s.heap m) (N : News h₀ L s.heap news) (hi : StrsAre vs ws) (h1 : 1 ≤ ws.length) (hz : ws.length ≤ sizeLine)
    (U : Upd D (PySem.W.listOf vs.toArray n) (PySem.W.listOf vs.dropLast.toArray (n + 1)) news news')
    (h : ∀ h' t, Fr h₀ L h' m → News h₀ L h' news' → StrsAre vs.dropLast ws.dropLast → Q (.str (lastS ws) t) { s with heap := h' }) :
    wpAny (model prog w) A (call (.builtin "list.pop") [.ref D]) Q E s := by
  obtain ⟨t', e, hi'⟩ := strs_last hi h1
  have hlen := hi.length
  refine kl_pop F N (p := vs.dropLast) (y := .str (lastS ws) t') ?_ U (by simpa using (hlen ▸ hz)) fun h' F' N' => h h' t' F' N' hi'
  have e' := kpa_last (.str (lastS ws) t') vs.dropLast
  rw [← e] at e'
  simpa using e'
end
end Mine

end

/-! G02 -/
section
open PySem PySem.W PySem.Calls PyProof.Rows
namespace Mine
/-! a loop over a ledger's list, whose ledger may grow from turn to turn -/
section
variable {prog : Program} {w : World} {A : Around} {E : Value → Shared → Prop} {s : Shared} {env : Env} {h₀ : Heap} {x : Str} {body : List Stmt} {Q : Flow → Shared → Prop}
def EndG (h₀ : Heap) (L : Addr) (J : (Str → Option Value) → List (Addr × Obj) → Prop) (I : Addr) (oI : Obj) (s₁ s₂ : Shared) : Prop :=
  ∃ h' tk m' nx, s₂ = { s₁ with heap := h', toks := tk } ∧ Fr h₀ L h' m' ∧ News h₀ L h' nx ∧ News h₀ L h' [(I, oI)] ∧ (∀ p ∈ nx, p.1 ≠ I) ∧ J m' nx
def PostG (h₀ : Heap) (L : Addr) (J : (Str → Option Value) → List (Addr × Obj) → Prop) (I : Addr) (oI : Obj) (s₁ : Shared) (Q : Flow → Shared → Prop) (f : Flow) (s₂ : Shared) : Prop :=
  match f with
  | .ret v => Q (.ret v) s₂
  | .brk => Q .next s₂
  | _ => EndG h₀ L J I oI s₁ s₂
theorem iter_grow {l : Addr} {vs : List Value} {nn : Nat} {m₀ : Str → Option Value} {news : List (Addr × Obj)} (J : Nat → (Str → Option Value) → List (Addr × Obj) → Prop)
    (hh : A.handled = none) (hl : (l, PySem.W.listOf vs.toArray nn) ∈ news) (F : Fr h₀ env.locals s.heap m₀) (N : News h₀ env.locals s.heap news) (hj : J 0 m₀ news)
    (hJl : ∀ i m nx, J i m nx → (l, PySem.W.listOf vs.toArray nn) ∈ nx)
    (turn : ∀ i v m₁ news₁ h tk I oI, vs[i]? = some v → J i m₁ news₁ → (∀ p ∈ news₁, p.1 ≠ I) → Fr h₀ env.locals h (fun y => if y = x then some v else m₁ y) → News h₀ env.locals h (news₁ ++ [(I, oI)]) →
      wpAny (model prog w) A (execs body env) (PostG h₀ env.locals (J (i + 1)) I oI { s with heap := h, toks := tk } Q) E { s with heap := h, toks := tk })
    (done : ∀ m₁ news₁ h tk, J vs.length m₁ news₁ → Fr h₀ env.locals h m₁ → News h₀ env.locals h news₁ → Q .next { s with heap := h, toks := tk }) :
    wpAny (model prog w) A (pyIter (.ref l)) (fun it s₂ => LoopAtV prog w A h₀ env x body Q E it s₂) E s := by
  have hol : s.heap.get? l = some (PySem.W.listOf vs.toArray nn) := (N _ hl).1
  have hls : s.heap.IsList l vs.toArray := ⟨_, hol, rfl, nn, rfl⟩
  have hne : l ≠ s.heap.objs.size := Nat.ne_of_lt (Heap.lt_size hol)
  refine wpAny_pyIter_list hls ?_
  have W := Walks.list (prog := prog) (w := w) hh s.heap.objs.size l hne vs.toArray
  rw [List.size_toArray] at W
  refine ⟨_, _, _, vs.length, _, _, m₀, news, (fun i m nx => J i m nx), rfl, W, ?_, ?_, ?_, ⟨⟨_, Heap.get?_push_size _ rfl, rfl, rfl⟩, hls.at fun o e => Heap.get?_push_of_some _ e⟩, F.push _, (fun p hp => ⟨Heap.get?_push_of_some _ (N p hp).1, (N p hp).2⟩), hj, ?_, ?_⟩
  · intro hm
    rcases List.mem_cons.mp hm with e | hm
    · exact absurd F.ns.lt (e ▸ Nat.lt_irrefl _)
    · exact (N _ hl).2.1 ((List.mem_singleton.mp hm).symm)
  · intro b hb
    rw [List.mem_singleton.mp hb]
    exact next_is_new F
  · intro p hp hI
    exact absurd (Heap.lt_size (N p hp).1) ((List.mem_singleton.mp hI) ▸ Nat.lt_irrefl _)
  · rintro i v m₁ news₁ s₁ own ⟨hh', tk', rfl⟩ hin hP hJ hoff hown hget hfp hSt F₁ N₁
    obtain ⟨⟨oI, hoI, _⟩, _⟩ := hSt
    have hIm : (s.heap.objs.size, oI) ∈ own := hfp _ (.head _) (next_is_new F) oI hoI
    have hoff' : ∀ p ∈ news₁, p.1 ≠ s.heap.objs.size := fun p hp e => hoff p hp (e ▸ .head _)
    have N₂ : News h₀ env.locals hh' (news₁ ++ [(s.heap.objs.size, oI)]) := fun p hp => by
      rcases List.mem_append.mp hp with h | h
      · exact N₁ p (List.mem_append.mpr (.inr h))
      · rw [List.mem_singleton.mp h]; exact N₁ _ (List.mem_append.mpr (.inl hIm))
    have hP' : vs[i]? = some v := by simpa using hP
    have hlo : hh'.get? l = some (PySem.W.listOf vs.toArray nn) := (N₁ _ (List.mem_append.mpr (.inr (hJl _ _ _ hJ)))).1
    refine wpAny_mono (turn i v m₁ news₁ hh' tk' _ oI hP' hJ hoff' F₁ N₂) (fun f s₂ p => ?_) fun _ _ e => e
    have fin : EndG h₀ env.locals (J (i + 1)) s.heap.objs.size oI { s with heap := hh', toks := tk' } s₂ → LoopStepU h₀ env.locals [s.heap.objs.size] own (J (i + 1)) { s with heap := hh', toks := tk' } .next s₂ := by
      rintro ⟨h', tk, m', nx, e, F', N', NI, hI, hm⟩
      refine ⟨rfl, h', tk, m', nx, e, F', fun p hp => ?_, fun p hp hq => hI p hp (List.mem_singleton.mp hq), hm⟩
      rcases List.mem_append.mp hp with h | h
      · rcases List.mem_cons.mp (hown p h) with h2 | h2
        · have h3 := hget p h
          change hh'.get? p.1 = some p.2 at h3
          rw [h2] at h3
          have h4 : oI = p.2 := Option.some.inj (hoI.symm.trans h3)
          have h5 : p = (s.heap.objs.size, oI) := Prod.ext h2 h4.symm
          rw [h5]
          exact NI _ (.head _)
        · have h2 := List.mem_singleton.mp h2
          have h3 := hget p h
          change hh'.get? p.1 = some p.2 at h3
          rw [h2, hlo] at h3
          have h5 : p = (l, PySem.W.listOf vs.toArray nn) := Prod.ext h2 (Option.some.inj h3).symm
          rw [h5]
          exact N' _ (hJl _ _ _ hm)
      · exact N' p h
    cases f with
    | ret v => exact .ret p
    | brk => exact .brk p
    | next => exact .next (fin p)
    | cont => exact .cont (fin p)
  · rintro h' tk m' news' F' N' _ hJ
    exact done m' news' h' tk hJ F' N'
end
end Mine

end

/-! R02 -/
section
open PySem PySem.W PySem.Calls PyProof.Rows
namespace Mine
/-! the growing loop, with named entries (Led), named letters (ps) and a heap of finished things (T) -/
section
variable {prog : Program} {w : World} {A : Around} {E : Value → Shared → Prop} {s : Shared} {env : Env} {h₀ : Heap} {x : Str} {body : List Stmt} {Q : Flow → Shared → Prop}
structure InOwn (T : List (Addr × Obj)) (I : Addr) (oI : Obj) (own : List (Addr × Obj)) : Prop where
  sub : ∀ p ∈ T, p ∈ own
  off : ∀ p ∈ T, p.1 ≠ I
  one : (I, oI) ∈ own
structure RD (σ : Type) where
  Led : σ → List (Addr × Obj)
  ps : σ → List (Str × Value)
  stored : List Str
  m₀ : Str → Option Value
def InvEndN {σ : Type} (h₀ : Heap) (L : Addr) (R : RD σ) (x : Str) (P : σ → List (Addr × Obj) → Prop) (T : List (Addr × Obj)) (I : Addr) (own : List (Addr × Obj)) (s₁ s₂ : Shared) : Prop :=
  ∃ h' tk m' news' c' T', s₂ = { s₁ with heap := h', toks := tk } ∧ Fr h₀ L h' m' ∧ News h₀ L h' news' ∧ (∀ p ∈ R.Led c', p ∈ news') ∧ (∀ p ∈ own, p ∈ news') ∧ (∀ p ∈ T', p ∈ news') ∧
    (∀ p ∈ R.Led c', p.1 ≠ I) ∧ (∀ p ∈ T', p.1 ≠ I) ∧ OwnOff T' ((R.Led c').map (·.1)) ∧
    (∀ p ∈ R.ps c', m' p.1 = some p.2) ∧ (∀ z, z ≠ x → (∀ p ∈ R.ps c', z ≠ p.1) → R.stored.contains z = false → m' z = R.m₀ z) ∧ P c' T'
def InvPostN {σ : Type} (h₀ : Heap) (L : Addr) (R : RD σ) (x : Str) (P : σ → List (Addr × Obj) → Prop) (T : List (Addr × Obj)) (I : Addr) (own : List (Addr × Obj)) (s₁ : Shared) (Q : Flow → Shared → Prop) (f : Flow) (s₂ : Shared) : Prop :=
  match f with
  | .ret v => Q (.ret v) s₂
  | .brk => Q .next s₂
  | _ => Mine.InvEndN h₀ L R x P T I own s₁ s₂
theorem iter_R {σ : Type} {l : Addr} {vs : List Value} {nn : Nat} (R : RD σ) (P : Nat → σ → List (Addr × Obj) → Prop) (c₀ : σ)
    (hh : A.handled = none) (hl : ∀ c, (l, PySem.W.listOf vs.toArray nn) ∈ R.Led c) (F : Fr h₀ env.locals s.heap R.m₀) (N : News h₀ env.locals s.heap (R.Led c₀)) (hk : ∀ p ∈ R.ps c₀, R.m₀ p.1 = some p.2) (hp : P 0 c₀ [])
    (turn : ∀ i v c T (u : Str → Option Value) h tk I oI own, vs[i]? = some v → P i c T → OwnOff own ((R.Led c).map (·.1)) → InOwn T I oI own →
      Fr h₀ env.locals h (fun y => if y = x then some v else kstB (fun z => if R.stored.contains z then u z else R.m₀ z) (R.ps c) y) → News h₀ env.locals h (R.Led c ++ own) →
      wpAny (model prog w) A (execs body env) (Mine.InvPostN h₀ env.locals R x (P (i + 1)) T I own { s with heap := h, toks := tk } Q) E { s with heap := h, toks := tk })
    (done : ∀ c T (u : Str → Option Value) h tk, P vs.length c T → OwnOff T ((R.Led c).map (·.1)) → Fr h₀ env.locals h (fun y => if y = x then u y else kstB (fun z => if R.stored.contains z then u z else R.m₀ z) (R.ps c) y) → News h₀ env.locals h (R.Led c ++ T) → Q .next { s with heap := h, toks := tk }) :
    wpAny (model prog w) A (pyIter (.ref l)) (fun it s₂ => LoopAtV prog w A h₀ env x body Q E it s₂) E s := by
  refine iter_grow (l := l) (vs := vs) (nn := nn) (fun i m nx => ∃ c T, nx = R.Led c ++ T ∧ OwnOff T ((R.Led c).map (·.1)) ∧ (∀ p ∈ R.ps c, m p.1 = some p.2) ∧ (∀ z, z ≠ x → (∀ p ∈ R.ps c, z ≠ p.1) → R.stored.contains z = false → m z = R.m₀ z) ∧ P i c T) hh (hl c₀) F N ⟨c₀, [], by simp, fun _ h => (nomatch h), hk, fun _ _ _ _ => rfl, hp⟩ ?_ ?_ ?_
  · rintro i m nx ⟨c, T, rfl, _⟩
    exact List.mem_append.mpr (.inl (hl c))
  · rintro i v m₁ news₁ h tk I oI hv ⟨c, T, rfl, hoff, h1, h2, hP⟩ hI F₁ N₁
    have hoff' : OwnOff (T ++ [(I, oI)]) ((R.Led c).map (·.1)) := by
      intro p hp b hb
      rcases List.mem_append.mp hp with h | h
      · exact hoff p h b hb
      · rw [List.mem_singleton.mp h]
        obtain ⟨q, hq, rfl⟩ := List.mem_map.mp hb
        exact fun e => hI q (List.mem_append.mpr (.inl hq)) e.symm
    have hin : InOwn T I oI (T ++ [(I, oI)]) := ⟨fun p hp => List.mem_append.mpr (.inl hp), fun p hp => hI p (List.mem_append.mpr (.inr hp)), List.mem_append.mpr (.inr (.head _))⟩
    refine wpAny_mono (turn i v c T m₁ h tk I oI _ hv hP hoff' hin (kst_fr h1 h2 F₁) (by rw [← List.append_assoc]; exact N₁)) (fun f s₂ p => ?_) fun _ _ e => e
    have fin : Mine.InvEndN h₀ env.locals R x (P (i + 1)) T I (T ++ [(I, oI)]) { s with heap := h, toks := tk } s₂ → EndG h₀ env.locals (fun m nx => ∃ c T, nx = R.Led c ++ T ∧ OwnOff T ((R.Led c).map (·.1)) ∧ (∀ p ∈ R.ps c, m p.1 = some p.2) ∧ (∀ z, z ≠ x → (∀ p ∈ R.ps c, z ≠ p.1) → R.stored.contains z = false → m z = R.m₀ z) ∧ P (i + 1) c T) I oI { s with heap := h, toks := tk } s₂ := by
      rintro ⟨h', tk', m', news', c', T', e, F', N', a1, a2, a3, b1, b2, b3, k1, k2, hP'⟩
      refine ⟨h', tk', m', R.Led c' ++ T', e, F', fun p hp => ?_, fun p hp => ?_, fun p hp => ?_, c', T', rfl, b3, k1, k2, hP'⟩
      · exact N' p ((List.mem_append.mp hp).elim (a1 p) (a3 p))
      · rw [List.mem_singleton.mp hp]
        exact N' _ (a2 _ (List.mem_append.mpr (.inr (.head _))))
      · exact (List.mem_append.mp hp).elim (b1 p) (b2 p)
    cases f with
    | ret v => exact p
    | brk => exact p
    | next => exact fin p
    | cont => exact fin p
  · rintro m₁ news₁ h tk ⟨c, T, rfl, hoff, h1, h2, hP⟩ F₁ N₁
    exact done c T m₁ h tk hP hoff (kst_frOut h1 h2 F₁) N₁
/-- a turn that makes nothing that stays -/
theorem endR_same {σ : Type} {L : Addr} {R : RD σ} {P : σ → List (Addr × Obj) → Prop} {T own news' : List (Addr × Obj)} {I : Addr} {oI : Obj} {m' : Str → Option Value} {s₁ : Shared} {h' : Heap} {tk : Nat} (c' : σ)
    (F : Fr h₀ L h' m') (N : News h₀ L h' news') (hin : InOwn T I oI own) (a1 : ∀ p ∈ R.Led c', p ∈ news') (a2 : ∀ p ∈ own, p ∈ news') (b : OwnOff own ((R.Led c').map (·.1)))
    (k1 : ∀ p ∈ R.ps c', m' p.1 = some p.2) (k2 : ∀ z, z ≠ x → (∀ p ∈ R.ps c', z ≠ p.1) → R.stored.contains z = false → m' z = R.m₀ z) (hP : P c' T) :
    Mine.InvEndN h₀ L R x P T I own s₁ { s₁ with heap := h', toks := tk } :=
  ⟨h', tk, m', news', c', T, rfl, F, N, a1, a2, fun p hp => a2 p (hin.sub p hp), fun p hp e => b _ hin.one p.1 (List.mem_map.mpr ⟨p, hp, rfl⟩) e.symm, hin.off, fun p hp b' hb => b p (hin.sub p hp) b' hb, k1, k2, hP⟩
/-- a turn that makes one thing more -/
theorem endR_one {σ : Type} {L : Addr} {R : RD σ} {P : σ → List (Addr × Obj) → Prop} {T own news' : List (Addr × Obj)} {I : Addr} {oI : Obj} {m' : Str → Option Value} {s₁ : Shared} {h' : Heap} {tk : Nat} (c' : σ) (D : Addr) (o : Obj)
    (F : Fr h₀ L h' m') (N : News h₀ L h' news') (hin : InOwn T I oI own) (a1 : ∀ p ∈ R.Led c', p ∈ news') (a2 : ∀ p ∈ own, p ∈ news') (a3 : (D, o) ∈ news') (b : OwnOff own ((R.Led c').map (·.1))) (d1 : ∀ p ∈ own, p.1 ≠ D) (d2 : ∀ b ∈ (R.Led c').map (·.1), D ≠ b)
    (k1 : ∀ p ∈ R.ps c', m' p.1 = some p.2) (k2 : ∀ z, z ≠ x → (∀ p ∈ R.ps c', z ≠ p.1) → R.stored.contains z = false → m' z = R.m₀ z) (hP : P c' ((D, o) :: T)) :
    Mine.InvEndN h₀ L R x P T I own s₁ { s₁ with heap := h', toks := tk } := by
  refine ⟨h', tk, m', news', c', (D, o) :: T, rfl, F, N, a1, a2, ?_, fun p hp e => b _ hin.one p.1 (List.mem_map.mpr ⟨p, hp, rfl⟩) e.symm, ?_, ?_, k1, k2, hP⟩
  · intro p hp
    rcases List.mem_cons.mp hp with rfl | hp
    · exact a3
    · exact a2 p (hin.sub p hp)
  · intro p hp
    rcases List.mem_cons.mp hp with rfl | hp
    · exact fun e => d1 _ hin.one e.symm
    · exact hin.off p hp
  · intro p hp b' hb
    rcases List.mem_cons.mp hp with rfl | hp
    · exact d2 b' hb
    · exact b p (hin.sub p hp) b' hb
end
end Mine

end

/-! T02 -/
section
open PySem PySem.W PySem.Calls PyProof.Rows
namespace Mine
/-! the loops of 02: what holds of them -/
def cp (x : Str) : List Nat := x.cps.toList
theorem cp_append (x y : Str) : cp (x ++ y) = cp x ++ cp y := by
  show (x.cps ++ y.cps).toList = _
  simp [cp]
theorem cp_length (x : Str) : (cp x).length = x.length := by simp [cp, Str.length]
/-- the messages: each of at most two signs a number -/
def okS (x : Str) : Prop := PyData.strOk x = true
theorem okS_append {x y : Str} (hx : okS x) (hy : okS y) : okS (x ++ y) := by
  unfold okS PyData.strOk at *
  rw [Str.cps_append, Array.all_append, hx, hy]; rfl
def Msgs (k : Nat) (ms : List Str) : Prop := ∀ x ∈ ms, x.length ≤ 2 * k ∧ okS x
theorem msgs_start : ([Str.ofString ""].length ≤ 4 ∧ 1 ≤ [Str.ofString ""].length ∧ Msgs ([] : List Int).length [Str.ofString ""]) := by
  refine ⟨by decide, by decide, ?_⟩
  intro x hx
  rw [List.mem_singleton.mp hx]
  exact ⟨by decide +kernel, by unfold okS; decide +kernel⟩
theorem msgs_more {pre : List Int} {n : Int} {ms : List Str} (h4 : ms.length < 4) (h : Msgs pre.length ms) :
    ((ms ++ [Str.ofString ""]).length ≤ 4 ∧ 1 ≤ (ms ++ [Str.ofString ""]).length ∧ Msgs (pre ++ [n]).length (ms ++ [Str.ofString ""])) := by
  refine ⟨by simp; omega, by simp, ?_⟩
  intro x hx
  rcases List.mem_append.mp hx with hx | hx
  · have := h x hx
    exact ⟨by simp; omega, this.2⟩
  · rw [List.mem_singleton.mp hx]
    have : (Str.ofString "").length = 0 := by decide +kernel
    exact ⟨by omega, by unfold okS; decide +kernel⟩
theorem lastS_mem {ms : List Str} (h1 : 1 ≤ ms.length) : lastS ms ∈ ms := by
  unfold lastS
  cases ms with
  | nil => simp at h1
  | cons a r => simp only [List.getLastD_cons]; exact List.getLastD_mem_cons
theorem msgs_grow {pre : List Int} {n : Int} {ms : List Str} {y : Str} (h4 : ms.length ≤ 4) (h1 : 1 ≤ ms.length) (h : Msgs pre.length ms) (hy : y.length ≤ 2) (hy2 : okS y) :
    ((ms.dropLast ++ [lastS ms ++ y]).length ≤ 4 ∧ 1 ≤ (ms.dropLast ++ [lastS ms ++ y]).length ∧ Msgs (pre ++ [n]).length (ms.dropLast ++ [lastS ms ++ y])) := by
  refine ⟨by simp; omega, by simp, ?_⟩
  intro x hx
  rcases List.mem_append.mp hx with hx | hx
  · have := h x (List.dropLast_subset _ hx)
    exact ⟨by simp; omega, this.2⟩
  · rw [List.mem_singleton.mp hx]
    have := h _ (lastS_mem h1)
    refine ⟨?_, okS_append this.2 hy2⟩
    rw [Str.length_append]
    simp; omega
theorem msgs_last {k : Nat} {ms : List Str} (h1 : 1 ≤ ms.length) (h : Msgs k ms) : (lastS ms).length ≤ 2 * k := (h _ (lastS_mem h1)).1

/-! tables of rows -/
inductive Tab : List Value → List (List Str) → List (Addr × Obj) → Prop
  | nil : Tab [] [] []
  | snoc {ds R T} (D : Addr) (us : List Value) (ws : List Str) (n : Nat) : Tab ds R T → StrsAre us ws → Tab (ds ++ [.ref D]) (R ++ [ws]) ((D, PySem.W.listOf us.toArray n) :: T)
def nat (ws : List Str) : List (List Nat) := ws.map cp
/-- what the sending loop keeps -/
def Sent (ws : List Str) (i : Nat) (st : Str) (sz : Int) (ds : List Value) (T : List (Addr × Obj)) : Prop :=
  cp st = streamN (nat (ws.take i)) ∧ sz = (sizeN (nat (ws.take i)) : Int) ∧ ∃ R, Tab ds R T ∧ R.map nat = (nat (ws.take i)).map rowsN
structure SentC where
  st : Str
  t1 : Tok
  sz : Int
  t2 : Tok
  ds : List Value
  cn : Nat
section
variable {prog : Program} {w : World} {A : Around} {E : Value → Shared → Prop} {s : Shared} {env : Env} {h₀ : Heap} {body : List Stmt} {Q : Flow → Shared → Prop}
def sentRD (due msgs : Addr) (vs : List Value) (nn : Nat) (rest : List (Addr × Obj)) (m₀ : Str → Option Value) : RD SentC :=
  { Led := fun c => (due, PySem.W.listOf c.ds.toArray c.cn) :: (msgs, PySem.W.listOf vs.toArray nn) :: rest
    ps := fun c => [(Str.ofString "stream", .str c.st c.t1), (Str.ofString "size", .int c.sz c.t2)]
    stored := [Str.ofString "quoted", Str.ofString "ended", Str.ofString "rows", Str.ofString "row"]
    m₀ := m₀ }
def sentP (ws : List Str) (i : Nat) (c : SentC) (T : List (Addr × Obj)) : Prop := c.ds.length = i ∧ c.st.length ≤ 400 * i ∧ Sent ws i c.st c.sz c.ds T
theorem sent_start {ws : List Str} : Sent ws 0 (Str.ofString "") 0 [] [] := ⟨by show cp (Str.ofString "") = []; decide +kernel, rfl, [], .nil, rfl⟩
theorem iter_B {due msgs : Addr} {vs : List Value} {nn k : Nat} {ws : List Str} {rest : List (Addr × Obj)} {m₀ : Str → Option Value} {t1 t2 : Tok}
    (hh : A.handled = none) (hi : StrsAre vs ws) (h4 : ws.length ≤ 4) (hM : Msgs k ws) (hk : k ≤ 48) (F : Fr h₀ env.locals s.heap m₀)
    (N : News h₀ env.locals s.heap ((due, PySem.W.listOf #[] 0) :: (msgs, PySem.W.listOf vs.toArray nn) :: rest))
    (k1 : m₀ (Str.ofString "stream") = some (.str (Str.ofString "") t1)) (k2 : m₀ (Str.ofString "size") = some (.int 0 t2))
    (turn : ∀ i a t st t1 sz t2 ds cn T (u : Str → Option Value) h tk I oI own, KstMark → ws[i]? = some a → i < 4 → a.length ≤ 96 → ds.length = i → st.length ≤ 400 * i → Sent ws i st sz ds T →
      OwnOff own (due :: msgs :: rest.map (·.1)) → InOwn T I oI own →
      Fr h₀ env.locals h (fun y => if y = Str.ofString "message" then some (.str a t) else if y = Str.ofString "stream" then some (.str st t1) else if y = Str.ofString "size" then some (.int sz t2) else
        if [Str.ofString "quoted", Str.ofString "ended", Str.ofString "rows", Str.ofString "row"].contains y then u y else m₀ y) →
      News h₀ env.locals h ((due, PySem.W.listOf ds.toArray cn) :: (msgs, PySem.W.listOf vs.toArray nn) :: (rest ++ own)) →
      wpAny (model prog w) A (execs body env) (Mine.InvPostN h₀ env.locals (sentRD due msgs vs nn rest m₀) (Str.ofString "message") (sentP ws (i + 1)) T I own { s with heap := h, toks := tk } Q) E { s with heap := h, toks := tk })
    (done : ∀ st t1 sz t2 ds cn T (u : Str → Option Value) h tk, KstMark → ds.length = ws.length → st.length ≤ 1600 → Sent ws ws.length st sz ds T → OwnOff T (due :: msgs :: rest.map (·.1)) →
      Fr h₀ env.locals h (fun y => if y = Str.ofString "message" then u y else if y = Str.ofString "stream" then some (.str st t1) else if y = Str.ofString "size" then some (.int sz t2) else
        if [Str.ofString "quoted", Str.ofString "ended", Str.ofString "rows", Str.ofString "row"].contains y then u y else m₀ y) →
      News h₀ env.locals h ((due, PySem.W.listOf ds.toArray cn) :: (msgs, PySem.W.listOf vs.toArray nn) :: (rest ++ T)) → Q .next { s with heap := h, toks := tk }) :
    wpAny (model prog w) A (pyIter (.ref msgs)) (fun it s₂ => LoopAtV prog w A h₀ env (Str.ofString "message") body Q E it s₂) E s := by
  have hlen := hi.length
  refine iter_R (l := msgs) (vs := vs) (nn := nn) (sentRD due msgs vs nn rest m₀) (fun i c T => sentP ws i c T) ⟨Str.ofString "", t1, 0, t2, [], 0⟩ hh (fun c => .tail _ (.head _)) F N ?_ ⟨rfl, by show (Str.ofString "").length ≤ 0; decide +kernel, sent_start⟩ ?_ ?_
  · intro p hp
    rcases List.mem_cons.mp hp with rfl | hp
    · exact k1
    · rw [List.mem_singleton.mp hp]; exact k2
  · rintro i v ⟨st, u1, sz, u2, ds, cn⟩ T u h tk I oI own hv ⟨hd, hs, hS⟩ hoff hin F₁ N₁
    have hil : i < ws.length := by
      have := (List.getElem?_eq_some_iff.mp hv).1
      omega
    obtain ⟨a, t, ha, rfl⟩ : ∃ a t, ws[i]? = some a ∧ v = .str a t := by
      obtain ⟨t, ht⟩ := hi.get i ws[i] (by simp [hil])
      exact ⟨ws[i], t, by simp [hil], by rw [hv] at ht; exact Option.some.inj ht⟩
    have hal : a.length ≤ 96 := by
      have := (hM a (List.mem_of_getElem? ha)).1
      omega
    exact turn i a t st u1 sz u2 ds cn T u h tk I oI own kstMark ha (by omega) hal hd hs hS hoff hin F₁ N₁
  · rintro ⟨st, u1, sz, u2, ds, cn⟩ T u h tk ⟨hd, hs, hS⟩ hoff F₁ N₁
    change ds.length = vs.length at hd
    change st.length ≤ 400 * vs.length at hs
    rw [hlen] at hd hs
    have hS' : Sent ws ws.length st sz ds T := by rw [← hlen]; exact hS
    exact done st u1 sz u2 ds cn T u h tk kstMark hd (by omega) hS' hoff F₁ N₁
end
/-! texts put together -/
section
variable {prog : Program} {w : World} {A : Around} {E : Value → Shared → Prop} {s : Shared} {x y : Str} {t u : Tok} {K L : Nat}
theorem iadd2 {Q : Value → Shared → Prop} (hx : x.length ≤ K) (hy : y.length ≤ L) (hs : K + L ≤ 1000000) (h : ∀ t' k, (x ++ y).length ≤ K + L → Q (.str (x ++ y) t') { s with toks := k }) : wpAny (model prog w) A (inplaceOp .Add (.str x t) (.str y u)) Q E s :=
  SB.iadd (fun t' k => h t' k (by rw [Str.length_append]; omega)) (by show _ ≤ 2 ^ 24; omega)
end
theorem piece_len (i : Nat) : ([Str.ofString "z", Str.ofString ".", Str.ofString "\r", Str.ofString "\n", Str.ofString "\r\n", Str.ofString "a", Str.ofString "..", Str.ofString "\n.", Str.ofString ".\r", Str.ofString "b.", Str.ofString "\x0b", Str.ofString "\u2028."].getD i Str.empty).length ≤ 2 := by
  have h : ∀ x ∈ [Str.ofString "z", Str.ofString ".", Str.ofString "\r", Str.ofString "\n", Str.ofString "\r\n", Str.ofString "a", Str.ofString "..", Str.ofString "\n.", Str.ofString ".\r", Str.ofString "b.", Str.ofString "\x0b", Str.ofString "\u2028."], x.length ≤ 2 := by decide +kernel
  rw [List.getD_eq_getElem?_getD]
  cases e : (_ : List Str)[i]? with
  | none => exact Nat.zero_le _
  | some v => exact h v (List.mem_of_getElem? e)
theorem piece_ok (i : Nat) : okS ([Str.ofString "z", Str.ofString ".", Str.ofString "\r", Str.ofString "\n", Str.ofString "\r\n", Str.ofString "a", Str.ofString "..", Str.ofString "\n.", Str.ofString ".\r", Str.ofString "b.", Str.ofString "\x0b", Str.ofString "\u2028."].getD i Str.empty) := by
  have h : ∀ x ∈ [Str.ofString "z", Str.ofString ".", Str.ofString "\r", Str.ofString "\n", Str.ofString "\r\n", Str.ofString "a", Str.ofString "..", Str.ofString "\n.", Str.ofString ".\r", Str.ofString "b.", Str.ofString "\x0b", Str.ofString "\u2028."], PyData.strOk x = true := by decide +kernel
  rw [List.getD_eq_getElem?_getD]
  cases e : (_ : List Str)[i]? with
  | none => show PyData.strOk _ = true; decide +kernel
  | some v => exact h v (List.mem_of_getElem? e)
theorem lit_crlf : (Str.ofString "\r\n").length ≤ 2 := by decide +kernel
theorem lit_dcrlf : (Str.ofString ".\r\n").length ≤ 3 := by decide +kernel
theorem lit_one (c : Nat) : (⟨#[c]⟩ : Str).length ≤ 1 := Nat.le_refl 1
end Mine

end

/-! U02 -/
section
open PySem PySem.W PySem.Calls PyProof.Rows
namespace Mine
/-! the law's own rows of a message, sign by sign -/
def RowsInv (pre : List Int) (rows : List Str) (ahead : Str) : Prop :=
  nat rows = rowsFrom none [[]] (pre.map Int.toNat) ∧ cp ahead = ((pre.map Int.toNat).getLast?).toList ∧ ∀ r ∈ rows, r.length ≤ pre.length
theorem rows_start : ([Str.ofString ""].length ≤ ([] : List Int).length + 1 ∧ 1 ≤ [Str.ofString ""].length ∧ (Str.ofString "").length ≤ 1 ∧ RowsInv [] [Str.ofString ""] (Str.ofString "")) :=
  ⟨by decide, by decide, by decide +kernel, by decide +kernel, by decide +kernel, by
    intro r hr
    rw [List.mem_singleton.mp hr]
    decide +kernel⟩
theorem rowsFrom_snoc (c : Nat) : ∀ (l : List Nat) (a : Option Nat) (rs : Rows), rowsFrom a rs (l ++ [c]) = rowStep (l.getLast?.or a) (rowsFrom a rs l) c
  | [], a, rs => by cases a <;> rfl
  | d :: q, a, rs => by
    rw [List.cons_append, rowsFrom, rowsFrom_snoc c q, rowsFrom]
    congr 1
    cases q with
    | nil => rfl
    | cons e q => rw [List.getLast?_cons_cons, List.getLast?_eq_some_getLast (l := e :: q) (by simp)]; rfl
theorem S_cr : Str.ofString "\r" = ⟨#[13]⟩ := by decide +kernel
theorem S_lf : Str.ofString "\n" = ⟨#[10]⟩ := by decide +kernel
theorem S_dot : Str.ofString "." = ⟨#[46]⟩ := by decide +kernel
theorem S_nil : Str.ofString "" = ⟨#[]⟩ := by decide +kernel
theorem one_is {c d : Nat} (h : ((⟨#[c]⟩ : Str) == ⟨#[d]⟩) = true) : c = d := by
  have := eq_of_beq h
  simpa using this
theorem one_not {c d : Nat} (h : ((⟨#[c]⟩ : Str) == ⟨#[d]⟩) = false) : c ≠ d := by
  intro e
  subst e
  rw [beq_self_eq_true] at h
  cases h
section
variable {pre : List Int} {rows : List Str} {ahead : Str} {c : Nat}
theorem rows_ahead (h : RowsInv pre rows ahead) : (ahead == Str.ofString "\r") = decide ((pre.map Int.toNat).getLast? = some 13) := by
  have h2 := h.2.1
  rw [S_cr]
  cases e : (pre.map Int.toNat).getLast? with
  | none =>
    rw [e] at h2
    rw [beq_eq_false_iff_ne.mpr, decide_eq_false (by simp)]
    intro e2
    rw [e2] at h2
    cases h2
  | some d =>
    rw [e] at h2
    by_cases hd : d = 13
    · subst hd
      rw [decide_eq_true rfl]
      rw [beq_iff_eq]
      apply Str.ext'
      apply Array.toList_inj.mp
      exact h2
    · rw [decide_eq_false (by simpa using hd), beq_eq_false_iff_ne]
      intro e2
      rw [e2] at h2
      have : [13] = [d] := h2
      simp at this
      exact hd this.symm
theorem rows_end (h : RowsInv pre rows ahead) (hl : rows.length ≤ pre.length + 1) (he : c = 13 ∨ (c = 10 ∧ (pre.map Int.toNat).getLast? ≠ some 13)) :
    ((rows ++ [Str.ofString ""]).length ≤ (pre ++ [(c : Int)]).length + 1 ∧ 1 ≤ (rows ++ [Str.ofString ""]).length ∧ (⟨#[c]⟩ : Str).length ≤ 1 ∧ RowsInv (pre ++ [(c : Int)]) (rows ++ [Str.ofString ""]) ⟨#[c]⟩) := by
  refine ⟨by simp; omega, by simp, Nat.le_refl 1, ?_, by simp [cp], ?_⟩
  · rw [List.map_append, List.map_cons, List.map_nil, Int.toNat_natCast, rowsFrom_snoc, ← h.1, Option.or_none, rowStep_end he]
    simp only [nat, List.map_append, List.map_cons, List.map_nil]
    have : cp (Str.ofString "") = [] := by decide +kernel
    rw [this]
  · intro r hr
    rcases List.mem_append.mp hr with hr | hr
    · have := h.2.2 r hr
      simp; omega
    · rw [List.mem_singleton.mp hr]
      have : (Str.ofString "").length = 0 := by decide +kernel
      omega
theorem rows_cr (h : RowsInv pre rows ahead) (hl : rows.length ≤ pre.length + 1) (e : ((⟨#[c]⟩ : Str) == Str.ofString "\r") = true) :
    ((rows ++ [Str.ofString ""]).length ≤ (pre ++ [(c : Int)]).length + 1 ∧ 1 ≤ (rows ++ [Str.ofString ""]).length ∧ (⟨#[c]⟩ : Str).length ≤ 1 ∧ RowsInv (pre ++ [(c : Int)]) (rows ++ [Str.ofString ""]) ⟨#[c]⟩) := by
  rw [S_cr] at e
  exact rows_end h hl (.inl (one_is e))
theorem rows_lf (h : RowsInv pre rows ahead) (hl : rows.length ≤ pre.length + 1) (e : ((⟨#[c]⟩ : Str) == Str.ofString "\n") = true) (ea : (ahead == Str.ofString "\r") = false) :
    ((rows ++ [Str.ofString ""]).length ≤ (pre ++ [(c : Int)]).length + 1 ∧ 1 ≤ (rows ++ [Str.ofString ""]).length ∧ (⟨#[c]⟩ : Str).length ≤ 1 ∧ RowsInv (pre ++ [(c : Int)]) (rows ++ [Str.ofString ""]) ⟨#[c]⟩) := by
  rw [S_lf] at e
  rw [rows_ahead h] at ea
  exact rows_end h hl (.inr ⟨one_is e, of_decide_eq_false ea⟩)
theorem rows_skip (h : RowsInv pre rows ahead) (hl : rows.length ≤ pre.length + 1) (h1 : 1 ≤ rows.length) (e : ((⟨#[c]⟩ : Str) == Str.ofString "\n") = true) (ea : (ahead == Str.ofString "\r") = true) :
    (rows.length ≤ (pre ++ [(c : Int)]).length + 1 ∧ 1 ≤ rows.length ∧ (⟨#[c]⟩ : Str).length ≤ 1 ∧ RowsInv (pre ++ [(c : Int)]) rows ⟨#[c]⟩) := by
  rw [S_lf] at e
  rw [rows_ahead h] at ea
  have ea := of_decide_eq_true ea
  have e := one_is e
  subst e
  refine ⟨by simp; omega, h1, Nat.le_refl 1, ?_, by simp [cp], ?_⟩
  · rw [List.map_append, List.map_cons, List.map_nil, Int.toNat_natCast, rowsFrom_snoc, ← h.1, Option.or_none, ea, rowStep_skip]
  · intro r hr
    have := h.2.2 r hr
    simp; omega
theorem nat_last (h1 : 1 ≤ rows.length) : nat rows = nat rows.dropLast ++ [cp (lastS rows)] := by
  obtain ⟨q, d, rfl⟩ : ∃ q d, rows = q ++ [d] := by
    have : rows ≠ [] := by intro e; rw [e] at h1; simp at h1
    exact ⟨rows.dropLast, rows.getLast this, (List.dropLast_concat_getLast this).symm⟩
  simp [nat, lastS]
theorem rows_sign (h : RowsInv pre rows ahead) (hl : rows.length ≤ pre.length + 1) (h1 : 1 ≤ rows.length) (e1 : ((⟨#[c]⟩ : Str) == Str.ofString "\r") = false) (e2 : ((⟨#[c]⟩ : Str) == Str.ofString "\n") = false) :
    ((rows.dropLast ++ [lastS rows ++ ⟨#[c]⟩]).length ≤ (pre ++ [(c : Int)]).length + 1 ∧ 1 ≤ (rows.dropLast ++ [lastS rows ++ ⟨#[c]⟩]).length ∧ (⟨#[c]⟩ : Str).length ≤ 1 ∧ RowsInv (pre ++ [(c : Int)]) (rows.dropLast ++ [lastS rows ++ ⟨#[c]⟩]) ⟨#[c]⟩) := by
  rw [S_cr] at e1; rw [S_lf] at e2
  have e1 := one_not e1; have e2 := one_not e2
  refine ⟨by simp; omega, by simp, Nat.le_refl 1, ?_, by simp [cp], ?_⟩
  · rw [List.map_append, List.map_cons, List.map_nil, Int.toNat_natCast, rowsFrom_snoc, ← h.1, Option.or_none, nat_last h1, rowStep_sign e2 e1]
    simp only [nat, List.map_append, List.map_cons, List.map_nil, cp_append]
    rfl
  · intro r hr
    rcases List.mem_append.mp hr with hr | hr
    · have := h.2.2 r (List.dropLast_subset _ hr)
      simp; omega
    · rw [List.mem_singleton.mp hr, Str.length_append]
      have := h.2.2 _ (lastS_mem h1)
      have h2 : (⟨#[c]⟩ : Str).length = 1 := rfl
      simp; omega
theorem rows_last96 {ka : Str} {n : Int} {post : List Int} (h : RowsInv pre rows ahead) (h1 : 1 ≤ rows.length) (e : KStt.codes ka = pre ++ n :: post) (hk : ka.length ≤ 96) : (lastS rows).length ≤ 96 := by
  have h2 := h.2.2 _ (lastS_mem h1)
  have h3 := congrArg List.length e
  rw [KStt.codes_length, List.length_append, List.length_cons] at h3
  omega
theorem rows_last (h : RowsInv pre rows ahead) (h1 : 1 ≤ rows.length) : (lastS rows).length ≤ pre.length := h.2.2 _ (lastS_mem h1)
end
end Mine

end

/-! the head -/
namespace Mine
set_option maxHeartbeats 8000000 in
open_top hd for PySem.Challenge.rw_dn0159_02
end Mine

/-! C02 -/
section
open PySem PySem.W PyProof.Rows
set_option maxHeartbeats 3000000
namespace Mine
section
variable {pre : List Int} {rows : List Str} {ahead : Str} {c : Nat}
theorem rows_lf' (h : RowsInv pre rows ahead) (hl : rows.length ≤ pre.length + 1) (e : ((⟨#[c]⟩ : Str) == Str.ofString "\n") = true) (ea : (ahead != Str.ofString "\r") = true) :
    ((rows ++ [Str.ofString ""]).length ≤ (pre ++ [(c : Int)]).length + 1 ∧ 1 ≤ (rows ++ [Str.ofString ""]).length ∧ (⟨#[c]⟩ : Str).length ≤ 1 ∧ RowsInv (pre ++ [(c : Int)]) (rows ++ [Str.ofString ""]) ⟨#[c]⟩) :=
  rows_lf h hl e (by simpa [bne] using ea)
theorem rows_skip' (h : RowsInv pre rows ahead) (hl : rows.length ≤ pre.length + 1) (h1 : 1 ≤ rows.length) (e : ((⟨#[c]⟩ : Str) == Str.ofString "\n") = true) (ea : (ahead != Str.ofString "\r") = false) :
    (rows.length ≤ (pre ++ [(c : Int)]).length + 1 ∧ 1 ≤ rows.length ∧ (⟨#[c]⟩ : Str).length ≤ 1 ∧ RowsInv (pre ++ [(c : Int)]) rows ⟨#[c]⟩) :=
  rows_skip h hl h1 e (by
    cases q : (ahead == Str.ofString "\r") with
    | true => rfl
    | false => rw [bne, q] at ea; cases ea)
end
theorem codes_nat (x : Str) : (KStt.codes x).map Int.toNat = cp x := by
  unfold KStt.codes cp
  rw [List.map_map]
  exact (List.map_congr_left (g := _root_.id) fun c _ => Int.toNat_natCast c).trans (List.map_id _)
theorem getD_last {rows : List Str} (h1 : 1 ≤ rows.length) : rows.getD (-1 + (rows.length : Int)).toNat Str.empty = lastS rows := by
  obtain ⟨q, d, rfl⟩ : ∃ q d, rows = q ++ [d] := by
    have : rows ≠ [] := by intro e; rw [e] at h1; simp at h1
    exact ⟨rows.dropLast, rows.getLast this, (List.dropLast_concat_getLast this).symm⟩
  have e : (-1 + ((q ++ [d]).length : Int)).toNat = q.length := by simp; omega
  rw [e]
  simp [lastS]
theorem cp_nil_iff (x : Str) : (x == Str.ofString "") = decide (cp x = []) := by
  rw [S_nil]
  by_cases h : cp x = []
  · rw [decide_eq_true h, beq_iff_eq]
    apply Str.ext'
    apply Array.toList_inj.mp
    exact h
  · rw [decide_eq_false h, beq_eq_false_iff_ne]
    intro e
    rw [e] at h
    exact h rfl
section
variable {x : Str} {rows : List Str} {ahead : Str}
theorem rows_nat (h : RowsInv (KStt.codes x) rows ahead) : rowsN (cp x) = trim (nat rows) := by
  rw [h.1, codes_nat]; rfl
theorem nat_getLastD (h1 : 1 ≤ rows.length) : (nat rows).getLastD [] = cp (lastS rows) := by rw [nat_last h1]; simp
theorem rows_short (h : RowsInv (KStt.codes x) rows ahead) (hx : x.length ≤ 96) : ∀ r ∈ rows, r.length ≤ 96 := by
  intro r hr
  have := h.2.2 r hr
  rw [KStt.codes_length] at this
  omega
theorem rows_short' (h : RowsInv (KStt.codes x) rows ahead) (hx : x.length ≤ 96) : ∀ r ∈ rows.dropLast, r.length ≤ 96 :=
  fun r hr => rows_short h hx r (List.dropLast_subset _ hr)
theorem fin_pop (h : RowsInv (KStt.codes x) rows ahead) (h1 : (1 : Int) < (rows.length : Int)) (e : (rows.getD (-1 + (rows.length : Int)).toNat Str.empty == Str.ofString "") = true) : nat rows.dropLast = rowsN (cp x) := by
  have h2 : 1 ≤ rows.length := by omega
  rw [getD_last h2, cp_nil_iff] at e
  rw [rows_nat h, trim, if_pos ⟨by rw [nat, List.length_map]; omega, by rw [nat_getLastD h2]; exact of_decide_eq_true e⟩]
  simp [nat, List.map_dropLast]
theorem fin_two (h : RowsInv (KStt.codes x) rows ahead) (h1 : (1 : Int) < (rows.length : Int)) (e : (rows.getD (-1 + (rows.length : Int)).toNat Str.empty == Str.ofString "") = false) : nat rows = rowsN (cp x) := by
  have h2 : 1 ≤ rows.length := by omega
  rw [getD_last h2, cp_nil_iff] at e
  rw [rows_nat h, trim, if_neg (fun q => of_decide_eq_false e (by rw [← nat_getLastD h2]; exact q.2))]
theorem fin_one (h : RowsInv (KStt.codes x) rows ahead) (h1 : ¬ (1 : Int) < (rows.length : Int)) : nat rows = rowsN (cp x) := by
  rw [rows_nat h, trim, if_neg (fun q => h1 (by have := q.1; rw [nat, List.length_map] at this; omega))]
end
local macro_rules | `(tactic| walk_at "call builtin:list.pop") => `(tactic| (k_here; (with_reducible show wpAny _ _ (call (Value.builtin "list.pop") _) _ _ _); k_dflt (refine' pop_last ?k1 ?k2 ?k3 ?k4 ?k5 ?k6 ?_; (case k1 => k_asm); (case k2 => k_asm); (case k6 => k_upd); (case k3 => with_reducible assumption); (case k4 => with_reducible assumption); (case k5 => (show _ ≤ 2 ^ 24; omega))); intro h' t' F' N' hS'; (try dsimp only [List.nil_append, List.cons_append] at N')))
local macro_rules | `(tactic| kst_facts1) => `(tactic| with_reducible first | exact PyProof.Rows.StrsAre.cons _ _ PyProof.Rows.StrsAre.nil | assumption | exact PyProof.Rows.StrsAre.append' (by assumption) (.cons _ _ .nil))
local macro_rules | `(tactic| walk_at "execs cons") => `(tactic| first | (k_here; k_gentoks) | ((with_reducible refine wpAny_execs_cons ?_); (try dsimp only)))
local macro_rules | `(tactic| walk_at "getItem ref int") => `(tactic| (k_here; (with_reducible show wpAny _ _ (getItem (Value.ref _) (Value.int (-1) _)) _ _ _); k_dflt (refine' get_last ?k1 ?k2 ?k3 ?k4 ?_; (case k1 => k_asm); (case k2 => k_mem); (case k3 => with_reducible assumption); (case k4 => with_reducible assumption)); intro kt'))
local macro_rules | `(tactic| walk_at "setItem ref int") => `(tactic| (k_here; (with_reducible show wpAny _ _ (setItem (Value.ref _) (Value.int (-1) _) (Value.str _ _)) _ _ _); k_dflt (refine' set_last ?k1 ?k2 ?k3 ?k4 ?k5 ?_; (case k1 => k_asm); (case k2 => k_asm); (case k5 => k_upd); (case k3 => with_reducible assumption); (case k4 => with_reducible assumption)); intro h' F' N' hS'; (try dsimp only [List.nil_append, List.cons_append] at N')))
local macro_rules | `(tactic| walk_at "inplaceOp Add str str") => `(tactic| (k_here; (with_reducible show wpAny _ _ (inplaceOp Operator.Add (Value.str _ _) (Value.str _ _)) _ _ _); (refine' iadd2 ?kax ?kay ?kas ?_; (case kax => with_reducible first | assumption | exact rows_last96 (by assumption) (by assumption) (by assumption) (by assumption)); (case kay => with_reducible first | assumption | exact lit_one _); (case kas => k_dflt omega)); intro t' k' kaLen'))
theorem rows_call (w : World) (mean : ExcName → Option Value) (mg mb : Str → Option Value) (loose : List Str) (ns : List Int) (x : Str) (t : Tok) (news : List (Addr × Obj)) (dp un : Nat) (gd : Option (List Code)) (cn : Str) (cs : Scope) (a : Addr) (ccd : Value) (cl : List (Str × Addr)) (outer : List Env) (A₀ : Around) (base h₀ : Heap) (L : Addr) (m : Str → Option Value) (s : Shared) (Q E : Value → Shared → Prop)
    (B : Below A₀ base outer h₀) (F : Fr h₀ L s.heap m) (X : (hd.heap_39 w.params).In h₀) (N : News h₀ L s.heap news) (T : Top hd.view_39 loose mean mg mb h₀) (hk : cs.kind = .function) (hx : x.length ≤ 96) (hdp : dp + 1 < recursionLimit) (hun : un + 8 < cLine)
    (hret : ∀ D vs ws n h' tk, StrsAre vs ws → nat ws = rowsN (cp x) → 1 ≤ ws.length → ws.length ≤ 100 → (∀ r ∈ ws, r.length ≤ 96) → Fr h₀ L h' m → News h₀ L h' ((D, PySem.W.listOf vs.toArray n) :: news) → (∀ p ∈ news, p.1 < D) → Q (.ref D) { s with heap := h', toks := tk }) (hL : (PyData.list (List.map PyData.int ns)).layable0 = true) :
    wpAny (model PySem.Challenge.rw_dn0159_02.row.prog w) (ktrTop dp un gd cn cs L a ccd cl outer) (call (.ref 55) [.str x t]) Q E s := by
  w_top off
  revert X; k_fill; intro X
  (k_with "pyIter str" => k_state (fun pre rows ahead => rows.length ≤ pre.length + 1 ∧ 1 ≤ rows.length ∧ ahead.length ≤ 1 ∧ RowsInv pre rows ahead) "rows$" "ahead")
  (k_with "state" => first
    | with_reducible exact rows_start
    | with_reducible exact rows_cr (by assumption) (by assumption) (by assumption)
    | with_reducible exact rows_lf' (by assumption) (by assumption) (by assumption) (by assumption)
    | with_reducible exact rows_skip' (by assumption) (by assumption) (by assumption) (by assumption) (by assumption)
    | with_reducible exact rows_sign (by assumption) (by assumption) (by assumption) (by assumption) (by assumption))
  have kMark : KstMark := kstMark
  refine wpAny_call ?_
  k_dflt cell_enter
  k_steps
  all_goals first
    | exact hret _ _ _ _ _ _ (by assumption) (fin_pop (by assumption) (by assumption) (by assumption)) (by rw [List.length_dropLast]; omega) (by rw [List.length_dropLast]; omega) (rows_short' (by assumption) (by assumption)) (by assumption) (by assumption) (by assumption)
    | exact hret _ _ _ _ _ _ (by assumption) (fin_two (by assumption) (by assumption) (by assumption)) (by omega) (by omega) (rows_short (by assumption) (by assumption)) (by assumption) (by assumption) (by assumption)
    | exact hret _ _ _ _ _ _ (by assumption) (fin_one (by assumption) (by assumption)) (by omega) (by omega) (rows_short (by assumption) (by assumption)) (by assumption) (by assumption) (by assumption)
end Mine

end

/-! H02 -/
section
open PySem PySem.W PySem.Calls PyProof.Rows
namespace Mine
/-! the receiver's loop -/
theorem pick_init (vs : List Value) (h : 1 ≤ vs.length) : slicePick vs.toArray none (some (-1)) none = vs.dropLast.toArray := by
  rw [kms_pick_eq]
  congr 1
  unfold kms_pick
  have e1 : kms_lo none vs.length = 0 := rfl
  have e2 : kms_hi (some (-1)) vs.length = vs.length - 1 := by
    unfold kms_hi; simp
  simp only [List.size_toArray, e1, e2, List.drop_zero, Nat.sub_zero]
  rw [List.dropLast_eq_take]
theorem S_crlf : Str.ofString "\r\n" = ⟨#[13, 10]⟩ := by decide +kernel
structure HearC where
  ds : List Value
  cn : Nat
  D : Addr
  us : List Value
  ws : List Str
  n : Nat
def HearInv (ps : List (List Nat)) (i : Nat) (ds : List Value) (ws : List Str) (T : List (Addr × Obj)) : Prop :=
  ∃ Rs, Tab ds Rs T ∧ hearN (Rs.map nat) (nat ws) (ps.drop i) = hearN [] [] ps
theorem hear_start {ps : List (List Nat)} : HearInv ps 0 [] [] [] := ⟨[], .nil, rfl⟩
theorem drop_at {ps : List (List Nat)} {i : Nat} {a : List Nat} (h : ps[i]? = some a) : ps.drop i = a :: ps.drop (i + 1) := by
  obtain ⟨hl, he⟩ := List.getElem?_eq_some_iff.mp h
  rw [← he]; exact List.drop_eq_getElem_cons hl
section
variable {ps : List (List Nat)} {i : Nat} {ds us : List Value} {ws : List Str} {T : List (Addr × Obj)} {D : Addr} {n : Nat} {a b : Str}
theorem hear_dot (h : HearInv ps i ds ws T) (hi : StrsAre us ws) (ha : ps[i]? = some (cp a)) (e : (a == Str.ofString ".") = true) : HearInv ps (i + 1) (ds ++ [.ref D]) [] ((D, PySem.W.listOf us.toArray n) :: T) := by
  obtain ⟨Rs, t, q⟩ := h
  refine ⟨Rs ++ [ws], .snoc D us ws n t hi, ?_⟩
  have ea : cp a = [46] := by
    rw [S_dot] at e
    rw [eq_of_beq e]; rfl
  rw [drop_at ha, ea, hearN, if_pos rfl] at q
  rw [List.map_append]
  exact q
theorem dot_not (e : (a == Str.ofString ".") = false) : cp a ≠ [46] := by
  intro h
  rw [S_dot, beq_eq_false_iff_ne] at e
  apply e
  apply Str.ext'
  apply Array.toList_inj.mp
  exact h
theorem hear_stuffed (h : HearInv ps i ds ws T) (ha : ps[i]? = some (cp a)) (e : (a == Str.ofString ".") = false) (e2 : (cp a).head? = some 46) (hb : cp b = (cp a).tail) : HearInv ps (i + 1) ds (ws ++ [b]) T := by
  obtain ⟨Rs, t, q⟩ := h
  refine ⟨Rs, t, ?_⟩
  rw [drop_at ha, hearN, if_neg (dot_not e), if_pos e2] at q
  rw [nat, List.map_append]
  simp only [List.map_cons, List.map_nil, hb]
  exact q
theorem hear_plain (h : HearInv ps i ds ws T) (ha : ps[i]? = some (cp a)) (e : (a == Str.ofString ".") = false) (e2 : (cp a).head? ≠ some 46) : HearInv ps (i + 1) ds (ws ++ [a]) T := by
  obtain ⟨Rs, t, q⟩ := h
  refine ⟨Rs, t, ?_⟩
  rw [drop_at ha, hearN, if_neg (dot_not e), if_neg e2] at q
  rw [nat, List.map_append]
  exact q
end
section
variable {prog : Program} {w : World} {A : Around} {E : Value → Shared → Prop} {s : Shared} {env : Env} {h₀ : Heap} {body : List Stmt} {Q : Flow → Shared → Prop}
def hearRD (heard l : Addr) (vs : List Value) (rest : List (Addr × Obj)) (m₀ : Str → Option Value) : RD HearC :=
  { Led := fun c => (heard, PySem.W.listOf c.ds.toArray c.cn) :: (c.D, PySem.W.listOf c.us.toArray c.n) :: (l, PySem.W.listOf vs.toArray 0) :: rest
    ps := fun c => [(Str.ofString "rows", .ref c.D)]
    stored := []
    m₀ := m₀ }
def hearP (heard l : Addr) (rest : List (Addr × Obj)) (ps : List (List Nat)) (i : Nat) (c : HearC) (T : List (Addr × Obj)) : Prop :=
  c.ds.length ≤ i ∧ c.ws.length ≤ i ∧ heard < c.D ∧ l ≠ c.D ∧ AllLt c.D rest ∧ StrsAre c.us c.ws ∧ HearInv ps i c.ds c.ws T
theorem allLt_trans {a b : Addr} (h : a < b) : ∀ {l : List (Addr × Obj)}, AllLt a l → AllLt b l
  | [], _ => trivial
  | _ :: _, ⟨x, y⟩ => ⟨Nat.lt_trans x h, allLt_trans h y⟩
theorem allLt_mem {d : Addr} : ∀ {l : List (Addr × Obj)}, AllLt d l → ∀ p ∈ l, p.1 < d
  | [], _, _, hp => (nomatch hp)
  | q :: r, h, p, hp => by
    rcases List.mem_cons.mp hp with rfl | hp
    · exact h.1
    · exact allLt_mem h.2 p hp
theorem iter_H {heard D₀ l : Addr} {arr : Array Value} {l₀ : List (Str × Tok)} {st : Str} {ms : List (List Nat)} {o2 : Addr × Obj} {rest : List (Addr × Obj)} {m₀ : Str → Option Value}
    (hh : A.handled = none) (harr : arr = slicePick (strValues l₀).toArray none (some (-1)) none) (hl₀ : l₀.map (·.1) = Txt.split st (Str.ofString "\r\n")) (hst : cp st = streamN ms) (hne : ms ≠ []) (hlen : st.length ≤ 1600)
    (F : Fr h₀ env.locals s.heap m₀) (N : News h₀ env.locals s.heap ((l, PySem.W.listOf arr 0) :: o2 :: (D₀, PySem.W.listOf #[] 0) :: (heard, PySem.W.listOf #[] 0) :: rest))
    (lt : heard < D₀) (ltr : AllLt heard rest) (k1 : m₀ (Str.ofString "rows") = some (.ref D₀))
    (turn : ∀ vs i a t ds cn D us ws n T (u : Str → Option Value) h tk I oI own, KstMark → (pieces ms)[i]? = some (cp a) → i < 1600 → a.length ≤ 1600 → ds.length ≤ i → ws.length ≤ i → heard < D → l ≠ D → l ≠ heard → AllLt heard rest → AllLt D rest → StrsAre us ws → HearInv (pieces ms) i ds ws T →
      OwnOff own (heard :: D :: l :: rest.map (·.1)) → InOwn T I oI own →
      Fr h₀ env.locals h (fun y => if y = Str.ofString "row" then some (.str a t) else if y = Str.ofString "rows" then some (.ref D) else if ([] : List Str).contains y then u y else m₀ y) →
      News h₀ env.locals h ((heard, PySem.W.listOf ds.toArray cn) :: (D, PySem.W.listOf us.toArray n) :: (l, PySem.W.listOf vs 0) :: (rest ++ own)) →
      wpAny (model prog w) A (execs body env) (Mine.InvPostN h₀ env.locals (hearRD heard l vs.toList rest m₀) (Str.ofString "row") (hearP heard l rest (pieces ms) (i + 1)) T I own { s with heap := h, toks := tk } Q) E { s with heap := h, toks := tk })
    (done : ∀ vs ds cn D us ws n T Rs (u : Str → Option Value) h tk, KstMark → Tab ds Rs T → Rs.map nat = ms.map rowsN → OwnOff T (heard :: D :: l :: rest.map (·.1)) →
      Fr h₀ env.locals h (fun y => if y = Str.ofString "row" then u y else if y = Str.ofString "rows" then some (.ref D) else if ([] : List Str).contains y then u y else m₀ y) →
      News h₀ env.locals h ((heard, PySem.W.listOf ds.toArray cn) :: (D, PySem.W.listOf us n) :: (l, PySem.W.listOf vs 0) :: (rest ++ T)) → StrsAre us.toList ws → Q .next { s with heap := h, toks := tk }) :
    wpAny (model prog w) A (pyIter (.ref l)) (fun it s₂ => LoopAtV prog w A h₀ env (Str.ofString "row") body Q E it s₂) E s := by
  have hpn : pieces ms ≠ [] := by
    obtain ⟨m, r, rfl⟩ := List.exists_cons_of_ne_nil hne
    simp [pieces]
  have hsp := split_stream st (pieces ms) (pieces_plain ms) hpn (by rw [← stream_pieces]; exact hst)
  rw [← S_crlf, ← hl₀] at hsp
  have hll : l₀.length = (pieces ms).length + 1 := by
    have := congrArg List.length hsp
    simpa using this
  have hvl : (strValues l₀).length = l₀.length := by simp [strValues]
  have harr2 : arr = (strValues l₀).dropLast.toArray := by rw [harr]; exact pick_init _ (by omega)
  subst harr2
  have hvd : (strValues l₀).dropLast.length = (pieces ms).length := by rw [List.length_dropLast]; omega
  have hpl : (pieces ms).length ≤ 1600 := by
    have e1 : (cp st).length = st.length := cp_length st
    rw [hst, stream_pieces] at e1
    have : ∀ ps : List (List Nat), ps.length ≤ (ps.flatMap fun p => p ++ [13, 10]).length := by
      intro ps
      induction ps with
      | nil => simp
      | cons p r ih => simp only [List.flatMap_cons, List.length_append, List.length_cons, List.length_nil]; omega
    have := this (pieces ms)
    omega
  have hnz : 1 ≤ (pieces ms).length := by
    rcases h : pieces ms with _ | _
    · exact absurd h hpn
    · simp
  have nl : ∀ X, (X, PySem.W.listOf #[] 0) ∈ ((l, PySem.W.listOf (strValues l₀).dropLast.toArray 0) :: o2 :: (D₀, PySem.W.listOf #[] 0) :: (heard, PySem.W.listOf #[] 0) :: rest) → l ≠ X := by
    intro X hX e
    subst e
    have g1 := (N _ (.head _)).1
    have g2 := (N _ hX).1
    rw [g1] at g2
    have g3 := Option.some.inj g2
    simp only [PySem.W.listOf, Obj.mk.injEq, Data.seq.injEq] at g3
    have g4 := congrArg Array.size g3.2.2.1.1
    rw [List.size_toArray] at g4
    simp at g4
    omega
  have nD : l ≠ D₀ := nl D₀ (.tail _ (.tail _ (.head _)))
  have nh : l ≠ heard := nl heard (.tail _ (.tail _ (.tail _ (.head _))))
  refine iter_R (l := l) (vs := (strValues l₀).dropLast) (nn := 0) (hearRD heard l (strValues l₀).dropLast rest m₀) (fun i c T => hearP heard l rest (pieces ms) i c T) ⟨[], 0, D₀, [], [], 0⟩ hh (fun c => .tail _ (.tail _ (.head _))) F ?_ ?_ ⟨Nat.le_refl 0, Nat.le_refl 0, lt, nD, allLt_trans lt ltr, .nil, hear_start⟩ ?_ ?_
  · intro p hp
    refine N p ?_
    rcases List.mem_cons.mp hp with rfl | hp
    · exact .tail _ (.tail _ (.tail _ (.head _)))
    rcases List.mem_cons.mp hp with rfl | hp
    · exact .tail _ (.tail _ (.head _))
    rcases List.mem_cons.mp hp with rfl | hp
    · exact .head _
    · exact .tail _ (.tail _ (.tail _ (.tail _ hp)))
  · intro p hp
    rw [List.mem_singleton.mp hp]; exact k1
  · rintro i v ⟨ds, cn, D, us, ws, n⟩ T u h tk I oI own hv ⟨p1, p2, p3, p4, p5, p6, p7⟩ hoff hin F₁ N₁
    have hil : i < (strValues l₀).dropLast.length := (List.getElem?_eq_some_iff.mp hv).1
    have hilp : i < (pieces ms).length := by omega
    have hil0 : i < l₀.length := by omega
    have hv2 : (strValues l₀)[i]? = some v := by
      have : (strValues l₀).dropLast[i]? = (strValues l₀)[i]? := by
        rw [List.dropLast_eq_take, List.getElem?_take, if_pos (by rw [List.length_dropLast] at hil; exact hil)]
      rw [← this]; exact hv
    have hv3 : v = .str l₀[i].1 l₀[i].2 := by
      have : (strValues l₀)[i]? = some (Value.str l₀[i].1 l₀[i].2) := by simp [strValues, hil0]
      rw [this] at hv2
      exact (Option.some.inj hv2).symm
    have hcp : (pieces ms)[i]? = some (cp l₀[i].1) := by
      have g := congrArg (fun q => q[i]?) hsp
      simp only [List.getElem?_map, List.getElem?_append, List.length_map, hilp, if_true] at g
      rw [List.getElem?_eq_getElem hil0, List.getElem?_eq_getElem hilp] at g
      simp only [Option.map_some, Option.some.injEq] at g
      rw [List.getElem?_eq_getElem hilp, g]
      simp [cp]
    have hal : l₀[i].1.length ≤ 1600 := by
      have e1 : (cp st).length = st.length := cp_length st
      rw [hst, stream_pieces] at e1
      have q : ∀ ps : List (List Nat), ∀ p ∈ ps, p.length ≤ (ps.flatMap fun p => p ++ [13, 10]).length := by
        intro ps
        induction ps with
        | nil => intro p hp; cases hp
        | cons x r ih =>
          intro p hp
          rcases List.mem_cons.mp hp with rfl | hp
          · simp only [List.flatMap_cons, List.length_append]; omega
          · have := ih p hp
            simp only [List.flatMap_cons, List.length_append]; omega
      have := q (pieces ms) (cp l₀[i].1) (List.mem_of_getElem? hcp)
      rw [cp_length] at this
      omega
    subst hv3
    have := turn (strValues l₀).dropLast.toArray i l₀[i].1 l₀[i].2 ds cn D us ws n T u h tk I oI own kstMark hcp (by omega) hal p1 p2 p3 p4 nh ltr p5 p6 p7 hoff hin F₁ (by
      have e : (hearRD heard l (strValues l₀).dropLast rest m₀).Led ⟨ds, cn, D, us, ws, n⟩ ++ own = (heard, PySem.W.listOf ds.toArray cn) :: (D, PySem.W.listOf us.toArray n) :: (l, PySem.W.listOf (strValues l₀).dropLast.toArray 0) :: (rest ++ own) := rfl
      rw [← e]; exact N₁)
    exact this
  · rintro ⟨ds, cn, D, us, ws, n⟩ T u h tk ⟨p1, p2, p3, p4, p5, p6, Rs, tb, q⟩ hoff F₁ N₁
    have hfin : Rs.map nat = ms.map rowsN := by
      have e0 := hear_all ms []
      rw [hvd, List.drop_length] at q
      simp only [hearN] at q
      rw [← q] at e0
      simpa using e0
    exact done (strValues l₀).dropLast.toArray ds cn D us.toArray ws n T Rs u h tk kstMark tb hfin hoff F₁ N₁ p6
end
section
variable {heard D l : Addr} {o o' o1 o2 : Obj} {rest own : List (Addr × Obj)}
theorem upd_heard (lt : heard < D) (hl : l ≠ heard) (hr : AllLt heard rest) (ho : OwnOff own (heard :: D :: l :: rest.map (·.1))) :
    Upd heard o o' ((heard, o) :: (D, o1) :: (l, o2) :: (rest ++ own)) ((heard, o') :: (D, o1) :: (l, o2) :: (rest ++ own)) := by
  refine Upd.head fun p hp => ?_
  rcases List.mem_cons.mp hp with rfl | hp
  · exact Nat.ne_of_gt lt
  rcases List.mem_cons.mp hp with rfl | hp
  · exact hl
  rcases List.mem_append.mp hp with hp | hp
  · exact Nat.ne_of_lt (allLt_mem hr p hp)
  · exact ho p hp _ (.head _)
theorem upd_D (lt : heard < D) (hl : l ≠ D) (hr : AllLt D rest) (ho : OwnOff own (heard :: D :: l :: rest.map (·.1))) :
    Upd D o o' ((heard, o1) :: (D, o) :: (l, o2) :: (rest ++ own)) ((heard, o1) :: (D, o') :: (l, o2) :: (rest ++ own)) := by
  refine Upd.tail (Nat.ne_of_lt lt) (Upd.head fun p hp => ?_)
  rcases List.mem_cons.mp hp with rfl | hp
  · exact hl
  rcases List.mem_append.mp hp with hp | hp
  · exact Nat.ne_of_lt (allLt_mem hr p hp)
  · exact ho p hp _ (.tail _ (.head _))
end
theorem own_lt {d : Addr} {l r : List (Addr × Obj)} (h : AllLt d (l ++ r)) : (∀ p ∈ l, p.1 < d) ∧ ∀ p ∈ r, p.1 < d :=
  ⟨fun p hp => allLt_mem h p (List.mem_append.mpr (.inl hp)), fun p hp => allLt_mem h p (List.mem_append.mpr (.inr hp))⟩
theorem adr_cases {P : Addr → Prop} {heard D l : Addr} {o1 o2 o3 : Obj} {rest : List (Addr × Obj)} (h1 : P heard) (h2 : P D) (h3 : P l) (h4 : ∀ p ∈ rest, P p.1) : ∀ b ∈ (((heard, o1) :: (D, o2) :: (l, o3) :: rest).map (·.1)), P b := by
  intro b hb
  obtain ⟨p, hp, rfl⟩ := List.mem_map.mp hb
  rcases List.mem_cons.mp hp with rfl | hp
  · exact h1
  rcases List.mem_cons.mp hp with rfl | hp
  · exact h2
  rcases List.mem_cons.mp hp with rfl | hp
  · exact h3
  · exact h4 p hp
section
variable {h₀ h' : Heap} {L heard D l Dn I : Addr} {m' m₀ : Str → Option Value} {ds us : List Value} {ws : List Str} {vs : Array Value} {cn n i tk : Nat} {rest own T : List (Addr × Obj)} {oI : Obj} {ps : List (List Nat)} {a b : Str} {t : Tok} {s₁ : Shared} {Q : Flow → Shared → Prop}
theorem end_dot (F : Fr h₀ L h' m') (N : News h₀ L h' ((Dn, PySem.W.listOf #[] 0) :: (heard, PySem.W.listOf (ds ++ [Value.ref D]).toArray (cn + 1)) :: (D, PySem.W.listOf us.toArray n) :: (l, PySem.W.listOf vs 0) :: (rest ++ own)))
    (l1 : heard < Dn ∧ D < Dn ∧ l < Dn ∧ AllLt Dn (rest ++ own)) (lt : heard < D) (hl : l ≠ D) (rD : AllLt D rest) (hoff : OwnOff own (heard :: D :: l :: rest.map (·.1))) (hin : InOwn T I oI own) (hd : ds.length ≤ i)
    (hS : StrsAre us ws) (hI : HearInv ps i ds ws T) (ha : ps[i]? = some (cp a)) (e : (a == Str.ofString ".") = true)
    (k1 : m' (Str.ofString "rows") = some (.ref Dn)) (k2 : ∀ z, z ≠ Str.ofString "row" → (∀ p ∈ [(Str.ofString "rows", Value.ref Dn)], z ≠ p.1) → ([] : List Str).contains z = false → m' z = m₀ z) :
    Mine.InvPostN h₀ L (hearRD heard l vs.toList rest m₀) (Str.ofString "row") (hearP heard l rest ps (i + 1)) T I own s₁ Q .next { s₁ with heap := h', toks := tk } := by
  obtain ⟨q1, q2, q3, q4⟩ := l1
  obtain ⟨q5, q6⟩ := own_lt q4
  refine endR_one (R := hearRD heard l vs.toList rest m₀) ⟨ds ++ [.ref D], cn + 1, Dn, [], [], 0⟩ D (PySem.W.listOf us.toArray n) F N hin ?_ ?_ ?_ ?_ ?_ ?_ ?_ k2 ?_
  · intro p hp
    rcases List.mem_cons.mp hp with rfl | hp
    · exact .tail _ (.head _)
    rcases List.mem_cons.mp hp with rfl | hp
    · exact .head _
    rcases List.mem_cons.mp hp with rfl | hp
    · exact .tail _ (.tail _ (.tail _ (.head _)))
    · exact .tail _ (.tail _ (.tail _ (.tail _ (List.mem_append.mpr (.inl hp)))))
  · intro p hp
    exact .tail _ (.tail _ (.tail _ (.tail _ (List.mem_append.mpr (.inr hp)))))
  · exact .tail _ (.tail _ (.head _))
  · intro p hp
    refine adr_cases (P := fun b => p.1 ≠ b) (hoff p hp _ (.head _)) (Nat.ne_of_lt (q6 p hp)) (hoff p hp _ (.tail _ (.tail _ (.head _)))) fun r hr => hoff p hp _ (.tail _ (.tail _ (.tail _ (List.mem_map.mpr ⟨r, hr, rfl⟩))))
  · exact fun p hp => hoff p hp _ (.tail _ (.head _))
  · exact adr_cases (P := fun b => D ≠ b) (Nat.ne_of_gt lt) (Nat.ne_of_lt q2) (Ne.symm hl) fun r hr => Nat.ne_of_gt (allLt_mem rD r hr)
  · intro p hp
    rw [List.mem_singleton.mp hp]; exact k1
  · exact ⟨by simp; omega, by simp, q1, Nat.ne_of_lt q3, allLt_of q5, .nil, hear_dot hI hS ha e⟩
theorem end_add (F : Fr h₀ L h' m') (N : News h₀ L h' ((heard, PySem.W.listOf ds.toArray cn) :: (D, PySem.W.listOf (us ++ [Value.str b t]).toArray (n + 1)) :: (l, PySem.W.listOf vs 0) :: (rest ++ own)))
    (lt : heard < D) (hl : l ≠ D) (rD : AllLt D rest) (hoff : OwnOff own (heard :: D :: l :: rest.map (·.1))) (hin : InOwn T I oI own) (hd : ds.length ≤ i) (hw : ws.length ≤ i)
    (hS : StrsAre us ws) (hI : HearInv ps (i + 1) ds (ws ++ [b]) T)
    (k1 : m' (Str.ofString "rows") = some (.ref D)) (k2 : ∀ z, z ≠ Str.ofString "row" → (∀ p ∈ [(Str.ofString "rows", Value.ref D)], z ≠ p.1) → ([] : List Str).contains z = false → m' z = m₀ z) :
    Mine.InvPostN h₀ L (hearRD heard l vs.toList rest m₀) (Str.ofString "row") (hearP heard l rest ps (i + 1)) T I own s₁ Q .next { s₁ with heap := h', toks := tk } := by
  refine endR_same (R := hearRD heard l vs.toList rest m₀) ⟨ds, cn, D, us ++ [Value.str b t], ws ++ [b], n + 1⟩ F N hin ?_ ?_ ?_ ?_ k2 ?_
  · intro p hp
    rcases List.mem_cons.mp hp with rfl | hp
    · exact .head _
    rcases List.mem_cons.mp hp with rfl | hp
    · exact .tail _ (.head _)
    rcases List.mem_cons.mp hp with rfl | hp
    · exact .tail _ (.tail _ (.head _))
    · exact .tail _ (.tail _ (.tail _ (List.mem_append.mpr (.inl hp))))
  · intro p hp
    exact .tail _ (.tail _ (.tail _ (List.mem_append.mpr (.inr hp))))
  · exact hoff
  · intro p hp
    rw [List.mem_singleton.mp hp]; exact k1
  · exact ⟨by show ds.length ≤ i + 1; omega, by simp; omega, lt, hl, rD, hS.append' (.cons _ _ .nil), hI⟩
end
/-! row[:1] and row[1:] -/
theorem cp_empty_of {x : Str} (h : x.length ≤ 0) : cp x = [] := by
  have := cp_length x
  exact List.length_eq_zero_iff.mp (by omega)
theorem slice_drop (x : Str) (i : Int) (h0 : 0 ≤ i) (h2 : i ≤ x.length) : cp (Txt.slice x (some i) none) = (cp x).drop i.toNat := by
  rw [slice_from_eq h0 h2 rfl]
  show ((x.cps.toList.drop i.toNat).take ((x.length : Int) - i).toNat) = x.cps.toList.drop i.toNat
  apply List.take_of_length_le
  have := cp_length x
  simp only [List.length_drop]
  unfold cp at this
  omega
theorem slice1 (x : Str) : cp (Txt.slice x none (some 1)) = (cp x).take 1 := by
  by_cases h : x.length ≤ 0
  · rw [cp_empty_of h, cp_empty_of (Nat.le_trans (Txt.slice_le x _ _) h)]; rfl
  · have e := eq_of_beq (slice_closes_toL (x := x) (j := 1) (by decide) (by omega))
    rw [e]
    simp [cp]
theorem slice_from1 (x : Str) : cp (Txt.slice x (some 1) none) = (cp x).tail := by
  by_cases h : x.length ≤ 0
  · rw [cp_empty_of h, cp_empty_of (Nat.le_trans (Txt.slice_le x _ _) h)]; rfl
  · rw [slice_drop x 1 (by decide) (by omega)]
    simp
theorem slice_back (x : Str) (k : Nat) (hk : 1 ≤ k) : cp (Txt.slice x (some (-(k : Int))) none) = (cp x).drop (x.length - k) := by
  rw [slice_from_neg (by omega), slice_drop x _ (by omega) (by omega)]
  congr 1
  omega
theorem head_dot (a : Str) : (Txt.slice a none (some 1) == Str.ofString ".") = decide ((cp a).head? = some 46) := by
  have h := slice1 a
  rw [S_dot]
  cases q : cp a with
  | nil =>
    rw [q] at h
    rw [beq_eq_false_iff_ne.mpr]
    · rfl
    · intro e; rw [e] at h; cases h
  | cons c r =>
    rw [q] at h
    by_cases hc : c = 46
    · subst hc
      have e1 : decide ((46 :: r).head? = some 46) = true := decide_eq_true rfl
      rw [e1, beq_iff_eq]
      apply Str.ext'
      apply Array.toList_inj.mp
      exact h
    · rw [beq_eq_false_iff_ne.mpr]
      · symm; apply decide_eq_false; simpa using hc
      · intro e
        rw [e] at h
        have : [46] = [c] := h
        simp at this
        exact hc this.symm
end Mine

end

/-! HC02 -/
section
open PySem PySem.W PyProof.Rows
set_option maxHeartbeats 3000000
namespace Mine
local macro_rules | `(tactic| walk_at "execs cons") => `(tactic| first | (k_here; k_gentoks) | ((with_reducible refine wpAny_execs_cons ?_); (try dsimp only)))
local macro_rules | `(tactic| walk_at "pyIter ref") => `(tactic| (k_here; (with_reducible show wpAny _ _ (pyIter (Value.ref _)) (fun it s₂ => LoopAtV _ _ _ _ _ (Str.ofString "row") _ _ _ it s₂) _ _); (rename Fr _ _ _ _ => lF'); (rename News _ _ _ _ => lN'); (rename cp _ = streamN _ => kst); (rename ¬ (_ : List (List Nat)) = [] => kne); with_unfolding_all (refine' iter_H (by rfl) (by rfl) (by assumption) kst kne (by assumption) lF' lN' ?klt ?kltr (by rfl) ?kturn ?kdone); (case klt => (rename (_ ∧ AllLt _ _) => kq; exact kq.1)); (case kltr => exact allLt_of (by assumption)); (case' kturn => (clear lF' lN'; intro kvs kI ka kt kds kcn kD kus kws kn kT ku kh ktk kIt koI kown kMark kat ki kal kdl kwl klt klD klh krh krD kSt kInv kOff kIn kFr kNews; (simp only [List.map_cons, List.map_nil, List.cons_append, List.nil_append] at kOff kNews))); (case' kdone => (clear lF' lN'; intro kvs kds kcn kD kus kws kn kT kRs ku kh ktk kMark kTab kRow kOff kFr kNews kSt; (simp only [List.map_cons, List.map_nil, List.cons_append, List.nil_append] at kOff kNews))); (all_goals (try k_fold))))
local macro_rules | `(tactic| walk_at "call builtin:list.append") => `(tactic| (k_here; (with_reducible show wpAny _ _ (call (Value.builtin "list.append") [Value.ref _, _]) _ _ _); (rename Fr _ _ _ _ => lF'); (rename News _ _ _ _ => lN'); k_dflt (first
  | refine' append_K lF' lN' (upd_heard (by assumption) (by assumption) (by assumption) (by assumption)) ?_ ?kz
  | refine' append_K lF' lN' (upd_D (by assumption) (by assumption) (by assumption) (by assumption)) ?_ ?kz); (case kz => (rename StrsAre _ _ => kSz; have kSl := kSz.length; rw [List.size_toArray]; show _ ≤ 2 ^ 24; omega)); intro h' F' N'; (try simp only [List.push_toArray] at N')))
theorem hear_call (w : World) (mean : ExcName → Option Value) (mg mb : Str → Option Value) (loose : List Str) (ns : List Int) (x : Str) (t : Tok) (news : List (Addr × Obj)) (ms : List (List Nat)) (dp un : Nat) (gd : Option (List Code)) (cn : Str) (cs : Scope) (a : Addr) (ccd : Value) (cl : List (Str × Addr)) (outer : List Env) (A₀ : Around) (base h₀ : Heap) (L : Addr) (m : Str → Option Value) (s : Shared) (Q E : Value → Shared → Prop)
    (B : Below A₀ base outer h₀) (F : Fr h₀ L s.heap m) (X : (hd.heap_39 w.params).In h₀) (N : News h₀ L s.heap news) (T : Top hd.view_39 loose mean mg mb h₀) (hk : cs.kind = .function) (hx : cp x = streamN ms) (hne : ¬ ms = []) (hlen : x.length ≤ 1600) (hdp : dp + 1 < recursionLimit) (hun : un + 8 < cLine)
    (hret : ∀ D ds Rs n T e1 e2 h' tk, Tab ds Rs T → Rs.map nat = ms.map rowsN → Fr h₀ L h' m → News h₀ L h' ((D, PySem.W.listOf ds.toArray n) :: e1 :: e2 :: (news ++ T)) → Q (.ref D) { s with heap := h', toks := tk }) (hL : (PyData.list (List.map PyData.int ns)).layable0 = true) :
    wpAny (model PySem.Challenge.rw_dn0159_02.row.prog w) (ktrTop dp un gd cn cs L a ccd cl outer) (call (.ref 62) [.str x t]) Q E s := by
  w_top off
  revert X; k_fill; intro X
  (k_with "pyIter ref" => fail "none")
  have kMark : KstMark := kstMark
  refine wpAny_call ?_
  k_dflt cell_enter
  k_steps
  all_goals first
    | exact hret _ _ _ _ _ _ _ _ _ (by assumption) (by assumption) (by assumption) (by assumption)
    | exact end_dot (by assumption) (by assumption) (by assumption) (by assumption) (by assumption) (by assumption) (by assumption) (by assumption) (by assumption) (by assumption) (by assumption) (by assumption) (by assumption) (by rfl) (by kst_same)
    | exact end_add (by assumption) (by assumption) (by assumption) (by assumption) (by assumption) (by assumption) (by assumption) (by assumption) (by assumption) (by assumption) (hear_stuffed (by assumption) (by assumption) (by assumption) (of_decide_eq_true ((head_dot _).symm.trans (by assumption))) (slice_from1 _)) (by rfl) (by kst_same)
    | exact end_add (by assumption) (by assumption) (by assumption) (by assumption) (by assumption) (by assumption) (by assumption) (by assumption) (by assumption) (by assumption) (hear_plain (by assumption) (by assumption) (by assumption) (of_decide_eq_false ((head_dot _).symm.trans (by assumption)))) (by rfl) (by kst_same)
end Mine

end

/-! S02 -/
section
open PySem PySem.W PySem.Calls PyProof.Rows
namespace Mine
/-! the loop over a message's rows: the size -/
def cost1 (r : Str) : Int := (r.length : Int) + 2 + if (cp r).head? = some 46 then 1 else 0
def costs (ws : List Str) : Int := (ws.map cost1).sum
theorem costs_snoc (ws : List Str) (r : Str) : costs (ws ++ [r]) = costs ws + cost1 r := by simp [costs]
theorem costs_nat (ws : List Str) : costs ws = (((nat ws).map fun r => r.length + 2 + (if r.head? = some 46 then 1 else 0)).sum : Nat) := by
  induction ws with
  | nil => rfl
  | cons r q ih =>
    have e : costs (r :: q) = cost1 r + costs q := by simp [costs]
    rw [e, ih]
    simp only [nat, List.map_cons, List.sum_cons, cost1, cp_length]
    split <;> simp <;> omega
structure SizeC where
  sz : Int
  t : Tok
section
variable {prog : Program} {w : World} {A : Around} {E : Value → Shared → Prop} {s : Shared} {env : Env} {h₀ : Heap} {body : List Stmt} {Q : Flow → Shared → Prop}
def sizeRD (led : List (Addr × Obj)) (m₀ : Str → Option Value) : RD SizeC :=
  { Led := fun _ => led
    ps := fun c => [(Str.ofString "size", .int c.sz c.t)]
    stored := []
    m₀ := m₀ }
def sizeP (sz₀ : Int) (ws : List Str) (i : Nat) (c : SizeC) (T : List (Addr × Obj)) : Prop := T = [] ∧ c.sz = sz₀ + costs (ws.take i)
theorem iter_S {D : Addr} {vs : List Value} {n : Nat} {ws : List Str} {news : List (Addr × Obj)} {m₀ : Str → Option Value} {sz₀ : Int} {t₀ : Tok}
    (hh : A.handled = none) (hD : (D, PySem.W.listOf vs.toArray n) ∈ news) (hS : StrsAre vs ws) (hw : ∀ r ∈ ws, r.length ≤ 96) (F : Fr h₀ env.locals s.heap m₀) (N : News h₀ env.locals s.heap news) (k1 : m₀ (Str.ofString "size") = some (.int sz₀ t₀))
    (turn : ∀ i a t sz t1 (u : Str → Option Value) h tk I oI own, KstMark → ws[i]? = some a → a.length ≤ 96 → sz = sz₀ + costs (ws.take i) → OwnOff own (news.map (·.1)) → InOwn [] I oI own →
      Fr h₀ env.locals h (fun y => if y = Str.ofString "row" then some (.str a t) else if y = Str.ofString "size" then some (.int sz t1) else if ([] : List Str).contains y then u y else m₀ y) → News h₀ env.locals h (news ++ own) →
      wpAny (model prog w) A (execs body env) (Mine.InvPostN h₀ env.locals (sizeRD news m₀) (Str.ofString "row") (sizeP sz₀ ws (i + 1)) [] I own { s with heap := h, toks := tk } Q) E { s with heap := h, toks := tk })
    (done : ∀ sz t1 (u : Str → Option Value) h tk, KstMark → sz = sz₀ + costs ws →
      Fr h₀ env.locals h (fun y => if y = Str.ofString "row" then u y else if y = Str.ofString "size" then some (.int sz t1) else if ([] : List Str).contains y then u y else m₀ y) → News h₀ env.locals h news → Q .next { s with heap := h, toks := tk }) :
    wpAny (model prog w) A (pyIter (.ref D)) (fun it s₂ => LoopAtV prog w A h₀ env (Str.ofString "row") body Q E it s₂) E s := by
  have hlen := hS.length
  refine iter_R (l := D) (vs := vs) (nn := n) (sizeRD news m₀) (fun i c T => sizeP sz₀ ws i c T) ⟨sz₀, t₀⟩ hh (fun _ => hD) F N ?_ ⟨rfl, by simp [costs]⟩ ?_ ?_
  · intro p hp
    rw [List.mem_singleton.mp hp]; exact k1
  · rintro i v ⟨sz, t1⟩ T u h tk I oI own hv ⟨rfl, e⟩ hoff hin F₁ N₁
    have hil : i < ws.length := by
      have := (List.getElem?_eq_some_iff.mp hv).1
      omega
    obtain ⟨a, t, ha, rfl⟩ : ∃ a t, ws[i]? = some a ∧ v = .str a t := by
      obtain ⟨t, ht⟩ := hS.get i ws[i] (by simp [hil])
      exact ⟨ws[i], t, by simp [hil], by rw [hv] at ht; exact Option.some.inj ht⟩
    exact turn i a t sz t1 u h tk I oI own kstMark ha (hw a (List.mem_of_getElem? ha)) e hoff hin F₁ N₁
  · rintro ⟨sz, t1⟩ T u h tk ⟨rfl, e⟩ hoff F₁ N₁
    refine done sz t1 u h tk kstMark ?_ F₁ (by simpa [sizeRD] using N₁)
    change sz = sz₀ + costs (ws.take vs.length) at e
    rw [hlen, List.take_length] at e
    exact e
end
section
variable {h₀ h' : Heap} {L I : Addr} {m' m₀ : Str → Option Value} {ws : List Str} {i tk : Nat} {news own : List (Addr × Obj)} {oI : Obj} {a : Str} {t : Tok} {sz sz' sz₀ : Int} {s₁ : Shared} {Q : Flow → Shared → Prop}
theorem take_snoc {a : Str} (h : ws[i]? = some a) : ws.take (i + 1) = ws.take i ++ [a] := by simp [List.take_add_one, h]
theorem end_size (F : Fr h₀ L h' m') (N : News h₀ L h' (news ++ own)) (hoff : OwnOff own (news.map (·.1))) (hin : InOwn [] I oI own) (ha : ws[i]? = some a) (e : sz = sz₀ + costs (ws.take i)) (e' : sz' = sz + cost1 a)
    (k1 : m' (Str.ofString "size") = some (.int sz' t)) (k2 : ∀ z, z ≠ Str.ofString "row" → (∀ p ∈ [(Str.ofString "size", Value.int sz' t)], z ≠ p.1) → ([] : List Str).contains z = false → m' z = m₀ z) :
    Mine.InvPostN h₀ L (sizeRD news m₀) (Str.ofString "row") (sizeP sz₀ ws (i + 1)) [] I own s₁ Q .next { s₁ with heap := h', toks := tk } := by
  refine endR_same (R := sizeRD news m₀) ⟨sz', t⟩ F N hin (fun p hp => List.mem_append.mpr (.inl hp)) (fun p hp => List.mem_append.mpr (.inr hp)) hoff ?_ k2 ⟨rfl, ?_⟩
  · intro p hp
    rw [List.mem_singleton.mp hp]; exact k1
  · show sz' = sz₀ + costs (ws.take (i + 1))
    rw [take_snoc ha, costs_snoc, e', e]; omega
theorem cost_dot (h : (Txt.slice a none (some 1) == Str.ofString ".") = true) : sz + ((a.length : Int) + 2) + 1 = sz + cost1 a := by
  have := of_decide_eq_true ((head_dot a).symm.trans h)
  rw [cost1, if_pos this]; omega
theorem cost_plain (h : (Txt.slice a none (some 1) == Str.ofString ".") = false) : sz + ((a.length : Int) + 2) = sz + cost1 a := by
  have := of_decide_eq_false ((head_dot a).symm.trans h)
  rw [cost1, if_neg this]; omega
end
end Mine

end

/-! E02 -/
section
open PySem PySem.W PySem.Calls PyProof.Rows
namespace Mine
/-! tables compared; the turn's end; the law's end -/
def dat (R : List (List Str)) : List Dat := R.map fun ws => Dat.list (ws.map Dat.str)
theorem dat_strs {news : List (Addr × Obj)} : ∀ {us : List Value} {ws : List Str}, StrsAre us ws → DatAll news us (ws.map Dat.str)
  | _, _, .nil => .nil
  | _, _, .cons x t r => .cons (.str x t) (dat_strs r)
theorem datAll_append {news : List (Addr × Obj)} {d : Dat} {v : Value} (h2 : DatIn news v d) : ∀ {us : List Value} {ds : List Dat}, DatAll news us ds → DatAll news (us ++ [v]) (ds ++ [d])
  | _, _, .nil => .cons h2 .nil
  | _, _, .cons a r => .cons a (datAll_append h2 r)
theorem tab_dat {ds : List Value} {R : List (List Str)} {T : List (Addr × Obj)} (h : Tab ds R T) : DatAll T ds (dat R) := by
  induction h with
  | nil => exact .nil
  | snoc D us ws n t hs ih =>
    have e : ∀ R, dat (R ++ [ws]) = dat R ++ [Dat.list (ws.map Dat.str)] := fun R => by simp [dat]
    rw [e]
    exact datAll_append (.list (.head _) (dat_strs hs)) (ih.mono fun p hp => .tail _ hp)
theorem cp_inj {x y : Str} (h : cp x = cp y) : x = y := by
  apply Str.ext'
  apply Array.toList_inj.mp
  exact h
theorem nat_inj : ∀ {a b : List Str}, nat a = nat b → a = b
  | [], [], _ => rfl
  | [], _ :: _, h => by cases h
  | _ :: _, [], h => by cases h
  | x :: a, y :: b, h => by
    simp only [nat, List.map_cons, List.cons.injEq] at h
    rw [cp_inj h.1, nat_inj (a := a) (b := b) h.2]
theorem nats_inj : ∀ {a b : List (List Str)}, a.map nat = b.map nat → a = b
  | [], [], _ => rfl
  | [], _ :: _, h => by cases h
  | _ :: _, [], h => by cases h
  | x :: a, y :: b, h => by
    simp only [List.map_cons, List.cons.injEq] at h
    rw [nat_inj h.1, nats_inj h.2]
/-- the signs of a text's rows are the text's -/
theorem rowStep_mem {a : Option Nat} {rs : Rows} {c : Nat} : ∀ r ∈ rowStep a rs c, ∀ d ∈ r, d = c ∨ ∃ r' ∈ rs, d ∈ r' := by
  intro r hr d hd
  unfold rowStep at hr
  split at hr
  · rcases List.mem_append.mp hr with hr | hr
    · exact .inr ⟨r, hr, hd⟩
    · rw [List.mem_singleton.mp hr] at hd; cases hd
  · split at hr
    · rcases List.mem_append.mp hr with hr | hr
      · exact .inr ⟨r, List.dropLast_subset _ hr, hd⟩
      · rw [List.mem_singleton.mp hr] at hd
        rcases List.mem_append.mp hd with hd | hd
        · by_cases hn : rs = []
          · subst hn; cases hd
          · refine .inr ⟨rs.getLast hn, List.getLast_mem hn, ?_⟩
            rw [List.getLastD_eq_getLast?, List.getLast?_eq_some_getLast hn] at hd
            exact hd
        · exact .inl (List.mem_singleton.mp hd)
    · exact .inr ⟨r, hr, hd⟩
theorem rowsFrom_mem : ∀ (l : List Nat) (a : Option Nat) (rs : Rows), ∀ r ∈ rowsFrom a rs l, ∀ d ∈ r, d ∈ l ∨ ∃ r' ∈ rs, d ∈ r'
  | [], _, _, r, hr, d, hd => .inr ⟨r, hr, hd⟩
  | c :: q, a, rs, r, hr, d, hd => by
    rw [rowsFrom] at hr
    rcases rowsFrom_mem q _ _ r hr d hd with h | ⟨r', hr', hd'⟩
    · exact .inl (.tail _ h)
    · rcases rowStep_mem r' hr' d hd' with h | h
      · exact .inl (h ▸ .head _)
      · exact .inr h
theorem rowsN_mem (l : List Nat) : ∀ r ∈ rowsN l, ∀ d ∈ r, d ∈ l := by
  intro r hr d hd
  have hr' : r ∈ rowsFrom none [[]] l := by
    unfold rowsN trim at hr
    split at hr
    · exact List.dropLast_subset _ hr
    · exact hr
  rcases rowsFrom_mem l none [[]] r hr' d hd with h | ⟨r', h1, h2⟩
  · exact h
  · rw [List.mem_singleton.mp h1] at h2; cases h2
theorem ok_iff (x : Str) : okS x ↔ ∀ c ∈ cp x, c < 0x110000 := by
  unfold okS PyData.strOk cp
  rw [Array.all_eq_true']
  simp
theorem ok_rows {ws : List Str} {R : List (List Str)} {k : Nat} (hM : Msgs k ws) (h : R.map nat = (nat ws).map rowsN) : ∀ rs ∈ R, ∀ x ∈ rs, okS x := by
  intro rs hrs x hx
  have h1 : nat rs ∈ (nat ws).map rowsN := by rw [← h]; exact List.mem_map.mpr ⟨rs, hrs, rfl⟩
  obtain ⟨l, hl, e⟩ := List.mem_map.mp h1
  obtain ⟨m, hm, rfl⟩ := List.mem_map.mp hl
  have h2 : cp x ∈ rowsN (cp m) := by rw [e]; exact List.mem_map.mpr ⟨x, hx, rfl⟩
  rw [ok_iff]
  intro c hc
  exact (ok_iff m).mp (hM m hm).2 c (rowsN_mem _ _ h2 c hc)
section
variable {prog : Program} {w : World} {A : Around} {E : Value → Shared → Prop} {s : Shared} {h₀ : Heap} {L a b : Addr} {news T1 T2 : List (Addr × Obj)} {xs ys : List Value} {ka kb : Nat} {R R' : List (List Str)} {Q : Value → Shared → Prop}
theorem dat_ok (ok : ∀ rs ∈ R, ∀ x ∈ rs, okS x) : ∀ d ∈ dat R, kqdOk 8 d = true := by
  intro d hd
  obtain ⟨rs, hrs, rfl⟩ := List.mem_map.mp hd
  show (rs.map Dat.str).all (kqdOk 7) = true
  rw [List.all_eq_true]
  intro e he
  obtain ⟨x, hx, rfl⟩ := List.mem_map.mp he
  exact ok rs hrs x hx
theorem eq_tabs (N : News h₀ L s.heap news) (ma : (a, PySem.W.listOf xs.toArray ka) ∈ news) (mb : (b, PySem.W.listOf ys.toArray kb) ∈ news) (ta : Tab xs R T1) (tb : Tab ys R' T2) (sa : ∀ p ∈ T1, p ∈ news) (sb : ∀ p ∈ T2, p ∈ news)
    (e : R.map nat = R'.map nat) (ok : ∀ rs ∈ R', ∀ x ∈ rs, okS x) (hu : A.units + 64 < cLine) (h : Q (.bool true) s) : wpAny (model prog w) A (compareOp .Eq (.ref a) (.ref b)) Q E s := by
  have e := nats_inj e
  subst e
  refine kqd_eq N ma rfl rfl (tab_dat ta) sa mb rfl rfl (tab_dat tb) sb (dat_ok ok) (dat_ok ok) hu ?_
  have e0 : ∀ inst : Decidable (dat R = dat R), @decide _ inst = true := fun inst => @decide_eq_true _ inst rfl
  rw [e0]
  exact h
end
/-! what a turn of the sending loop makes -/
theorem take_snocS {ws : List Str} {i : Nat} {a : Str} (h : ws[i]? = some a) : ws.take (i + 1) = ws.take i ++ [a] := by simp [List.take_add_one, h]
theorem streamN_snoc (ms : List (List Nat)) (l : List Nat) : streamN (ms ++ [l]) = streamN ms ++ ((quoteN l ++ (if isEnd l then [] else [13, 10])) ++ [46, 13, 10]) := by simp [streamN]
theorem sizeN_snoc (ms : List (List Nat)) (l : List Nat) : sizeN (ms ++ [l]) = sizeN ms + (3 + ((rowsN l).map fun r => r.length + 2 + (if r.head? = some 46 then 1 else 0)).sum) := by simp [sizeN]
/-- the last sign of a text -/
theorem isEnd_of (a : Str) : ([Str.ofString "\r", Str.ofString "\n"].any fun x => x == Txt.slice a (some (-1)) none) = isEnd (cp a) := by
  have h := slice_back a 1 (Nat.le_refl 1)
  have hs : ∀ x y : Str, (x == y) = decide (cp x = cp y) := by
    intro x y
    by_cases q : cp x = cp y
    · rw [decide_eq_true q, cp_inj q, beq_self_eq_true]
    · rw [decide_eq_false q, beq_eq_false_iff_ne]
      intro e; exact q (by rw [e])
  simp only [List.any_cons, List.any_nil, Bool.or_false]
  rw [hs, hs]
  have h' : cp (Txt.slice a (some (-1)) none) = (cp a).drop (a.length - 1) := h
  rw [h', ← cp_length a]
  rcases List.eq_nil_or_concat (cp a) with q | ⟨r, c, q⟩
  · rw [q]; simp [isEnd, S_cr, S_lf, cp]
  · rw [q]
    have : (r.concat c).drop ((r.concat c).length - 1) = [c] := by simp
    rw [this]
    simp only [isEnd, List.concat_eq_append, List.getLast?_concat, S_cr, S_lf, cp]
    by_cases h1 : c = 13
    · subst h1; rfl
    · by_cases h2 : c = 10
      · subst h2; rfl
      · simp [h1, h2, Ne.symm h1, Ne.symm h2]
theorem cp_quote (a : Str) : cp (dotS (fixS a)) = quoteN (cp a) := rfl
theorem beq_cp (x y : Str) : (x == y) = decide (cp x = cp y) := by
  by_cases q : cp x = cp y
  · rw [decide_eq_true q, cp_inj q, beq_self_eq_true]
  · rw [decide_eq_false q, beq_eq_false_iff_ne]
    intro e; exact q (by rw [e])
theorem quoted_ends (a : Str) : (Txt.slice (dotS (fixS a)) (some (-2)) none == Str.ofString "\r\n") = isEnd (cp a) := by
  have h := slice_back (dotS (fixS a)) 2 (by decide)
  have h' : cp (Txt.slice (dotS (fixS a)) (some (-2)) none) = (cp (dotS (fixS a))).drop ((dotS (fixS a)).length - 2) := h
  rw [beq_cp, h', ← cp_length, cp_quote, S_crlf]
  have he := quote_end (cp a)
  cases q : isEnd (cp a) with
  | true =>
    obtain ⟨r, hr⟩ := he.1 q
    rw [hr]
    apply decide_eq_true
    have : (r ++ [13, 10]).length - 2 = r.length := by simp
    rw [this, List.drop_left]; rfl
  | false =>
    apply decide_eq_false
    intro e
    have e2 : cp ⟨#[13, 10]⟩ = [13, 10] := rfl
    rw [e2] at e
    rcases he.2 q with h0 | ⟨r, c, hr, hc⟩
    · rw [h0] at e; cases e
    · rw [hr] at e
      have g := congrArg List.getLast? e
      have hl : 2 ≤ (r ++ [c]).length := by
        have := congrArg List.length e
        simp at this ⊢; omega
      have e3 : ((r ++ [c]).drop ((r ++ [c]).length - 2)).getLast? = some c := by
        rw [List.getLast?_drop, if_neg (by omega)]
        simp
      rw [e3] at g
      simp at g
      exact hc g
theorem quoted_ok (a : Str) : ((Txt.slice (dotS (fixS a)) (some (-2)) none == Str.ofString "\r\n") != [Str.ofString "\r", Str.ofString "\n"].any fun x => x == Txt.slice a (some (-1)) none) = false := by
  rw [quoted_ends, isEnd_of]
  cases isEnd (cp a) <;> rfl
theorem S_dcrlf : cp (Str.ofString ".\r\n") = [46, 13, 10] := by decide +kernel
theorem S_crlf' : cp (Str.ofString "\r\n") = [13, 10] := by decide +kernel
section
variable {ws : List Str} {i : Nat} {a st : Str} {sz sz' : Int} {ds vs : List Value} {rows : List Str} {T : List (Addr × Obj)} {D : Addr} {n : Nat}
theorem sent_more (hs : Sent ws i st sz ds T) (ha : ws[i]? = some a) (hS : StrsAre vs rows) (hr : nat rows = rowsN (cp a)) (hz : sz' = sz + 3 + costs rows) {q : Str} (hq : cp q = quoteN (cp a) ++ (if isEnd (cp a) then [] else [13, 10])) :
    Sent ws (i + 1) (st ++ (q ++ Str.ofString ".\r\n")) sz' (ds ++ [.ref D]) ((D, PySem.W.listOf vs.toArray n) :: T) := by
  obtain ⟨h1, h2, R, t, h3⟩ := hs
  have e : nat (ws.take (i + 1)) = nat (ws.take i) ++ [cp a] := by rw [take_snocS ha]; simp [nat]
  refine ⟨?_, ?_, R ++ [rows], .snoc D vs rows n t hS, ?_⟩
  · rw [e, streamN_snoc, ← h1, cp_append, cp_append, hq, S_dcrlf]
  · rw [e, sizeN_snoc, hz, h2, costs_nat, hr]; push_cast; omega
  · rw [e, List.map_append, List.map_append, h3]
    simp [hr]
theorem q_end (h : ([Str.ofString "\r", Str.ofString "\n"].any fun x => x == Txt.slice a (some (-1)) none) = true) : cp (dotS (fixS a)) = quoteN (cp a) ++ (if isEnd (cp a) then [] else [13, 10]) := by
  rw [isEnd_of] at h
  rw [h, cp_quote]; simp
theorem q_open (h : ([Str.ofString "\r", Str.ofString "\n"].any fun x => x == Txt.slice a (some (-1)) none) = false) : cp (dotS (fixS a) ++ Str.ofString "\r\n") = quoteN (cp a) ++ (if isEnd (cp a) then [] else [13, 10]) := by
  rw [isEnd_of] at h
  rw [h, cp_append, cp_quote, S_crlf']; rfl
end
section
variable {h₀ h' : Heap} {L due msgs rD I : Addr} {m' m₀ : Str → Option Value} {ds vs rvs : List Value} {ws rws : List Str} {cn nn rn i tk : Nat} {p q o1 : Addr × Obj} {own T : List (Addr × Obj)} {oI : Obj} {a st qd : Str} {t1 t2 : Tok} {sz sz' : Int} {s₁ : Shared} {Q : Flow → Shared → Prop}
theorem end_sent (F : Fr h₀ L h' m') (N : News h₀ L h' ((rD, PySem.W.listOf rvs.toArray rn) :: o1 :: (due, PySem.W.listOf (ds.toArray.push (Value.ref rD)) (cn + 1)) :: (msgs, PySem.W.listOf vs.toArray nn) :: p :: q :: own))
    (rlt : o1.1 < rD ∧ due < rD ∧ msgs < rD ∧ p.1 < rD ∧ q.1 < rD ∧ AllLt rD own) (hoff : OwnOff own [due, msgs, p.1, q.1]) (hin : InOwn T I oI own) (hd : ds.length = i) (hst : st.length ≤ 400 * i) (hqd : qd.length ≤ 386)
    (hS : Sent ws i st sz ds T) (hat : ws[i]? = some a) (rS : StrsAre rvs rws) (rN : nat rws = rowsN (cp a)) (ke : sz' = sz + 3 + costs rws) (hq : cp qd = quoteN (cp a) ++ (if isEnd (cp a) then [] else [13, 10]))
    (k1 : m' (Str.ofString "stream") = some (.str (st ++ (qd ++ Str.ofString ".\r\n")) t1)) (k3 : m' (Str.ofString "size") = some (.int sz' t2))
    (k2 : ∀ z, z ≠ Str.ofString "message" → (∀ r ∈ [(Str.ofString "stream", Value.str (st ++ (qd ++ Str.ofString ".\r\n")) t1), (Str.ofString "size", Value.int sz' t2)], z ≠ r.1) → [Str.ofString "quoted", Str.ofString "ended", Str.ofString "rows", Str.ofString "row"].contains z = false → m' z = m₀ z) :
    Mine.InvPostN h₀ L (sentRD due msgs vs nn [p, q] m₀) (Str.ofString "message") (sentP ws (i + 1)) T I own s₁ Q .next { s₁ with heap := h', toks := tk } := by
  obtain ⟨q1, q2, q3, q4, q5, q6⟩ := rlt
  refine endR_one (R := sentRD due msgs vs nn [p, q] m₀) ⟨st ++ (qd ++ Str.ofString ".\r\n"), t1, sz', t2, ds ++ [.ref rD], cn + 1⟩ rD (PySem.W.listOf rvs.toArray rn) F N hin ?_ ?_ ?_ ?_ ?_ ?_ ?_ k2 ?_
  · intro r hr
    have e : PySem.W.listOf (ds ++ [Value.ref rD]).toArray (cn + 1) = PySem.W.listOf (ds.toArray.push (Value.ref rD)) (cn + 1) := by simp
    rcases List.mem_cons.mp hr with rfl | hr
    · show (due, PySem.W.listOf (ds ++ [Value.ref rD]).toArray (cn + 1)) ∈ _
      rw [e]; exact .tail _ (.tail _ (.head _))
    · exact .tail _ (.tail _ (.tail _ (by
        rcases List.mem_cons.mp hr with rfl | hr
        · exact .head _
        rcases List.mem_cons.mp hr with rfl | hr
        · exact .tail _ (.head _)
        · rw [List.mem_singleton.mp hr]; exact .tail _ (.tail _ (.head _)))))
  · intro r hr
    exact .tail _ (.tail _ (.tail _ (.tail _ (.tail _ (.tail _ hr)))))
  · exact .head _
  · exact hoff
  · exact fun r hr => Nat.ne_of_lt (allLt_mem q6 r hr)
  · intro b hb
    have hb' : b ∈ [due, msgs, p.1, q.1] := hb
    rcases List.mem_cons.mp hb' with rfl | hb'
    · exact Nat.ne_of_gt q2
    rcases List.mem_cons.mp hb' with rfl | hb'
    · exact Nat.ne_of_gt q3
    rcases List.mem_cons.mp hb' with rfl | hb'
    · exact Nat.ne_of_gt q4
    · rw [List.mem_singleton.mp hb']; exact Nat.ne_of_gt q5
  · intro r hr
    rcases List.mem_cons.mp hr with rfl | hr
    · exact k1
    · rw [List.mem_singleton.mp hr]; exact k3
  · refine ⟨by simp; omega, ?_, sent_more hS hat rS rN ke hq⟩
    show (st ++ (qd ++ Str.ofString ".\r\n")).length ≤ 400 * (i + 1)
    have := lit_dcrlf
    rw [Str.length_append, Str.length_append]
    omega
end
theorem len_quote {a : Str} (h1 : (dotS (fixS a)).length ≤ 2 * (fixS a).length) (h2 : (fixS a).length ≤ 2 * a.length) (h3 : a.length ≤ 96) : (dotS (fixS a)).length ≤ 386 := by omega
theorem len_quote2 {a : Str} (h1 : (dotS (fixS a)).length ≤ 2 * (fixS a).length) (h2 : (fixS a).length ≤ 2 * a.length) (h3 : a.length ≤ 96) : (dotS (fixS a) ++ Str.ofString "\r\n").length ≤ 386 := by
  have := lit_crlf
  rw [Str.length_append]; omega
end Mine

end

/-! A02 -/
open PySem PySem.W PyProof.Rows
namespace Mine
theorem nat_ne {ws : List Str} (h : 1 ≤ ws.length) : ¬ nat (ws.take ws.length) = [] := by
  rw [List.take_length]
  intro e
  have := congrArg List.length e
  simp [nat] at this
  rw [this] at h
  simp at h
theorem ret_false {a : Str} {P : Prop} (h : ((Txt.slice (dotS (fixS a)) (some (-2)) none == Str.ofString "\r\n") != [Str.ofString "\r", Str.ofString "\n"].any fun x => x == Txt.slice a (some (-1)) none) = true) : P := by
  rw [quoted_ok] at h; cases h
theorem fin_size {ws : List Str} {st : Str} {sz : Int} (h1 : cp st = streamN (nat (ws.take ws.length))) (h2 : sz = (sizeN (nat (ws.take ws.length)) : Int)) : (st.length : Int) = sz := by
  rw [h2, ← size_all, ← h1, cp_length]
theorem fin_ok {ws : List Str} {R : List (List Str)} {k : Nat} (hM : Msgs k ws) (h : R.map nat = (nat (ws.take ws.length)).map rowsN) : ∀ rs ∈ R, ∀ x ∈ rs, okS x := by
  rw [List.take_length] at h
  exact ok_rows hM h
end Mine
local macro_rules | `(tactic| walk_at "execs cons") => `(tactic| first | (k_here; k_gentoks) | ((with_reducible refine wpAny_execs_cons ?_); (try dsimp only)))
local macro_rules | `(tactic| walk_at "getMethod ref") => `(tactic| (k_here; (with_reducible show wpAny _ _ (getMethod (Value.ref _) (Str.ofString "sub") _) _ _ _); (rename Frag.In _ _ => kX'); (rename Fr _ _ _ _ => kF'); k_dflt (refine Mine.getMethod_sub (Fr.keep kF' _ _ (kX' _ _ (by with_unfolding_all rfl))) ?_)))
local macro_rules | `(tactic| walk_at "call builtin:re.Pattern.sub") => `(tactic| (k_here; (rename Frag.In _ _ => kX'); (rename Fr _ _ _ _ => kF'); (rename News _ _ _ _ => kN'); k_dflt (first
  | (refine Mine.call_fix kF' kN' (kX' 41 _ (by with_unfolding_all rfl)) (kX' 40 _ (by with_unfolding_all rfl)) (by decide +kernel) (by omega) ?_; intro h' t' tk' hLen' F' N')
  | (refine Mine.call_dot kF' kN' (kX' 36 _ (by with_unfolding_all rfl)) (kX' 35 _ (by with_unfolding_all rfl)) (by decide +kernel) (by omega) ?_; intro h' t' tk' hLen' F' N'))))
local macro_rules | `(tactic| walk_at "getItem ref int") => `(tactic| (k_here; (with_reducible show wpAny _ _ (getItem (Value.ref _) (Value.int (-1) _)) _ _ _); k_dflt (refine' Mine.get_last ?k1 ?k2 ?k3 ?k4 ?_; (case k1 => k_asm); (case k2 => k_mem); (case k3 => with_reducible assumption); (case k4 => with_reducible assumption)); intro kt'))
local macro_rules | `(tactic| walk_at "setItem ref int") => `(tactic| (k_here; (with_reducible show wpAny _ _ (setItem (Value.ref _) (Value.int (-1) _) (Value.str _ _)) _ _ _); k_dflt (refine' Mine.set_last ?k1 ?k2 ?k3 ?k4 ?k5 ?_; (case k1 => k_asm); (case k2 => k_asm); (case k5 => k_upd); (case k3 => with_reducible assumption); (case k4 => with_reducible assumption)); intro h' F' N' hS'; (try dsimp only [List.nil_append, List.cons_append] at N')))
local macro_rules | `(tactic| walk_at "inplaceOp Add str str") => `(tactic| (k_here; (with_reducible show wpAny _ _ (inplaceOp Operator.Add (Value.str _ _) (Value.str _ _)) _ _ _); (refine' Mine.iadd2 ?kax ?kay ?kas ?_; (case kax => with_reducible first | assumption | exact Mine.msgs_last (by assumption) (by assumption) | exact Mine.lit_crlf); (case kay => with_reducible first | assumption | exact Mine.piece_len _ | exact Mine.lit_crlf | exact Mine.lit_dcrlf | exact Mine.lit_one _); (case kas => k_dflt omega)); intro t' k' kaLen'))
local macro_rules | `(tactic| walk_at "call ref") => `(tactic| (k_here; (with_reducible show wpAny _ _ (call (Value.ref 55) [Value.str _ _]) _ _ _); k_dflt (refine' Mine.rows_call _ _ _ _ _ _ _ _ _ _ _ _ _ _ _ _ _ _ _ _ _ _ _ _ _ _ ?k1 ?k2 ?k3 ?k4 ?k5 ?kK ?kx ?kd ?ku ?_ ?kL; (case k1 => k_asm); (case k2 => k_asm); (case k3 => k_asm); (case k4 => k_asm); (case k5 => k_asm); (case kK => exact rfl); (case kx => assumption); (case kd => ktr_room); (case ku => ktr_units); (case kL => assumption)); intro rD rvs rws rn h' rtk rS rN rl1 rl2 rlen F' N' rlt; (try k_lt rlt); (try dsimp only); (try k_fold)))
local macro_rules | `(tactic| walk_at "call ref") => `(tactic| (k_here; (with_reducible show wpAny _ _ (call (Value.ref 62) [Value.str _ _]) _ _ _); (rename Mine.Sent _ _ _ _ _ _ => kSent); k_dflt (refine' Mine.hear_call _ _ _ _ _ _ _ _ _ _ _ _ _ _ _ _ _ _ _ _ _ _ _ _ _ _ _ ?k1 ?k2 ?k3 ?k4 ?k5 ?kK kSent.1 ?kn ?kx ?kd ?ku ?_ ?kL; (case k1 => k_asm); (case k2 => k_asm); (case k3 => k_asm); (case k4 => k_asm); (case k5 => k_asm); (case kK => exact rfl); (case kn => (exact Mine.nat_ne (by assumption))); (case kx => assumption); (case kd => ktr_room); (case ku => ktr_units); (case kL => assumption)); intro rD rds rRs rn rT re1 re2 h' rtk rTab rRow F' N'; (try dsimp only); (try k_fold)))
local macro_rules | `(tactic| walk_at "pyIter ref") => `(tactic| (k_here; (with_reducible show wpAny _ _ (pyIter (Value.ref _)) (fun it s₂ => LoopAtV _ _ _ _ _ (Str.ofString "message") _ _ _ it s₂) _ _); (rename Fr _ _ _ _ => lF'); (rename News _ _ _ _ => lN'); (rename Mine.Msgs _ _ => kM'); with_unfolding_all (refine' Mine.iter_B (by rfl) (by assumption) (by assumption) kM' ?kb lF' lN' (by rfl) (by rfl) ?kturn ?kdone); (case kb => (simp only [List.length_take] at *; omega)); (case' kturn => (clear lF' lN'; intro kI ka kt kst kt1 ksz kt2 kds kcn kT ku kh ktk kIt koI kown kMark kat ki ka96 kdl kstl kSent kOff kIn kFr kNews; (simp only [List.map_cons, List.map_nil, List.cons_append, List.nil_append] at kOff kNews))); (case' kdone => (clear lF' lN'; intro kst kt1 ksz kt2 kds kcn kT ku kh ktk kMark kdl kstl kSent kOff kFr kNews; (simp only [List.map_cons, List.map_nil, List.cons_append, List.nil_append] at kOff kNews))); (all_goals (try k_fold))))
local macro_rules | `(tactic| walk_at "pyIter ref") => `(tactic| (k_here; (with_reducible show wpAny _ _ (pyIter (Value.ref _)) (fun it s₂ => LoopAtV _ _ _ _ _ (Str.ofString "row") _ _ _ it s₂) _ _); (rename Fr _ _ _ _ => lF'); (rename News _ _ _ _ => lN'); (rename StrsAre _ _ => rS); with_unfolding_all (refine' Mine.iter_S (by rfl) ?kd rS ?kw lF' lN' (by rfl) ?_ ?_); (case kd => k_dflt k_mem); (case kw => k_dflt assumption); (all_goals (clear lF' lN'; first | (intro kI2 ka2 kt2' ksz2 kt12 ku2 kh2 ktk2 kIt2 koI2 kown2 kMark2 kat2 kal2 ke2 kOff2 kIn2 kFr2 kNews2; (simp only [List.map_cons, List.map_nil, List.cons_append, List.nil_append] at kOff2 kNews2)) | (intro ksz2 kt12 ku2 kh2 ktk2 kMark2 ke2 kFr2 kNews2))); (all_goals (try k_fold))))
local macro_rules | `(tactic| walk_at "compareOp Eq ref ref") => `(tactic| (k_here; (with_reducible show wpAny _ _ (compareOp CmpOp.Eq (Value.ref _) (Value.ref _)) _ _ _); (rename Mine.Tab _ _ _ => rTab); (rename List.map Mine.nat _ = List.map Mine.rowsN _ => rRow); (rename Mine.Sent _ _ _ _ _ _ => kSent); (k_dflt (obtain ⟨kst1, kst2, kR, kTabR, kRR⟩ := kSent)); (have kFin := Mine.fin_size kst1 kst2); (rename Fr _ _ _ _ => lF'); (rename News _ _ _ _ => lN'); k_dflt (refine' Mine.eq_tabs lN' ?k1 ?k2 rTab kTabR ?k3 ?k4 (rRow.trans kRR.symm) (Mine.fin_ok (by assumption) kRR) ?ku ?_; (case k1 => exact List.Mem.head _); (case k2 => exact List.Mem.tail _ (List.Mem.tail _ (List.Mem.tail _ (List.mem_append.mpr (.inl (List.Mem.head _)))))); (case k3 => (intro p hp; simp only [List.mem_cons, List.mem_append, List.cons_append, hp, true_or, or_true])); (case k4 => (intro p hp; simp only [List.mem_cons, List.mem_append, List.cons_append, hp, true_or, or_true])); (case ku => k_units))))
set_option maxHeartbeats 8000000 in
theorem PySem.Challenge.cw_dn0159_02_holds : PySem.Challenge.rw_dn0159_02.Holds := by
  (k_with "pyIter ref" => (k_of "n" => k_state (fun pre messages => messages.length ≤ 4 ∧ 1 ≤ messages.length ∧ Mine.Msgs pre.length messages) "messages$"))
  (k_with "state" => first
    | with_reducible exact Mine.msgs_start
    | (with_reducible exact Mine.msgs_more (by k_dflt omega) (by assumption))
    | (with_reducible exact Mine.msgs_grow (by assumption) (by assumption) (by assumption) (Mine.piece_len _) (Mine.piece_ok _)))
  (k_with "table" => skip)
  refine Mine.hd (by (k_go0; (all_goals try k_fold); k_steps; all_goals first
    | exact Mine.ret_false (by assumption)
    | exact Mine.end_size (by assumption) (by assumption) (by assumption) (by assumption) (by assumption) (by assumption) (Mine.cost_dot (by assumption)) (by rfl) (by kst_same)
    | exact Mine.end_size (by assumption) (by assumption) (by assumption) (by assumption) (by assumption) (by assumption) (Mine.cost_plain (by assumption)) (by rfl) (by kst_same)
    | exact Mine.end_sent (by assumption) (by assumption) (by assumption) (by assumption) (by assumption) (by assumption) (by assumption) (Mine.len_quote (by assumption) (by assumption) (by assumption)) (by assumption) (by assumption) (by assumption) (by assumption) (by assumption) (Mine.q_end (by assumption)) (by rfl) (by rfl) (by kst_same)
    | exact Mine.end_sent (by assumption) (by assumption) (by assumption) (by assumption) (by assumption) (by assumption) (by assumption) (Mine.len_quote2 (by assumption) (by assumption) (by assumption)) (by assumption) (by assumption) (by assumption) (by assumption) (by assumption) (Mine.q_open (by assumption)) (by rfl) (by rfl) (by kst_same)
    | fail "left"))

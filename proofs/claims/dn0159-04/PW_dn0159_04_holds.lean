import PyProof.Rows.All
import Wide.All
import OpenK.AllK
import Wide.FinOn
import PySem.Challenge.RW_dn0159_04
set_option Elab.async false
set_option maxRecDepth 100000

/-! RxPure -/
section
open PySem
namespace Mine
open PySem.Sre

def c1 : Array Nat := #[14, 4, 0, 1, 1, 6, 1, 16, 46, 1]
def c3 : Array Nat := #[14, 9, 4, 1, 2, 16, 10, 16, 13, 0, 7, 7, 16, 13, 16, 10, 15, 18, 5, 16, 10, 15, 13, 11, 16, 13, 5, 5, 0, 16, 10, 1, 15, 2, 0, 1]

theorem runFor_add : ∀ (a b : Nat) (m : M), M.runFor (a + b) m = M.runFor b (M.runFor a m)
  | 0, b, m => by simp [M.runFor]
  | a + 1, b, m => by
    rw [Nat.succ_add]
    show (if m.outcome.isSome then m else M.runFor (a + b) m.step) = M.runFor b (if m.outcome.isSome then m else M.runFor a m.step)
    cases h : m.outcome.isSome with
    | false => simp only [Bool.false_eq_true, if_false]; exact runFor_add a b m.step
    | true =>
      simp only [if_true]
      cases b with
      | zero => rfl
      | succ b => simp [M.runFor, h]
theorem runFor_one {m : M} (h : m.outcome = none) : M.runFor 1 m = m.step := by simp [M.runFor, h]
theorem runFor_done {m : M} (h : m.outcome.isSome = true) : ∀ n, M.runFor n m = m
  | 0 => rfl
  | n + 1 => by simp [M.runFor, h]

/-- m comes to m' within n steps -/
def To (n : Nat) (m m' : M) : Prop := ∃ k, k ≤ n ∧ M.runFor k m = m'
theorem To.refl (m : M) : To 0 m m := ⟨0, Nat.le_refl _, rfl⟩
theorem To.trans {a b : Nat} {m m' m'' : M} (h : To a m m') (h' : To b m' m'') : To (a + b) m m'' := by
  obtain ⟨k, hk, e⟩ := h; obtain ⟨k', hk', e'⟩ := h'
  exact ⟨k + k', by omega, by rw [runFor_add, e, e']⟩
theorem To.step {m m' : M} (ho : m.outcome = none) (h : m.step = m') : To 1 m m' := ⟨1, Nat.le_refl _, by rw [runFor_one ho, h]⟩
theorem To.le {a b : Nat} {m m' : M} (h : To a m m') (hab : a ≤ b) : To b m m' := by
  obtain ⟨k, hk, e⟩ := h; exact ⟨k, by omega, e⟩

/-- a state at the head of an attempt -/
def at1 (t : Array Nat) (s : Nat) (first : Bool) (seen : Seen) : M :=
  { code := c1, text := t, lim := t.size, start := s, lastStart := t.size, pc := 5, pos := s, handed := s, outermost := first, marks := #[],
    frames := [{ wait := .nextStart, pc := 5, pos := s, outermost := first }], weight := 1, seen := seen }

/-- a dot at a row's head -/
def isDot (t : Array Nat) (p : Nat) : Bool := p < t.size && (p == 0 || t.getD (p - 1) 0 == 10) && t.getD p 0 == 46

theorem at1_yes (t : Array Nat) (s : Nat) (first : Bool) (seen : Seen) (h : isDot t s = true) :
    ∃ m', To 5 (at1 t s first seen) m' ∧ m'.outcome = some .matched ∧ m'.start = s ∧ m'.handed = s + 1 := by
  simp only [isDot, Bool.and_eq_true, decide_eq_true_eq] at h
  obtain ⟨⟨h1, h2⟩, h3⟩ := h
  have e1 : (at1 t s first seen).step = { at1 t s first seen with pc := 7, seen := (seen.add 6).add 44 } := by
    simp only [M.step, at1, M.exec, M.word, c1, M.isAt, h2]
    simp [ops]
  have e2 : M.step { at1 t s first seen with pc := 7, seen := (seen.add 6).add 44 } = { at1 t s first seen with pc := 9, pos := s + 1, seen := ((seen.add 6).add 44).add 16 } := by
    have h3' : t.getD s 0 = 46 := by simpa using h3
    simp only [M.step, at1, M.exec, M.word, c1, accepts, itemWidth]
    simp only [h3']
    simp [ops, Nat.not_le.mpr h1]
  have e3 : M.step { at1 t s first seen with pc := 9, pos := s + 1, seen := ((seen.add 6).add 44).add 16 } = { at1 t s first seen with pc := 9, pos := s + 1, handed := s + 1, answer := some true, seen := (((seen.add 6).add 44).add 16).add 1 } := by
    simp only [M.step, at1, M.exec, M.word, c1]
    simp [ops, M.say]
  have e4 : M.step { at1 t s first seen with pc := 9, pos := s + 1, handed := s + 1, answer := some true, seen := (((seen.add 6).add 44).add 16).add 1 } = { at1 t s first seen with pc := 5, pos := s, handed := s + 1, answer := some true, frames := [], weight := 0, seen := (((seen.add 6).add 44).add 16).add 1 } := by
    simp [M.step, at1, M.resume, M.say]
  have e5 : M.step { at1 t s first seen with pc := 5, pos := s, handed := s + 1, answer := some true, frames := [], weight := 0, seen := (((seen.add 6).add 44).add 16).add 1 } = { at1 t s first seen with pc := 5, pos := s, handed := s + 1, answer := some true, frames := [], weight := 0, seen := (((seen.add 6).add 44).add 16).add 1, outcome := some .matched } := by
    simp [M.step, at1]
  exact ⟨_, ((((To.step rfl e1).trans (To.step rfl e2)).trans (To.step rfl e3)).trans (To.step rfl e4)).trans (To.step rfl e5), rfl, rfl, rfl⟩

theorem at1_no (t : Array Nat) (s : Nat) (first : Bool) (seen : Seen) (h : isDot t s = false) :
    ∃ seen', To 4 (at1 t s first seen) (if s < t.size then at1 t (s + 1) false seen' else { at1 t s first seen' with pc := 5, pos := s, answer := some false, frames := [], weight := 0, outcome := some .failed }) := by
  have tail : ∀ (pc : Nat) (seen' : Seen), To 2 { at1 t s first seen' with pc := pc, answer := some false } (if s < t.size then at1 t (s + 1) false seen' else { at1 t s first seen' with pc := 5, pos := s, answer := some false, frames := [], weight := 0, outcome := some .failed }) := by
    intro pc seen'
    by_cases hs : s < t.size
    · rw [if_pos hs]
      refine (To.step rfl ?_).le (by omega)
      simp only [M.step, at1, M.resume, M.attemptFrom, M.attemptAt, M.hasFirstSet, M.attempt, c1]
      simp [hs, ops]
    · rw [if_neg hs]
      have e1 : M.step { at1 t s first seen' with pc := pc, answer := some false } = { at1 t s first seen' with pc := 5, pos := s, answer := some false, frames := [], weight := 0 } := by
        simp only [M.step, at1, M.resume, M.say]
        simp [hs]
      have e2 : M.step { at1 t s first seen' with pc := 5, pos := s, answer := some false, frames := [], weight := 0 } = { at1 t s first seen' with pc := 5, pos := s, answer := some false, frames := [], weight := 0, outcome := some .failed } := by
        simp [M.step, at1]
      exact (To.step rfl e1).trans (To.step rfl e2)
  cases h2 : (s == 0 || t.getD (s - 1) 0 == 10) with
  | false =>
    have e1 : (at1 t s first seen).step = { at1 t s first ((seen.add 6).add 44) with pc := 5, answer := some false } := by
      simp only [M.step, at1, M.exec, M.word, c1, M.isAt, h2]
      simp [ops, M.say]
    exact ⟨_, ((To.step rfl e1).trans (tail 5 _)).le (by omega)⟩
  | true =>
    have e1 : (at1 t s first seen).step = { at1 t s first seen with pc := 7, seen := (seen.add 6).add 44 } := by
      simp only [M.step, at1, M.exec, M.word, c1, M.isAt, h2]
      simp [ops]
    by_cases hs : s < t.size
    · have h3' : (t.getD s 0 == 46) = false := by
        have hh := h
        unfold isDot at hh
        rw [h2, decide_eq_true hs] at hh
        exact hh
      have e2 : M.step { at1 t s first seen with pc := 7, seen := (seen.add 6).add 44 } = { at1 t s first (((seen.add 6).add 44).add 16) with pc := 7, answer := some false } := by
        simp only [M.step, at1, M.exec, M.word, c1, accepts, itemWidth]
        simp only [List.getElem?_toArray, Array.getD_eq_getD_getElem?] at h3' ⊢
        simp [ops, Nat.not_le.mpr hs, M.say]
        simp [h3']
      exact ⟨_, ((To.step rfl e1).trans ((To.step rfl e2).trans (tail 7 _))).le (by omega)⟩
    · have e2 : M.step { at1 t s first seen with pc := 7, seen := (seen.add 6).add 44 } = { at1 t s first (((seen.add 6).add 44).add 16) with pc := 7, answer := some false } := by
        simp only [M.step, at1, M.exec, M.word, c1]
        simp [ops, Nat.le_of_not_lt hs, M.say]
      exact ⟨_, ((To.step rfl e1).trans ((To.step rfl e2).trans (tail 7 _))).le (by omega)⟩

/-- the first place at or behind s -/
def findFrom (P : Nat → Bool) : (fuel s : Nat) → Option Nat
  | 0, _ => none
  | fuel + 1, s => if P s then some s else findFrom P fuel (s + 1)

theorem findFrom_yes {P : Nat → Bool} {p : Nat} : ∀ (f s : Nat), findFrom P f s = some p → P p = true
  | 0, s, h => by simp [findFrom] at h
  | f + 1, s, h => by
    rw [findFrom] at h
    split at h
    · next q => cases h; exact q
    · exact findFrom_yes f (s + 1) h

theorem search1 (t : Array Nat) : ∀ (d s : Nat) (first : Bool) (seen : Seen), d = t.size - s → s ≤ t.size →
    ∃ m', To (5 * (d + 1)) (at1 t s first seen) m' ∧
      (match findFrom (isDot t) (d + 1) s with
       | some p => m'.outcome = some .matched ∧ m'.start = p ∧ m'.handed = p + 1
       | none => m'.outcome = some .failed) := by
  intro d
  induction d with
  | zero =>
    intro s first seen hd hs
    have hse : s = t.size := by omega
    have hn : isDot t s = false := by simp [isDot, hse]
    obtain ⟨seen', h⟩ := at1_no t s first seen hn
    rw [if_neg (by omega)] at h
    refine ⟨_, h.le (by omega), ?_⟩
    simp [findFrom, hn]
  | succ d ih =>
    intro s first seen hd hs
    cases hy : isDot t s with
    | true =>
      obtain ⟨m', h1, h2, h3, h4⟩ := at1_yes t s first seen hy
      refine ⟨m', h1.le (by omega), ?_⟩
      rw [findFrom, hy]
      exact ⟨h2, h3, h4⟩
    | false =>
      obtain ⟨seen', h⟩ := at1_no t s first seen hy
      rw [if_pos (by omega)] at h
      obtain ⟨m', h', hm⟩ := ih (s + 1) false seen' (by omega) (by omega)
      refine ⟨m', (h.trans h').le (by omega), ?_⟩
      rw [findFrom, hy]
      exact hm

def fresh1 (t : Array Nat) (s : Nat) : M :=
  { code := c1, text := t, lim := t.size, start := s, pc := 5, pos := s, handed := s, marks := #[], seen := ({} : Seen).add 14 }
theorem forSearch1_eq (t : Array Nat) (s : Nat) : forSearch c1 t 0 s t.size false =
    if (decide (s > t.size) || decide (t.size - s < 1)) = true then (fresh1 t s).say false else M.attemptFrom { fresh1 t s with lastStart := t.size } s true := by
  with_unfolding_all rfl

theorem forSearch1 (t : Array Nat) (s : Nat) (hs : s ≤ t.size) :
    ∃ m', To (5 * (t.size + 2)) (forSearch c1 t 0 s t.size false) m' ∧
      (match findFrom (isDot t) (t.size - s + 1) s with
       | some p => m'.outcome = some .matched ∧ m'.start = p ∧ m'.handed = p + 1
       | none => m'.outcome = some .failed) := by
  rw [forSearch1_eq]
  by_cases he : s = t.size
  · have hn : isDot t s = false := by simp [isDot, he]
    rw [if_pos (by simp; omega)]
    refine ⟨{ fresh1 t s with answer := some false, outcome := some .failed }, (To.step rfl ?_).le (by omega), ?_⟩
    · simp [M.say, M.step, fresh1]
    · subst he
      simp [findFrom, hn]
  · have h1 : ¬ (t.size - s < 1) := by omega
    have h2 : ¬ (s > t.size) := by omega
    have e : M.attemptFrom { fresh1 t s with lastStart := t.size } s true = at1 t s true (({} : Seen).add 14) := by
      simp only [fresh1, c1, at1]
      simp [ops, M.attemptFrom, M.hasFirstSet, M.attemptAt, M.attempt]
    rw [if_neg (by simp; omega), e]
    obtain ⟨m', h1, h2⟩ := search1 t (t.size - s) s true _ rfl hs
    exact ⟨m', h1.le (by omega), h2⟩

/-! the ends of rows -/
def g3 (t : Array Nat) (s : Nat) (seen : Seen) (pc pos handed : Nat) (om : Bool) (fs : List Sre.Frame) (wt : Nat) (ans : Option Bool) : M :=
  { code := c3, text := t, lim := t.size, start := s, lastStart := t.size, pc := pc, pos := pos, handed := handed, outermost := om, marks := #[], frames := fs, weight := wt, answer := ans, seen := seen }
def k0 : Sre.Kept := { lastmark := -1, lastindex := -1, whole := false, marks := #[] }
section
variable {t : Array Nat} {s pc pos hd c wt : Nat} {om : Bool} {fs : List Sre.Frame} {seen : Seen}
theorem ops16 : ops[16]? = some Op.LITERAL := rfl
theorem lit_ok (h1 : c3.getD pc 0 = 16) (h2 : c3.getD (pc + 1) 0 = c) (hpc : pc < 36) (hp : pos < t.size) (hc : t.getD pos 0 = c) :
    ∃ seen', M.step (g3 t s seen pc pos hd om fs wt none) = g3 t s seen' (pc + 2) (pos + 1) hd om fs wt none := by
  have hz : c3.size = 36 := rfl
  refine ⟨seen.add 16, ?_⟩
  simp only [M.step, g3, M.exec, M.word, accepts, itemWidth, Nat.add_zero, h1, h2, hc, hz, hpc, ops16]
  simp [Nat.not_le.mpr hp]
theorem lit_no (h1 : c3.getD pc 0 = 16) (h2 : c3.getD (pc + 1) 0 = c) (hpc : pc < 36) (hc : ¬ (pos < t.size ∧ t.getD pos 0 = c)) :
    ∃ seen', M.step (g3 t s seen pc pos hd om fs wt none) = g3 t s seen' pc pos hd om fs wt (some false) := by
  have hz : c3.size = 36 := rfl
  refine ⟨seen.add 16, ?_⟩
  simp only [M.step, g3, M.exec, M.word, accepts, itemWidth, Nat.add_zero, h1, h2, hz, hpc, ops16]
  by_cases hp : pos < t.size
  · have hc' : (t.getD pos 0 == c) = false := by
      have : ¬ t.getD pos 0 = c := fun e => hc ⟨hp, e⟩
      simpa using this
    simp only [hc']
    simp [Nat.not_le.mpr hp, M.say]
  · simp [Nat.le_of_not_lt hp, M.say]
theorem jump_ (h1 : c3.getD pc 0 = 15) (h2 : pc + 1 + c3.getD (pc + 1) 0 = 35) (hpc : pc < 36) :
    ∃ seen', M.step (g3 t s seen pc pos hd om fs wt none) = g3 t s seen' 35 pos hd om fs wt none := by
  have hz : c3.size = 36 := rfl
  have ho : ops[15]? = some Op.JUMP := rfl
  refine ⟨seen.add 15, ?_⟩
  simp only [M.step, g3, M.exec, M.word, Nat.add_zero, h1, h2, hz, hpc, ho]
  simp
theorem succ_ : ∃ seen', M.step (g3 t s seen 35 pos hd om fs wt none) = g3 t s seen' 35 pos pos om fs wt (some true) := by
  refine ⟨seen.add 1, ?_⟩
  simp only [M.step, g3, M.exec, M.word, c3]
  simp [ops, M.say]
/-- an answer goes down through the two frames to the end -/
theorem yes_ {f : Bool} {o1 o2 : Bool} {alt pos' pc' : Nat} :
    To 3 (g3 t s seen pc pos hd om [{ wait := .nextBranch, pc := alt, pos := pos', outermost := o1, kept := k0 }, { wait := .nextStart, pc := pc', pos := s, outermost := o2 }] wt (some true))
      { g3 t s seen pc' s hd o2 [] (wt - 1 - 1) (some true) with outcome := some .matched } := by
  have e1 : M.step (g3 t s seen pc pos hd om [{ wait := .nextBranch, pc := alt, pos := pos', outermost := o1, kept := k0 }, { wait := .nextStart, pc := pc', pos := s, outermost := o2 }] wt (some true)) =
      g3 t s seen alt pos' hd o1 [{ wait := .nextStart, pc := pc', pos := s, outermost := o2 }] (wt - 1) (some true) := by
    simp [M.step, g3, M.resume, M.say, k0]
  have e2 : M.step (g3 t s seen alt pos' hd o1 [{ wait := .nextStart, pc := pc', pos := s, outermost := o2 }] (wt - 1) (some true)) =
      g3 t s seen pc' s hd o2 [] (wt - 1 - 1) (some true) := by
    simp [M.step, g3, M.resume, M.say]
  have e3 : M.step (g3 t s seen pc' s hd o2 [] (wt - 1 - 1) (some true)) = { g3 t s seen pc' s hd o2 [] (wt - 1 - 1) (some true) with outcome := some .matched } := by
    simp [M.step, g3]
  exact (To.step rfl e1).trans ((To.step rfl e2).trans (To.step rfl e3))
abbrev fS (s : Nat) (first : Bool) : Sre.Frame := { wait := .nextStart, pc := 10, pos := s, outermost := first }
abbrev fB (alt s : Nat) (first : Bool) : Sre.Frame := { wait := .nextBranch, pc := alt, pos := s, outermost := first, kept := k0 }
theorem branch_ {first : Bool} : ∃ seen', M.step (g3 t s seen 10 s s first [fS s first] 1 none) = g3 t s seen' 12 s s first [fB 11 s first, fS s first] 2 none := by
  refine ⟨seen.add 7, ?_⟩
  simp only [M.step, g3, M.exec, M.word, c3, M.alternative, M.keep, M.attempt, M.frame, fB, fS, k0]
  simp [ops]
theorem next_ {first : Bool} {pc pos : Nat} {alt alt' : Nat} (h : alt + c3.getD alt 0 = alt') (h' : (c3.getD alt' 0 == 0) = false) :
    M.step (g3 t s seen pc pos hd first [fB alt s first, fS s first] 2 (some false)) = g3 t s seen (alt' + 1) s s first [fB alt' s first, fS s first] 2 none := by
  simp only [M.step, g3, M.resume, M.alternative, M.attempt, M.frame, M.putBack, fB, fS, k0, h, h']
  simp
end

/-- an end of a row at p: CR LF, LF, or CR -/
def isEol (t : Array Nat) (p : Nat) : Bool := p < t.size && (t.getD p 0 == 10 || t.getD p 0 == 13)
def eolLen (t : Array Nat) (p : Nat) : Nat := if t.getD p 0 = 13 ∧ p + 1 < t.size ∧ t.getD (p + 1) 0 = 10 then 2 else 1

theorem at3 (t : Array Nat) (s : Nat) (first : Bool) (seen : Seen) (h : isEol t s = true) :
    ∃ m', To 20 (g3 t s seen 10 s s first [fS s first] 1 none) m' ∧ m'.outcome = some .matched ∧ m'.start = s ∧ m'.handed = s + eolLen t s := by
  simp only [isEol, Bool.and_eq_true, decide_eq_true_eq, Bool.or_eq_true, beq_iff_eq] at h
  obtain ⟨hs, h⟩ := h
  obtain ⟨s1, e1⟩ := branch_ (t := t) (s := s) (seen := seen) (first := first)
  by_cases h13 : t.getD s 0 = 13
  · obtain ⟨s2, e2⟩ := lit_ok (t := t) (s := s) (pc := 12) (pos := s) (hd := s) (c := 13) (wt := 2) (om := first) (fs := [fB 11 s first, fS s first]) (seen := s1) rfl rfl (by omega) hs h13
    by_cases h10 : s + 1 < t.size ∧ t.getD (s + 1) 0 = 10
    · obtain ⟨s3, e3⟩ := lit_ok (t := t) (s := s) (pc := 14) (pos := s + 1) (hd := s) (c := 10) (wt := 2) (om := first) (fs := [fB 11 s first, fS s first]) (seen := s2) rfl rfl (by omega) h10.1 h10.2
      obtain ⟨s4, e4⟩ := jump_ (t := t) (s := s) (pc := 16) (pos := s + 2) (hd := s) (wt := 2) (om := first) (fs := [fB 11 s first, fS s first]) (seen := s3) rfl rfl (by omega)
      obtain ⟨s5, e5⟩ := succ_ (t := t) (s := s) (pos := s + 2) (hd := s) (wt := 2) (om := first) (fs := [fB 11 s first, fS s first]) (seen := s4)
      have he : eolLen t s = 2 := by rw [eolLen, if_pos ⟨h13, h10.1, h10.2⟩]
      rw [he]
      exact ⟨_, ((To.step rfl e1).trans ((To.step rfl e2).trans ((To.step rfl e3).trans ((To.step rfl e4).trans ((To.step rfl e5).trans (yes_ (f := true))))))).le (by omega), rfl, rfl, rfl⟩
    · obtain ⟨s3, e3⟩ := lit_no (t := t) (s := s) (pc := 14) (pos := s + 1) (hd := s) (c := 10) (wt := 2) (om := first) (fs := [fB 11 s first, fS s first]) (seen := s2) rfl rfl (by omega) h10
      have e4 := next_ (t := t) (s := s) (seen := s3) (hd := s) (first := first) (pc := 14) (pos := s + 1) (alt := 11) (alt' := 18) rfl rfl
      obtain ⟨s5, e5⟩ := lit_no (t := t) (s := s) (pc := 19) (pos := s) (hd := s) (c := 10) (wt := 2) (om := first) (fs := [fB 18 s first, fS s first]) (seen := s3) rfl rfl (by omega) (by rw [h13]; omega)
      have e6 := next_ (t := t) (s := s) (seen := s5) (hd := s) (first := first) (pc := 19) (pos := s) (alt := 18) (alt' := 23) rfl rfl
      obtain ⟨s7, e7⟩ := lit_ok (t := t) (s := s) (pc := 24) (pos := s) (hd := s) (c := 13) (wt := 2) (om := first) (fs := [fB 23 s first, fS s first]) (seen := s5) rfl rfl (by omega) hs h13
      have e8 : M.step (g3 t s s7 26 (s + 1) s first [fB 23 s first, fS s first] 2 none) = g3 t s (s7.add 5) 29 (s + 1) (s + 1) false [{ wait := .lookNot, pc := 26, pos := s + 1, outermost := first, kept := k0 }, fB 23 s first, fS s first] 3 none := by
        simp only [M.step, g3, M.exec, M.word, c3, M.keep, M.attempt, M.frame, fB, fS, k0]
        simp [ops]
      obtain ⟨s9, e9⟩ := lit_no (t := t) (s := s) (pc := 29) (pos := s + 1) (hd := s + 1) (c := 10) (wt := 3) (om := false) (fs := [{ wait := .lookNot, pc := 26, pos := s + 1, outermost := first, kept := k0 }, fB 23 s first, fS s first]) (seen := s7.add 5) rfl rfl (by omega) h10
      have e10 : M.step (g3 t s s9 29 (s + 1) (s + 1) false [{ wait := .lookNot, pc := 26, pos := s + 1, outermost := first, kept := k0 }, fB 23 s first, fS s first] 3 (some false)) = g3 t s s9 32 (s + 1) (s + 1) first [fB 23 s first, fS s first] 2 none := by
        simp only [M.step, g3, M.resume, M.word, M.putBack, c3, fB, fS, k0]
        simp
      obtain ⟨s11, e11⟩ := jump_ (t := t) (s := s) (pc := 32) (pos := s + 1) (hd := s + 1) (wt := 2) (om := first) (fs := [fB 23 s first, fS s first]) (seen := s9) rfl rfl (by omega)
      obtain ⟨s12, e12⟩ := succ_ (t := t) (s := s) (pos := s + 1) (hd := s + 1) (wt := 2) (om := first) (fs := [fB 23 s first, fS s first]) (seen := s11)
      have he : eolLen t s = 1 := by
        rw [eolLen, if_neg (fun q => h10 q.2)]
      rw [he]
      exact ⟨_, ((To.step rfl e1).trans ((To.step rfl e2).trans ((To.step rfl e3).trans ((To.step rfl e4).trans ((To.step rfl e5).trans ((To.step rfl e6).trans ((To.step rfl e7).trans ((To.step rfl e8).trans ((To.step rfl e9).trans ((To.step rfl e10).trans ((To.step rfl e11).trans ((To.step rfl e12).trans (yes_ (f := true)))))))))))))).le (by omega), rfl, rfl, rfl⟩
  · have h10 : t.getD s 0 = 10 := h.resolve_right h13
    obtain ⟨s2, e2⟩ := lit_no (t := t) (s := s) (pc := 12) (pos := s) (hd := s) (c := 13) (wt := 2) (om := first) (fs := [fB 11 s first, fS s first]) (seen := s1) rfl rfl (by omega) (fun q => h13 q.2)
    have e4 := next_ (t := t) (s := s) (seen := s2) (hd := s) (first := first) (pc := 12) (pos := s) (alt := 11) (alt' := 18) rfl rfl
    obtain ⟨s5, e5⟩ := lit_ok (t := t) (s := s) (pc := 19) (pos := s) (hd := s) (c := 10) (wt := 2) (om := first) (fs := [fB 18 s first, fS s first]) (seen := s2) rfl rfl (by omega) hs h10
    obtain ⟨s6, e6⟩ := jump_ (t := t) (s := s) (pc := 21) (pos := s + 1) (hd := s) (wt := 2) (om := first) (fs := [fB 18 s first, fS s first]) (seen := s5) rfl rfl (by omega)
    obtain ⟨s7, e7⟩ := succ_ (t := t) (s := s) (pos := s + 1) (hd := s) (wt := 2) (om := first) (fs := [fB 18 s first, fS s first]) (seen := s6)
    have he : eolLen t s = 1 := by rw [eolLen, if_neg (fun q => h13 q.1)]
    rw [he]
    exact ⟨_, ((To.step rfl e1).trans ((To.step rfl e2).trans ((To.step rfl e4).trans ((To.step rfl e5).trans ((To.step rfl e6).trans ((To.step rfl e7).trans (yes_ (f := true)))))))).le (by omega), rfl, rfl, rfl⟩

def fresh3 (t : Array Nat) (s : Nat) : M :=
  { code := c3, text := t, lim := t.size, start := s, pc := 10, pos := s, handed := s, marks := #[], seen := ({} : Seen).add 14 }
theorem forSearch3_eq (t : Array Nat) (s : Nat) : forSearch c3 t 0 s t.size false =
    if (decide (s > t.size) || decide (t.size - s < 1)) = true then (fresh3 t s).say false else M.attemptFrom { fresh3 t s with lastStart := t.size } s true := by
  with_unfolding_all rfl
theorem inSet3 (c : Nat) (seen : Seen) : ∃ seen', inSet c3 c c3.size 5 true seen = .ok (c == 10 || c == 13, seen') := by
  have hz : c3.size = 36 := rfl
  rw [hz]
  by_cases h10 : c = 10
  · subst h10
    exact ⟨seen.add 16, by simp [inSet, c3, ops]⟩
  · by_cases h13 : c = 13
    · subst h13
      exact ⟨(seen.add 16).add 16, by simp [inSet, c3, ops]⟩
    · refine ⟨((seen.add 16).add 16).add 0, ?_⟩
      have a : (c == 10) = false := by simpa using h10
      have b : (c == 13) = false := by simpa using h13
      simp [inSet, c3, ops, a, b, h10, h13]
theorem admitted3 (m : M) (hc : m.code = c3) (hl : m.lim = m.text.size) : ∀ (d s : Nat) (seen : Seen), d = m.text.size - s → s ≤ m.text.size →
    ∃ seen', M.admitted m (d + 1) s seen = .ok (findFrom (isEol m.text) (d + 1) s, seen') := by
  intro d
  induction d with
  | zero =>
    intro s seen hd hs
    have hse : s = m.text.size := by omega
    refine ⟨seen, ?_⟩
    rw [M.admitted, if_pos (by omega)]
    simp [findFrom, isEol, hse]
  | succ d ih =>
    intro s seen hd hs
    rw [M.admitted, if_neg (by omega), hc]
    obtain ⟨s1, e1⟩ := inSet3 (m.text.getD s 0) seen
    rw [e1]
    have hlt : s < m.text.size := by omega
    have hi : isEol m.text s = (m.text.getD s 0 == 10 || m.text.getD s 0 == 13) := by
      unfold isEol
      rw [decide_eq_true hlt, Bool.true_and]
    rw [findFrom, hi]
    cases hb : (m.text.getD s 0 == 10 || m.text.getD s 0 == 13) with
    | true => exact ⟨s1, rfl⟩
    | false =>
      simp only [Bool.false_eq_true, if_false]
      exact ih (s + 1) s1 (by omega) (by omega)

theorem forSearch3 (t : Array Nat) (s : Nat) (hs : s ≤ t.size) :
    ∃ m', To 30 (forSearch c3 t 0 s t.size false) m' ∧
      (match findFrom (isEol t) (t.size - s + 1) s with
       | some p => m'.outcome = some .matched ∧ m'.start = p ∧ m'.handed = p + eolLen t p
       | none => m'.outcome = some .failed) := by
  rw [forSearch3_eq]
  by_cases he : s = t.size
  · have hn : isEol t s = false := by simp [isEol, he]
    rw [if_pos (by simp; omega)]
    refine ⟨{ fresh3 t s with answer := some false, outcome := some .failed }, (To.step rfl ?_).le (by omega), ?_⟩
    · simp [M.say, M.step, fresh3]
    · subst he
      simp [findFrom, hn]
  · rw [if_neg (by simp; omega)]
    obtain ⟨seen', hA⟩ := admitted3 { fresh3 t s with lastStart := t.size } rfl rfl (t.size - s) s (({} : Seen).add 14) rfl hs
    have hf : M.hasFirstSet { fresh3 t s with lastStart := t.size } = true := rfl
    have e : t.size + 1 - s = t.size - s + 1 := by omega
    have e2 : M.attemptFrom { fresh3 t s with lastStart := t.size } s true =
        match findFrom (isEol t) (t.size - s + 1) s with
        | some p => g3 t p seen' 10 p p true [fS p true] 1 none
        | none => { fresh3 t s with lastStart := t.size, seen := seen', answer := some false } := by
      unfold M.attemptFrom
      rw [hf]
      simp only [Bool.not_true, Bool.false_eq_true, if_false]
      have hA' : M.admitted { fresh3 t s with lastStart := t.size } ({ fresh3 t s with lastStart := t.size : M }.lim + 1 - s) s { fresh3 t s with lastStart := t.size : M }.seen = .ok (findFrom (isEol t) (t.size - s + 1) s, seen') := by
        show M.admitted { fresh3 t s with lastStart := t.size } (t.size + 1 - s) s (({} : Seen).add 14) = _
        rw [e]; exact hA
      rw [hA']
      cases findFrom (isEol t) (t.size - s + 1) s with
      | none => rfl
      | some p => simp [M.attemptAt, M.attempt, fresh3, g3, fS]
    rw [e2]
    cases hF : findFrom (isEol t) (t.size - s + 1) s with
    | none =>
      refine ⟨{ fresh3 t s with lastStart := t.size, seen := seen', answer := some false, outcome := some .failed }, (To.step rfl ?_).le (by omega), rfl⟩
      simp [M.step, fresh3]
    | some p =>
      have hp : isEol t p = true := findFrom_yes _ _ hF
      obtain ⟨m', h1, h2⟩ := at3 t p true seen' hp
      exact ⟨m', h1.le (by omega), h2⟩
end Mine

end

/-! RxList -/
section
open PySem
namespace Mine

/-- every end of a row made CR LF -/
def fixL : List Nat → List Nat
  | [] => []
  | 13 :: 10 :: r => 13 :: 10 :: fixL r
  | 13 :: r => 13 :: 10 :: fixL r
  | 10 :: r => 13 :: 10 :: fixL r
  | c :: r => c :: fixL r
/-- a dot at a row's head doubled -/
def dotL : Bool → List Nat → List Nat
  | _, [] => []
  | b, c :: r => (if b && c == 46 then [46, 46] else [c]) ++ dotL (c == 10) r

theorem fixL_plain {c : Nat} {r : List Nat} (h10 : c ≠ 10) (h13 : c ≠ 13) : fixL (c :: r) = c :: fixL r := by
  rw [fixL]
  · intro r' e _; exact h13 e
  · intro e; exact h13 e
  · intro e; exact h10 e
theorem fixL_lf {r : List Nat} : fixL (10 :: r) = 13 :: 10 :: fixL r := by rw [fixL]
theorem fixL_crlf {r : List Nat} : fixL (13 :: 10 :: r) = 13 :: 10 :: fixL r := by rw [fixL]
theorem fixL_cr {r : List Nat} (h : ∀ r', r ≠ 10 :: r') : fixL (13 :: r) = 13 :: 10 :: fixL r := by
  rw [fixL]
  exact h

theorem findFrom_ge {P : Nat → Bool} {p : Nat} : ∀ (f s : Nat), findFrom P f s = some p → s ≤ p
  | 0, s, h => by simp [findFrom] at h
  | f + 1, s, h => by
    rw [findFrom] at h
    split at h
    · cases h; exact Nat.le_refl _
    · exact Nat.le_of_succ_le (findFrom_ge f (s + 1) h)
theorem getD_drop {t : Array Nat} {s : Nat} (h : s < t.size) : t.toList.drop s = t.getD s 0 :: t.toList.drop (s + 1) := by
  rw [List.drop_eq_getElem_cons (by simpa using h)]
  congr 1
  simp [Array.getD, h]

theorem fix_none (t : Array Nat) : ∀ (d s : Nat), d = t.size - s → findFrom (isEol t) (d + 1) s = none → fixL (t.toList.drop s) = t.toList.drop s := by
  intro d
  induction d with
  | zero =>
    intro s hd h
    rw [List.drop_eq_nil_of_le (by simp; omega)]
    rfl
  | succ d ih =>
    intro s hd h
    have hs : s < t.size := by omega
    rw [findFrom] at h
    split at h
    · cases h
    · next q =>
      have := ih (s + 1) (by omega) h
      rw [getD_drop hs]
      simp [isEol, hs] at q
      rw [fixL_plain, this]
      · intro e; exact q.1 (by simpa [Array.getD, hs] using e)
      · intro e; exact q.2 (by simpa [Array.getD, hs] using e)

theorem fix_some (t : Array Nat) (p : Nat) : ∀ (d s : Nat), d = t.size - s → findFrom (isEol t) (d + 1) s = some p →
    fixL (t.toList.drop s) = (t.toList.drop s).take (p - s) ++ ([13, 10] ++ fixL (t.toList.drop (p + eolLen t p))) := by
  intro d
  induction d with
  | zero =>
    intro s hd h
    rw [findFrom] at h
    split at h
    · next q => simp [isEol] at q; omega
    · simp [findFrom] at h
  | succ d ih =>
    intro s hd h
    have hs : s < t.size := by omega
    rw [findFrom] at h
    split at h
    · next q =>
      have hps : p = s := (Option.some.inj h).symm
      clear h ih
      rw [hps]
      rw [Nat.sub_self, List.take_zero, List.nil_append, getD_drop hs]
      unfold eolLen
      by_cases h13 : t.getD s 0 = 13
      · rw [h13]
        by_cases h10 : s + 1 < t.size ∧ t.getD (s + 1) 0 = 10
        · rw [if_pos ⟨rfl, h10.1, h10.2⟩, getD_drop h10.1, h10.2, fixL_crlf]
          rfl
        · rw [if_neg (fun q => h10 q.2), fixL_cr]
          · rfl
          · intro r' e
            by_cases h1 : s + 1 < t.size
            · rw [getD_drop h1] at e
              injection e with e1 e2
              exact h10 ⟨h1, e1⟩
            · rw [List.drop_eq_nil_of_le (by simp; omega)] at e
              cases e
      · have h10 : t.getD s 0 = 10 := by
          simp only [isEol, Bool.and_eq_true, decide_eq_true_eq, Bool.or_eq_true, beq_iff_eq] at q
          exact q.2.resolve_right h13
        rw [if_neg (fun q => h13 q.1), h10, fixL_lf]
        rfl
    · next q =>
      have := ih (s + 1) (by omega) h
      have hge := findFrom_ge _ _ h
      rw [getD_drop hs]
      simp [isEol, hs] at q
      rw [fixL_plain, this]
      · have : p - s = (p - (s + 1)) + 1 := by omega
        rw [this, List.take_succ_cons]
        rfl
      · intro e; exact q.1 (by simpa [Array.getD, hs] using e)
      · intro e; exact q.2 (by simpa [Array.getD, hs] using e)

/-- a row begins at s -/
def headAt (t : Array Nat) (s : Nat) : Bool := s == 0 || t.getD (s - 1) 0 == 10
theorem headAt_succ (t : Array Nat) (s : Nat) : headAt t (s + 1) = (t.getD s 0 == 10) := by simp [headAt]

theorem dot_none (t : Array Nat) : ∀ (d s : Nat), d = t.size - s → findFrom (isDot t) (d + 1) s = none → dotL (headAt t s) (t.toList.drop s) = t.toList.drop s := by
  intro d
  induction d with
  | zero =>
    intro s hd h
    rw [List.drop_eq_nil_of_le (by simp; omega)]
    rfl
  | succ d ih =>
    intro s hd h
    have hs : s < t.size := by omega
    rw [findFrom] at h
    split at h
    · cases h
    · next q =>
      have := ih (s + 1) (by omega) h
      rw [getD_drop hs, dotL, ← headAt_succ, this]
      have hb : (headAt t s && t.getD s 0 == 46) = false := by
        unfold isDot at q
        rw [decide_eq_true hs] at q
        simpa [headAt] using q
      rw [hb]
      rfl

theorem dot_some (t : Array Nat) (p : Nat) : ∀ (d s : Nat), d = t.size - s → findFrom (isDot t) (d + 1) s = some p →
    dotL (headAt t s) (t.toList.drop s) = (t.toList.drop s).take (p - s) ++ ([46, 46] ++ dotL (headAt t (p + 1)) (t.toList.drop (p + 1))) := by
  intro d
  induction d with
  | zero =>
    intro s hd h
    rw [findFrom] at h
    split at h
    · next q => simp [isDot] at q; omega
    · simp [findFrom] at h
  | succ d ih =>
    intro s hd h
    have hs : s < t.size := by omega
    rw [findFrom] at h
    split at h
    · next q =>
      have hps : p = s := (Option.some.inj h).symm
      clear h ih
      rw [hps]
      rw [Nat.sub_self, List.take_zero, List.nil_append, getD_drop hs, dotL, ← headAt_succ]
      have hb : (headAt t s && t.getD s 0 == 46) = true := by
        unfold isDot at q
        rw [decide_eq_true hs, Bool.true_and] at q
        exact q
      rw [hb]
      rfl
    · next q =>
      have := ih (s + 1) (by omega) h
      have hge := findFrom_ge _ _ h
      rw [getD_drop hs, dotL, ← headAt_succ, this]
      have hb : (headAt t s && t.getD s 0 == 46) = false := by
        unfold isDot at q
        rw [decide_eq_true hs, Bool.true_and] at q
        simpa [headAt] using q
      rw [hb]
      have : p - s = (p - (s + 1)) + 1 := by omega
      rw [this, List.take_succ_cons]
      rfl
theorem isDot_lt {t : Array Nat} {p : Nat} (h : isDot t p = true) : p < t.size := by
  simp only [isDot, Bool.and_eq_true, decide_eq_true_eq] at h; exact h.1.1
theorem isEol_lt {t : Array Nat} {p : Nat} (h : isEol t p = true) : p + eolLen t p ≤ t.size := by
  simp only [isEol, Bool.and_eq_true, decide_eq_true_eq] at h
  unfold eolLen
  split
  · next q => omega
  · omega
theorem eolLen_pos (t : Array Nat) (p : Nat) : 0 < eolLen t p := by unfold eolLen; split <;> omega
theorem fixL_length : ∀ (l : List Nat), (fixL l).length ≤ 2 * l.length := by
  intro l
  induction l using fixL.induct with
  | case1 => simp [fixL]
  | case2 r ih => rw [fixL_crlf]; simp only [List.length_cons]; omega
  | case3 r h ih => rw [fixL_cr (fun r' e => h r' e)]; simp only [List.length_cons]; omega
  | case4 r ih => rw [fixL_lf]; simp only [List.length_cons]; omega
  | case5 c r h1 h2 h3 ih =>
    rw [fixL_plain (fun e => h3 e) (fun e => h2 e)]; simp only [List.length_cons]; omega
theorem dotL_length : ∀ (l : List Nat) (b : Bool), (dotL b l).length ≤ 2 * l.length
  | [], _ => by simp [dotL]
  | c :: r, b => by
    have := dotL_length r (c == 10)
    rw [dotL]
    simp only [List.length_append, List.length_cons]
    split <;> simp <;> omega
end Mine

end

/-! RxWp -/
section
open PySem PySem.W PyProof.Rows
namespace Mine
open PySem.Builtin PySem.Builtin.Re

section
variable {M : Model} {A : Around} {E : Value → Shared → Prop} {s : Shared}
theorem drive {Q : Sre.M → Shared → Prop} : ∀ (turns n : Nat) (m m' : Sre.M), To n m m' → m'.outcome.isSome = true → n ≤ 4 * turns → 0 < turns → Q m' s → wpAny M A (reDrive turns m) Q E s := by
  intro turns
  induction turns with
  | zero => intro n m m' _ _ _ h0; omega
  | succ turns ih =>
    intro n m m' hto hd hn _ hQ
    obtain ⟨k, hk, e⟩ := hto
    unfold reDrive
    have e4 : k ≤ 4 → Sre.M.runFor reTurnSteps m = m' := fun h4 => by
      have : reTurnSteps = k + (4 - k) := by show 4 = _; omega
      rw [this, runFor_add, e, runFor_done hd]
    dsimp only
    by_cases h4 : k ≤ 4
    · rw [e4 h4, if_pos hd]
      exact wpAny_pure hQ
    · have e5 : k = 4 + (k - 4) := by omega
      rw [e5, runFor_add] at e
      by_cases hm : (Sre.M.runFor reTurnSteps m).outcome.isSome = true
      · have : Sre.M.runFor reTurnSteps m = m' := by
          have z : Sre.M.runFor 4 m = Sre.M.runFor reTurnSteps m := rfl
          rw [z, runFor_done hm] at e
          exact e
        rw [if_pos hm, this]
        exact wpAny_pure hQ
      · rw [if_neg hm]
        refine wpAny_bind (wpAny_rule ?_)
        exact ih (k - 4) _ m' ⟨k - 4, Nat.le_refl _, e⟩ hd (by omega) (by omega) hQ

theorem runToEnd {Q : Option Sre.M → Shared → Prop} {n : Nat} {m m' : Sre.M} (hto : To n m m') (hn : n ≤ 2 ^ 64)
    (ho : (m'.outcome = some .matched ∧ Q (some m') s) ∨ (m'.outcome = some .failed ∧ Q none s)) : wpAny M A (reRunToEnd m) Q E s := by
  unfold reRunToEnd
  refine wpAny_bind (drive (2 ^ 64) n m m' hto (by rcases ho with h | h <;> rw [h.1] <;> rfl) (by omega) (by decide) ?_)
  refine wpAny_bind (wpAny_forIn_list _ (fun _ _ s' => s' = s) _ (fun i rest b s' hs => ?_) (fun b s' hs => ?_) _ _ rfl)
  · split
    · exact wpAny_bind (wpAny_rule (wpAny_pure hs))
    · exact wpAny_pure hs
  · subst hs
    rcases ho with h | h
    · rw [h.1]; exact wpAny_pure h.2
    · rw [h.1]; exact wpAny_pure h.2

/-- the object of a compiled pattern -/
def patObj (src : Value) (fl : Value) (ct : Addr) (kind : Int) : Obj :=
  { cls := .type "re.Pattern", data := .fields #[src, fl, .int 0 0, .none, .none, .ref ct, .int kind 0] }
def codeObj (c : Array Nat) : Obj := { cls := .type "tuple", data := .seq (c.map fun n : Nat => Value.int (n : Int) 0) }

theorem wholeTarget {P ct : Addr} {src fl : Value} {c : Array Nat} {x : Str} {t : Tok} {Q : ReTarget → Shared → Prop} (hP : s.heap.get? P = some (patObj src fl ct 0)) (hC : s.heap.get? ct = some (codeObj c))
    (h : Q { pattern := .ref P, string := .str x t, code := c, text := x.cps, kind := 0, groups := 0, pos := 0, lim := x.cps.size } s) : wpAny M A (reWholeTarget (.ref P) (.str x t)) Q E s := by
  unfold reWholeTarget
  refine wpAny_bind (wpAny_fieldsOf hP rfl ?_)
  unfold reTextOf
  refine wpAny_bind (wpAny_bind (wpAny_pure (wpAny_pure ?_)))
  dsimp only
  refine wpAny_bind (wpAny_pure ?_)
  unfold reRawItems
  refine wpAny_bind (wpAny_bind (wpAny_seqItems hC rfl (wpAny_pure ?_)))
  refine wpAny_pure ?_
  have e : Array.map (fun x => x.toNat) (Array.map reRawOf ((some (Array.map (fun n : Nat => Value.int (n : Int) 0) c)).getD #[])) = c := by
    simp [Function.comp_def, reRawOf]
  rw [e]
  exact h
end

/-- what is asked of a compiled pattern without groups, without empty matches: its next match, and what is left to do behind a place -/
structure Pat (c : Array Nat) (repl : List Nat) where
  next : Array Nat → Nat → Option (Nat × Nat)
  rest : Array Nat → Nat → List Nat
  finds : ∀ t s, s ≤ t.size → t.size ≤ 2 ^ 24 → ∃ n m', n ≤ 2 ^ 64 ∧ To n (Sre.forSearch c t 0 s t.size false) m' ∧
    (match next t s with
     | some (p, e) => m'.outcome = some .matched ∧ m'.start = p ∧ m'.handed = e
     | none => m'.outcome = some .failed)
  inside : ∀ t s p e, next t s = some (p, e) → s ≤ p ∧ p < e ∧ e ≤ t.size
  none_ : ∀ t s, s ≤ t.size → next t s = none → rest t s = t.toList.drop s
  some_ : ∀ t s p e, s ≤ t.size → next t s = some (p, e) → rest t s = (t.toList.drop s).take (p - s) ++ (repl ++ rest t e)

def fixPat : Pat c3 [13, 10] where
  next := fun t s => (findFrom (isEol t) (t.size - s + 1) s).map fun p => (p, p + eolLen t p)
  rest := fun t s => fixL (t.toList.drop s)
  finds := fun t s hs _ => by
    obtain ⟨m', h1, h2⟩ := forSearch3 t s hs
    refine ⟨30, m', by decide, h1, ?_⟩
    cases h : findFrom (isEol t) (t.size - s + 1) s with
    | none => rw [h] at h2; exact h2
    | some p => rw [h] at h2; exact h2
  inside := fun t s p e h => by
    cases h' : findFrom (isEol t) (t.size - s + 1) s with
    | none => rw [h'] at h; cases h
    | some q =>
      rw [h'] at h
      cases h
      have := isEol_lt (findFrom_yes _ _ h')
      have := eolLen_pos t p
      have := findFrom_ge _ _ h'
      omega
  none_ := fun t s hs h => by
    cases h' : findFrom (isEol t) (t.size - s + 1) s with
    | none => exact fix_none t _ s rfl h'
    | some q => rw [h'] at h; cases h
  some_ := fun t s p e hs h => by
    cases h' : findFrom (isEol t) (t.size - s + 1) s with
    | none => rw [h'] at h; cases h
    | some q =>
      rw [h'] at h
      cases h
      exact fix_some t p _ s rfl h'
def dotPat : Pat c1 [46, 46] where
  next := fun t s => (findFrom (isDot t) (t.size - s + 1) s).map fun p => (p, p + 1)
  rest := fun t s => dotL (headAt t s) (t.toList.drop s)
  finds := fun t s hs hz => by
    obtain ⟨m', h1, h2⟩ := forSearch1 t s hs
    refine ⟨_, m', by omega, h1, ?_⟩
    cases h : findFrom (isDot t) (t.size - s + 1) s with
    | none => rw [h] at h2; exact h2
    | some p => rw [h] at h2; exact h2
  inside := fun t s p e h => by
    cases h' : findFrom (isDot t) (t.size - s + 1) s with
    | none => rw [h'] at h; cases h
    | some q =>
      rw [h'] at h
      cases h
      have := isDot_lt (findFrom_yes _ _ h')
      have := findFrom_ge _ _ h'
      omega
  none_ := fun t s hs h => by
    cases h' : findFrom (isDot t) (t.size - s + 1) s with
    | none => exact dot_none t _ s rfl h'
    | some q => rw [h'] at h; cases h
  some_ := fun t s p e hs h => by
    cases h' : findFrom (isDot t) (t.size - s + 1) s with
    | none => rw [h'] at h; cases h
    | some q =>
      rw [h'] at h
      cases h
      exact dot_some t p _ s rfl h'

abbrev Keeps (h h' : Heap) : Prop := ∀ b o, h.get? b = some o → h'.get? b = some o
def cpsAll (ps : List (Str × Tok)) : List Nat := ps.flatMap fun p => p.1.cps.toList
theorem join_empty : ∀ (ps : List Str), Txt.join ⟨#[]⟩ ps = ⟨(ps.flatMap fun p => p.cps.toList).toArray⟩ := by
  intro ps
  unfold Txt.join Builtin.Str.glued
  cases ps with
  | nil => rfl
  | cons p r =>
    simp only [List.drop_succ_cons, List.drop_zero, List.headD_cons]
    have : ∀ (r : List Str) (acc : Array Nat), (r.foldl (fun acc p => acc ++ (#[] : Array Nat) ++ p.cps) acc) = acc ++ (r.flatMap fun p => p.cps.toList).toArray := by
      intro r
      induction r with
      | nil => intro acc; simp
      | cons q r ih =>
        intro acc
        rw [List.foldl_cons, ih]
        apply Array.ext'
        simp [List.flatMap_cons]
    rw [this]
    congr 1
    apply Array.ext'
    simp [List.flatMap_cons]
theorem joinOk_empty (ps : List Str) (h : (ps.flatMap fun p => p.cps.toList).length ≤ sizeLine) : JoinOk ⟨#[]⟩ ps = true := by
  unfold JoinOk
  have : ∀ (r : List Str) (k : Nat), r.foldl (fun a p => a + p.length + (⟨#[]⟩ : Str).length) k = k + (r.flatMap fun p => p.cps.toList).length := by
    intro r
    induction r with
    | nil => intro k; simp
    | cons q r ih =>
      intro k
      rw [List.foldl_cons, ih]
      simp only [List.flatMap_cons, List.length_append, Str.length, Array.length_toList, Array.size_empty]
      show k + q.cps.size + 0 + _ = _
      omega
  simp only [Builtin.Str.tooLong, List.foldl_toArray, this]
  simpa using h

section
variable {prog : Program} {w : World} {A : Around} {s : Shared}
theorem entry_subLoop : entryFor table "re.Pattern.sub.loop" = some Builtin.«re.Pattern.sub.loop» := entryFor_of_tree (by kernel_rfl)
theorem entry_sub : entryFor table "re.Pattern.sub" = some Builtin.«re.Pattern.sub» := entryFor_of_tree (by kernel_rfl)
theorem plain_subLoop : plainId "re.Pattern.sub.loop" = true := by decide +kernel
theorem pushL {M : Model} {E : Value → Shared → Prop} {hB : Heap} {l : Addr} {vs : List Value} {nn : Nat} {v : Value} {Q : Unit → Shared → Prop} (hl : hB.get? l = none) (hk : Keeps hB s.heap)
    (hls : s.heap.get? l = some { cls := .type "list", data := .seq vs.toArray nn }) (hz : vs.length ≤ 2 ^ 23)
    (h : ∀ h' nn', Keeps hB h' → h'.get? l = some { cls := .type "list", data := .seq (vs ++ [v]).toArray nn' } → Q () { s with heap := h' }) :
    wpAny M A (updateSeq l (·.push v)) Q E s := by
  refine wpAny_updateSeq hls rfl ?_ (by rw [List.size_toArray]; show vs.length ≤ 2 ^ 24; omega) (by simp; show vs.length ≤ 2 ^ 24; omega)
  refine h _ (nn + 1) (fun b o e => ?_) ((Heap.get?_update_self _ hls rfl).trans ?_)
  · have : b ≠ l := fun q => by rw [q, hl] at e; cases e
    exact (Heap.get?_update_other _ _ (Ne.symm this)).trans (hk b o e)
  · simp [Obj.mapSeq]
theorem slice_ {M : Model} {E : Value → Shared → Prop} {x : Str} {b e : Nat} {Q : Value → Shared → Prop} (hx : x.cps.size ≤ 2 ^ 22) (h : Q (.str ⟨x.cps.extract b e⟩ s.toks) { s with toks := s.toks + 1 }) :
    wpAny M A (reSlice x.cps 0 b e) Q E s := by
  unfold reSlice
  rw [if_pos (by rfl)]
  refine wpAny_mkStr h ?_
  show (x.cps.extract b e).size ≤ 2 ^ 24
  rw [Array.size_extract]; omega
theorem cpsAll_append (a b : List (Str × Tok)) : cpsAll (a ++ b) = cpsAll a ++ cpsAll b := by unfold cpsAll; rw [List.flatMap_append]
theorem joinEnd {E : Value → Shared → Prop} {hB : Heap} {l : Addr} {x : Str} {ps : List (Str × Tok)} {nn : Nat} {Q : Fin → Shared → Prop} {n : Int} (hx : x.cps.size ≤ 2 ^ 22) (hk : Keeps hB s.heap)
    (hls : s.heap.get? l = some { cls := .type "list", data := .seq (strValues ps).toArray nn }) (hz : (cpsAll ps).length ≤ 2 ^ 24)
    (h : ∀ tv tk, Q (.done (.ret (.str ⟨(cpsAll ps).toArray⟩ tv))) { s with toks := tk }) :
    wpAny (model prog w) A (do
        let joiner ← reSlice x.cps 0 0 0
        let items ← seqItems? (Value.ref l)
        if (items.getD #[]).isEmpty = true then do
            let text ← pure joiner
            if false = true then do
                let v ← holding [text] do
                      let i ← mkInt n
                      newTuple [text, i]
                ret v
              else ret text
          else do
            let text ← call (Value.builtin (if ((0 : Nat) == 0) = true then "str.join" else "bytes.join")) [joiner, Value.ref l]
            if false = true then do
                let v ← holding [text] do
                      let i ← mkInt n
                      newTuple [text, i]
                ret v
              else ret text) Q E s := by
  refine wpAny_bind (slice_ hx ?_)
  refine wpAny_bind (wpAny_seqItems hls rfl ?_)
  have he : x.cps.extract 0 0 = #[] := by simp
  split
  · next q =>
    refine wpAny_bind (wpAny_pure ?_)
    rw [if_neg (by decide)]
    refine wpAny_pure ?_
    have : ps = [] := by
      have : (strValues ps) = [] := by simpa using q
      simpa [strValues] using this
    subst this
    rw [he]
    exact h _ _
  · rw [if_pos (by rfl)]
    refine wpAny_bind (SC.join (l := ps) (texts := ps.map (·.1)) ⟨_, hls, rfl, _, rfl⟩ rfl ?_ fun tv tk => ?_)
    · rw [he]
      refine joinOk_empty _ ?_
      rw [List.flatMap_map]
      exact hz
    · rw [if_neg (by decide)]
      refine wpAny_pure ?_
      rw [he, join_empty, List.flatMap_map]
      exact h _ _
def lArgs (P l : Addr) (x r : Str) (t tr : Tok) (n k : Int) : Args := ⟨[.ref P, .str x t, .str r tr, rawInt 0, rawInt 0, rawInt n, rawInt k, rawInt k, .bool false, .ref l, .bool false], []⟩

theorem subLoop {c : Array Nat} {rl : List Nat} (pat : Pat c rl) {P ct l : Addr} {src fl : Value} {x r : Str} {t tr : Tok} (hr : r.cps.toList = rl) (hx : x.cps.size ≤ 2 ^ 22) (hB : Heap) (hP : hB.get? P = some (patObj src fl ct 0)) (hC : hB.get? ct = some (codeObj c)) (hl : hB.get? l = none)
    (hrl : rl.length ≤ 2) {R : Result → Shared → Prop} : ∀ (d k : Nat) (n : Int) (ps : List (Str × Tok)) (nn : Nat) (s : Shared), d = x.cps.size - k → k ≤ x.cps.size → Keeps hB s.heap →
      s.heap.get? l = some { cls := .type "list", data := .seq (strValues ps).toArray nn } → ps.length ≤ 2 * k → (cpsAll ps).length ≤ 2 * k →
      (∀ h' tv tk, Keeps hB h' → R (.ok (.ret (.str ⟨(cpsAll ps ++ pat.rest x.cps k).toArray⟩ tv))) { s with heap := h', toks := tk }) →
      codeAny (model prog w) A (.builtin "re.Pattern.sub.loop" (lArgs P l x r t tr n (k : Int))) R s := by
  intro d
  induction d using Nat.strongRecOn with
  | ind d ih =>
    intro k n ps nn s hd hk hkeep hls hpl hsl hR
    have hq : (Code.builtin "re.Pattern.sub.loop" (lArgs P l x r t tr n (k : Int))).quiet = true := plainId_quiet plain_subLoop _
    refine codeAny_builtin entry_subLoop ?_
    rw [Around.under_plainId plain_subLoop]
    unfold Builtin.«re.Pattern.sub.loop»
    simp only [lArgs, rawInt]
    refine wpAny_bind (wholeTarget (hkeep _ _ hP) (hkeep _ _ hC) ?_)
    rw [if_pos (by rfl)]
    unfold reLiteralCannotBeTurned
    refine wpAny_bind (wpAny_bind (wpAny_pure (wpAny_pure ?_)))
    rw [if_neg (by rw [show ((0 : Int) != 0) = false from rfl, Bool.false_and]; decide)]
    obtain ⟨N, m', hN, hto, hm⟩ := pat.finds x.cps k hk (by omega)
    unfold reNextFound
    dsimp only
    have hres : ((k : Int)).toNat = k := rfl
    simp only [hres]
    cases hnx : pat.next x.cps k with
    | none =>
      rw [hnx] at hm
      refine wpAny_bind (runToEnd hto hN (.inr ⟨hm, ?_⟩))
      dsimp only
      have hrest := pat.none_ x.cps k hk hnx
      split
      · next hlt =>
        refine wpAny_bind (slice_ hx ?_)
        refine wpAny_bind (pushL hl hkeep hls (by simp only [strValues, List.length_map]; omega) fun h' nn' hk' hl' => ?_)
        have hcat : cpsAll (ps ++ [((⟨x.cps.extract k x.cps.size⟩ : Str), s.toks)]) = cpsAll ps ++ pat.rest x.cps k := by
          rw [cpsAll_append, hrest]
          simp [cpsAll, Array.toList_extract]
          rw [List.take_of_length_le (by simp)]
        refine joinEnd (ps := ps ++ [(⟨x.cps.extract k x.cps.size⟩, s.toks)]) hx hk' (by simpa [strValues] using hl') ?_ fun tv tk => ?_
        · rw [hcat, hrest]
          simp; omega
        · rw [hcat]
          exact hR _ _ _ hk'
      · next hlt =>
        have : pat.rest x.cps k = [] := by rw [hrest]; exact List.drop_eq_nil_of_le (by simp; omega)
        refine joinEnd hx hkeep hls (by omega) fun tv tk => ?_
        have := hR s.heap tv tk hkeep
        rw [‹pat.rest x.cps k = []›, List.append_nil] at this
        exact this
    | some pe =>
      obtain ⟨p, e⟩ := pe
      rw [hnx] at hm
      obtain ⟨h1, h2, h3⟩ := pat.inside _ _ _ _ hnx
      refine wpAny_bind (runToEnd hto hN (.inl ⟨hm.1, ?_⟩))
      dsimp only
      rw [hm.2.1, hm.2.2]
      have hrest := pat.some_ x.cps k p e hk hnx
      have hne : (e == p) = false := by simp; omega
      rw [hne]
      have hrlen : r.cps.toList.length ≤ 2 := by rw [hr]; exact hrl
      -- behind the piece ahead of the match
      have go : ∀ (ps' : List (Str × Tok)) (nn' : Nat) (s' : Shared), s'.gens = s.gens → s'.drawn = s.drawn → s'.os = s.os → Keeps hB s'.heap →
          s'.heap.get? l = some { cls := .type "list", data := .seq (strValues ps').toArray nn' } → cpsAll ps' = cpsAll ps ++ (x.cps.toList.drop k).take (p - k) → ps'.length ≤ ps.length + (p - k) →
          wpAny (model prog w) A.in1 (if ((0 : Int) == 0) = true then do
              let item ← pure (Value.str r tr)
              if (item != Value.none) = true then do
                  updateSeq l fun x => x.push item
                  again (Code.builtin "re.Pattern.sub.loop" { pos := [Value.ref P, Value.str x t, Value.str r tr, Value.int 0 0, Value.int 0 0, Value.int (n + 1) 0, Value.int (↑e) 0, Value.int (↑e) 0, Value.bool false, Value.ref l, Value.bool false] })
                else again (Code.builtin "re.Pattern.sub.loop" { pos := [Value.ref P, Value.str x t, Value.str r tr, Value.int 0 0, Value.int 0 0, Value.int (n + 1) 0, Value.int (↑e) 0, Value.int (↑e) 0, Value.bool false, Value.ref l, Value.bool false] })
            else do
              let found ← reNewMatch (Value.ref P) (Value.str x t) 0 0 x.cps.size m'
              let item ← holding [found] (if ((0 : Int) == 1) = true then call (Value.str r tr) [found]
                  else do
                    let f ← reFound found
                    reExpand (Value.str r tr) f)
              if (item != Value.none) = true then do
                  updateSeq l fun x => x.push item
                  again (Code.builtin "re.Pattern.sub.loop" { pos := [Value.ref P, Value.str x t, Value.str r tr, Value.int 0 0, Value.int 0 0, Value.int (n + 1) 0, Value.int (↑e) 0, Value.int (↑e) 0, Value.bool false, Value.ref l, Value.bool false] })
                else again (Code.builtin "re.Pattern.sub.loop" { pos := [Value.ref P, Value.str x t, Value.str r tr, Value.int 0 0, Value.int 0 0, Value.int (n + 1) 0, Value.int (↑e) 0, Value.int (↑e) 0, Value.bool false, Value.ref l, Value.bool false] }))
            (fun fin s' => match fin with
              | Fin.done f => R (Except.ok f) s'
              | Fin.again c' => c'.quiet = true ∧ codeAny (model prog w) A c' R s')
            (fun e s' => R (Except.error e) s') s' := by
        intro ps' nn' s' hg hdr hos hk' hl' hcat hlen
        rw [if_pos (by rfl)]
        refine wpAny_bind (wpAny_pure ?_)
        have hcl : (cpsAll ps').length ≤ 2 * k + (p - k) := by
          rw [hcat, List.length_append, List.length_take]; omega
        rw [if_pos (by rfl)]
        refine wpAny_bind (pushL hl hk' hl' (by simp only [strValues, List.length_map]; omega) fun h'' nn'' hk'' hl'' => ?_)
        refine wpAny_pure ⟨plainId_quiet plain_subLoop _, ?_⟩
        refine ih (x.cps.size - e) (by omega) e (n + 1) (ps' ++ [(r, tr)]) nn'' _ rfl h3 hk'' (by simpa [strValues] using hl'') (by simp; omega) ?_ fun h3 tv tk hk3 => ?_
        · rw [cpsAll_append, List.length_append]
          simp only [cpsAll, List.flatMap_cons, List.flatMap_nil, List.append_nil]
          simp only [cpsAll] at hcl
          omega
        · have := hR h3 tv tk hk3
          rw [hrest] at this
          have e2 : cpsAll (ps' ++ [(r, tr)]) ++ pat.rest x.cps e = cpsAll ps ++ ((x.cps.toList.drop k).take (p - k) ++ (rl ++ pat.rest x.cps e)) := by
            rw [cpsAll_append, hcat]
            simp [cpsAll, hr]
          rw [e2]
          show R _ { heap := h3, gens := s'.gens, drawn := s'.drawn, toks := tk, os := s'.os }
          rw [hg, hdr, hos]
          exact this
      split
      · next hlt =>
        refine wpAny_bind (slice_ hx ?_)
        refine wpAny_bind (pushL hl hkeep hls (by simp only [strValues, List.length_map]; omega) fun h' nn' hk' hl' => ?_)
        refine go (ps ++ [(⟨x.cps.extract k p⟩, s.toks)]) nn' _ rfl rfl rfl hk' (by simpa [strValues] using hl') ?_ (by simp; omega)
        rw [cpsAll_append]
        simp [cpsAll, Array.toList_extract]
      · next hlt =>
        refine go ps nn s rfl rfl rfl hkeep hls ?_ (by omega)
        have : p - k = 0 := by omega
        rw [this]; simp
end
end Mine

end

/-! RxSub -/
section
open PySem PySem.W PyProof.Rows
namespace Mine
open PySem.Builtin PySem.Builtin.Re

theorem slot_re_sub : Slot "re.Pattern" "sub" "re.Pattern.sub" :=
  .of (owner := "re.Pattern") (n := "sub") (by rw [typeLookup_type, builtinLookup_eq_fast]; kernel_rfl) (by decide +kernel) (by decide +kernel) (by decide +kernel)
    (by first | exact .inl (by decide +kernel) | exact .inr (by decide +kernel)) (by rw [isSubtype_type]; kernel_rfl)
theorem owner_re : Manifest.owners.lookup (String.ofList ['n', 'r', 'e', 't', 't', 'a', 'P', '.', 'e', 'r'].reverse) = some Manifest.sig_re_Pattern := by kernel_rfl
theorem args_re_sub (a b c : Value) : argsOk "re.Pattern.sub" ⟨[a, b, c], []⟩ := by
  unfold argsOk
  rw [signature?_of (id := "re.Pattern.sub") (n := ['b', 'u', 's']) (o := ['n', 'r', 'e', 't', 't', 'a', 'P', '.', 'e', 'r']) (by kernel_rfl) owner_re]
  kernel_rfl
theorem str_nocall : typeLookup (.type "str") "__call__" = pure none := by rw [typeLookup_type, builtinLookup_eq_fast]; kernel_rfl
theorem named_sub (r x : Value) : reNamed "re.Pattern.sub" "sub" ["repl", "string", "count"] 2 [r, x] [] = pure [some r, some x, none] := by
  rfl

section
variable {prog : Program} {w : World} {A : Around} {E : Value → Shared → Prop} {s : Shared}
theorem call_sub {c : Array Nat} {rl : List Nat} (pat : Pat c rl) {P ct : Addr} {src fl : Value} {x r : Str} {t tr : Tok} {Q : Value → Shared → Prop} (hr : r.cps.toList = rl) (hno : r.cps.contains 92 = false) (hx : x.cps.size ≤ 2 ^ 22) (hrl : rl.length ≤ 2)
    (hP : s.heap.get? P = some (patObj src fl ct 0)) (hC : s.heap.get? ct = some (codeObj c))
    (h : ∀ h' tv tk, Keeps s.heap h' → Q (.str ⟨(pat.rest x.cps 0).toArray⟩ tv) { s with heap := h', toks := tk }) :
    wpAny (model prog w) A (call (.builtin "re.Pattern.sub") [.ref P, .str r tr, .str x t]) Q E s := by
  refine wpAny_call (codeAny_call_builtin slot_re_sub.plain entry_sub (slot_re_sub.check _ _ _ _ _ _ _ _ ⟨_, hP, rfl⟩ (args_re_sub _ _ _) ?_))
  unfold Builtin.«re.Pattern.sub» reSubstitute
  dsimp only
  rw [named_sub]
  refine wpAny_bind (wpAny_pure ?_)
  dsimp only
  refine wpAny_bind (wpAny_pure ?_)
  refine wpAny_bind (wpAny_specialOf_val rfl str_nocall ?_)
  rw [if_neg (by decide)]
  refine wpAny_bind (wpAny_pure ?_)
  dsimp only
  refine wpAny_bind (wpAny_pure ?_)
  rw [hno]
  rw [if_neg (by decide), if_pos (by rfl)]
  refine wpAny_bind (wpAny_pure ?_)
  dsimp only
  refine wpAny_bind (wpAny_holding (wholeTarget hP hC ?_))
  rw [if_neg (by decide)]
  refine wpAny_bind (wpAny_newList ?_)
  refine wpAny_pure ⟨plainId_quiet plain_subLoop _, ?_⟩
  have hnone : s.heap.get? s.heap.objs.size = none := by
    cases e : s.heap.get? s.heap.objs.size with
    | none => rfl
    | some o => exact absurd (Heap.lt_size e) (Nat.lt_irrefl _)
  refine subLoop pat hr hx s.heap hP hC hnone hrl (x.cps.size) 0 0 [] 0 _ rfl (Nat.zero_le _) (fun b o e => Heap.get?_push_of_some _ e) (Heap.get?_push_size _ rfl) (Nat.le_refl _) (Nat.le_refl _) fun h' tv tk hk => ?_
  exact h h' tv tk hk

theorem re_ga : typeLookup (.type "re.Pattern") "__getattribute__" = pure (some (.builtin "object.__getattribute__")) := by rw [typeLookup_type, builtinLookup_eq_fast]; kernel_rfl
theorem re_noga : typeLookup (.type "re.Pattern") "__getattr__" = pure none := by rw [typeLookup_type, builtinLookup_eq_fast]; kernel_rfl
theorem re_ga_canon : (Manifest.canonical "object.__getattribute__" != "object.__getattribute__") = false := by decide +kernel
theorem re_sub_type : typeOf (.builtin "re.Pattern.sub") = pure (.type "method_descriptor") := by show builtinType _ = _; rw [builtinType_eq_fast]; kernel_rfl
theorem getMethod_sub {M : Model} {P ct : Addr} {src fl : Value} {k : Int} {pl : Sem Bool} {Q : Value × List Value → Shared → Prop} (hP : s.heap.get? P = some (patObj src fl ct k)) (h : Q (.builtin "re.Pattern.sub", [.ref P]) s) :
    wpAny M A (getMethod (.ref P) "sub" pl) Q E s := by
  have hT : s.TypeIs (.ref P) "re.Pattern" := ⟨_, hP, rfl⟩
  unfold getMethod
  refine wpAny_bind (wpAny_specialOf hT re_ga ?_)
  dsimp only
  rw [if_neg (by rw [re_ga_canon]; decide)]
  refine wpAny_bind (wpAny_specialOf hT re_noga ?_)
  rw [if_neg (by decide)]
  refine wpAny_bind (wpAny_specialOf hT slot_re_sub.lookup ?_)
  dsimp only
  refine wpAny_bind (wpAny_of_eq re_sub_type ?_)
  rw [if_neg (by decide)]
  refine wpAny_bind (wpAny_loadPart hP ?_)
  exact wpAny_bind (wpAny_rule (wpAny_pure h))

def fixS (x : Str) : Str := ⟨(fixL x.cps.toList).toArray⟩
def dotS (x : Str) : Str := ⟨(dotL true x.cps.toList).toArray⟩
theorem call_fix {h₀ : Heap} {L : Addr} {m : Str → Option Value} {news : List (Addr × Obj)} {P ct : Addr} {src fl : Value} {x r : Str} {t tr : Tok} {Q : Value → Shared → Prop} (F : Fr h₀ L s.heap m) (N : News h₀ L s.heap news)
    (hP : h₀.get? P = some (patObj src fl ct 0)) (hC : h₀.get? ct = some (codeObj c3)) (hr : r.cps.toList = [13, 10]) (hx : x.length ≤ 4194304)
    (h : ∀ h' tv tk, (fixS x).length ≤ 2 * x.length → Fr h₀ L h' m → News h₀ L h' news → Q (.str (fixS x) tv) { s with heap := h', toks := tk }) :
    wpAny (model prog w) A (call (.builtin "re.Pattern.sub") [.ref P, .str r tr, .str x t]) Q E s := by
  refine call_sub fixPat hr ?_ (by show x.length ≤ 2 ^ 22; omega) (by decide) (F.keep _ _ hP) (F.keep _ _ hC) fun h' tv tk hk => h h' tv tk ?_ (F.keeps hk) (N.grown hk)
  · rw [← Array.contains_toList, hr]; rfl
  · show (fixL _).toArray.size ≤ 2 * x.cps.size
    rw [List.size_toArray]
    exact fixL_length _
theorem call_dot {h₀ : Heap} {L : Addr} {m : Str → Option Value} {news : List (Addr × Obj)} {P ct : Addr} {src fl : Value} {x r : Str} {t tr : Tok} {Q : Value → Shared → Prop} (F : Fr h₀ L s.heap m) (N : News h₀ L s.heap news)
    (hP : h₀.get? P = some (patObj src fl ct 0)) (hC : h₀.get? ct = some (codeObj c1)) (hr : r.cps.toList = [46, 46]) (hx : x.length ≤ 4194304)
    (h : ∀ h' tv tk, (dotS x).length ≤ 2 * x.length → Fr h₀ L h' m → News h₀ L h' news → Q (.str (dotS x) tv) { s with heap := h', toks := tk }) :
    wpAny (model prog w) A (call (.builtin "re.Pattern.sub") [.ref P, .str r tr, .str x t]) Q E s := by
  refine call_sub dotPat hr ?_ (by show x.length ≤ 2 ^ 22; omega) (by decide) (F.keep _ _ hP) (F.keep _ _ hC) fun h' tv tk hk => h h' tv tk ?_ (F.keeps hk) (N.grown hk)
  · rw [← Array.contains_toList, hr]; rfl
  · show (dotL _ _).toArray.size ≤ 2 * x.cps.size
    rw [List.size_toArray]
    exact dotL_length _ _
end
end Mine

end

/-! P01 -/
section
open PySem PySem.W PyProof.Rows
namespace Mine
def lastS (pre : List Int) : Str := match pre.getLast? with
  | none => Str.ofString ""
  | some c => ⟨#[c.toNat]⟩
def signS (ahead sign : Str) : Str :=
  if sign = Str.ofString "\r" then Str.ofString "\r\n"
  else if sign = Str.ofString "\n" then (if ahead = Str.ofString "\r" then Str.ofString "" else Str.ofString "\r\n")
  else if sign = Str.ofString "." ∧ (ahead = Str.ofString "" ∨ ahead = Str.ofString "\r" ∨ ahead = Str.ofString "\n") then Str.ofString ".." else sign
def dueOf : Str → List Int → List Str
  | _, [] => []
  | ahead, c :: r => signS ahead ⟨#[c.toNat]⟩ :: dueOf ⟨#[c.toNat]⟩ r
def Inv1 (pre : List Int) (due : List Str) (ahead : Str) : Prop := due = dueOf (Str.ofString "") pre ∧ ahead = lastS pre
theorem dueOf_snoc (c : Int) : ∀ (pre : List Int) (a : Str), dueOf a (pre ++ [c]) = dueOf a pre ++ [signS (match pre.getLast? with | none => a | some c => ⟨#[c.toNat]⟩) ⟨#[c.toNat]⟩]
  | [], a => rfl
  | d :: r, a => by
    rw [List.cons_append, dueOf, dueOf_snoc c r, dueOf, List.cons_append]
    cases r with
    | nil => rfl
    | cons e r => rw [List.getLast?_cons_cons, List.getLast?_eq_some_getLast (l := e :: r) (by simp)]
theorem inv1_nil : (([] : List Str).length = ([] : List Int).length ∧ Inv1 [] [] (Str.ofString "")) := ⟨rfl, rfl, rfl⟩
theorem inv1_snoc {pre : List Int} {due : List Str} {ahead : Str} {n : Nat} (hl : due.length = pre.length) (h : Inv1 pre due ahead) :
    ((due ++ [signS ahead ⟨#[n]⟩]).length = (pre ++ [(n : Int)]).length ∧ Inv1 (pre ++ [(n : Int)]) (due ++ [signS ahead ⟨#[n]⟩]) ⟨#[n]⟩) := by
  obtain ⟨h1, h2⟩ := h
  refine ⟨by simp [hl], ?_, by simp [lastS]⟩
  rw [dueOf_snoc, ← h1, h2]
  rfl
def flat (l : List Str) : List Nat := l.flatMap fun p => p.cps.toList
theorem signS_len (a : Str) (c : Nat) : (signS a ⟨#[c]⟩).cps.toList.length ≤ 2 := by
  unfold signS
  split
  · decide
  · split
    · split <;> decide
    · split
      · decide
      · simp
theorem dueOf_len : ∀ (pre : List Int) (a : Str), (flat (dueOf a pre)).length ≤ 2 * pre.length
  | [], _ => by simp [dueOf, flat]
  | c :: r, a => by
    have h1 := signS_len a c.toNat
    have h2 := dueOf_len r ⟨#[c.toNat]⟩
    unfold flat at h2 ⊢
    rw [dueOf, List.flatMap_cons, List.length_append, List.length_cons]
    omega
theorem inv1_len {x : Str} {due : List Str} {ahead : Str} (h : Inv1 (KStt.codes x) due ahead) (hx : x.length ≤ 1000) : (flat due).length ≤ sizeLine := by
  rw [h.1]
  refine Nat.le_trans (dueOf_len _ _) ?_
  rw [KStt.codes_length]
  show 2 * x.length ≤ 2 ^ 24
  omega

/-! the law itself -/
def sgn (a : Option Nat) (c : Nat) : List Nat :=
  if c = 13 then [13, 10]
  else if c = 10 then (if a = some 13 then [] else [13, 10])
  else if c = 46 ∧ (a = none ∨ a = some 13 ∨ a = some 10) then [46, 46] else [c]
def dueN : Option Nat → List Nat → List Nat
  | _, [] => []
  | a, c :: r => sgn a c ++ dueN (some c) r
def headA (a : Option Nat) : Bool := match a with | none => true | some c => c == 10 || c == 13
theorem quote_due (l : List Nat) : ∀ a, (a = some 13 → ∀ r, l ≠ 10 :: r) → dotL (headA a) (fixL l) = dueN a l := by
  induction l using fixL.induct with
  | case1 => intro a _; simp [fixL, dotL, dueN]
  | case2 r ih =>
    intro a _
    rw [fixL_crlf, dotL, dotL]
    have := ih (some 10) (by simp)
    simp only [headA] at this
    simp [dueN, sgn, ← this]
  | case3 r h ih =>
    intro a _
    rw [fixL_cr (fun r' e => h r' e), dotL, dotL]
    have := ih (some 13) (fun _ r' e => h r' e)
    simp only [headA] at this
    simp [dueN, sgn, ← this]
  | case4 r ih =>
    intro a ha
    rw [fixL_lf, dotL, dotL]
    have := ih (some 10) (by simp)
    simp only [headA] at this
    have h13 : ¬ a = some 13 := fun e => ha e r rfl
    simp [dueN, sgn, ← this, h13]
  | case5 c r h1 h2 h3 ih =>
    intro a _
    have h13 : c ≠ 13 := fun e => h2 e
    have h10 : c ≠ 10 := fun e => h3 e
    rw [fixL_plain h10 h13, dotL]
    have := ih (some c) (fun e => absurd (Option.some.inj e) h13)
    have e1 : headA (some c) = (c == 10) := by simp [headA, h13]
    rw [← e1, this, dueN]
    congr 1
    unfold sgn
    rw [if_neg h13, if_neg h10]
    have e2 : (headA a && c == 46) = true ↔ (c = 46 ∧ (a = none ∨ a = some 13 ∨ a = some 10)) := by
      cases a with
      | none => simp [headA]
      | some d => simp only [headA, Bool.and_eq_true, Bool.or_eq_true, beq_iff_eq, Option.some.injEq, reduceCtorEq, false_or]; omega
    by_cases h : (headA a && c == 46) = true
    · rw [if_pos h, if_pos (e2.mp h)]
    · rw [if_neg h, if_neg (fun q => h (e2.mpr q))]
def aheadS : Option Nat → Str
  | none => Str.ofString ""
  | some c => ⟨#[c]⟩
theorem one_eq (c d : Nat) : ((⟨#[c]⟩ : Str) = ⟨#[d]⟩) ↔ c = d := by simp
theorem S_cr : Str.ofString "\r" = ⟨#[13]⟩ := by decide +kernel
theorem S_lf : Str.ofString "\n" = ⟨#[10]⟩ := by decide +kernel
theorem S_dot : Str.ofString "." = ⟨#[46]⟩ := by decide +kernel
theorem S_nil : Str.ofString "" = ⟨#[]⟩ := by decide +kernel
theorem S_crlf : Str.ofString "\r\n" = ⟨#[13, 10]⟩ := by decide +kernel
theorem S_dots : Str.ofString ".." = ⟨#[46, 46]⟩ := by decide +kernel
theorem signS_cps (a : Option Nat) (c : Nat) : (signS (aheadS a) ⟨#[c]⟩).cps.toList = sgn a c := by
  unfold signS sgn
  rw [S_cr, S_lf, S_dot, S_nil, S_crlf, S_dots]
  have e1 : (aheadS a = ⟨#[13]⟩) ↔ a = some 13 := by cases a <;> simp [aheadS, S_nil]
  have e2 : (aheadS a = ⟨#[10]⟩) ↔ a = some 10 := by cases a <;> simp [aheadS, S_nil]
  have e3 : (aheadS a = ⟨#[]⟩) ↔ a = none := by cases a <;> simp [aheadS, S_nil]
  simp only [e1, e2, e3, one_eq]
  split
  · rfl
  · split
    · split <;> rfl
    · split <;> rfl
theorem dueOf_flat : ∀ (l : List Nat) (a : Option Nat), flat (dueOf (aheadS a) (l.map fun c : Nat => (c : Int))) = dueN a l
  | [], _ => rfl
  | c :: r, a => by
    have := dueOf_flat r (some c)
    unfold flat at this ⊢
    rw [List.map_cons, dueOf, List.flatMap_cons, dueN, Int.toNat_natCast]
    rw [signS_cps]
    exact congrArg _ this
theorem law1 {x : Str} {due : List Str} {ahead : Str} (h : Inv1 (KStt.codes x) due ahead) : dotS (fixS x) = ⟨(flat due).toArray⟩ := by
  rw [h.1]
  unfold dotS fixS
  have e := dueOf_flat x.cps.toList none
  have q := quote_due x.cps.toList none (by simp)
  simp only [aheadS] at e
  unfold KStt.codes
  rw [e, ← q]
  rfl
theorem law1_end {x : Str} {due : List Str} {ahead : Str} (h : Inv1 (KStt.codes x) due ahead) : ((dotS (fixS x) == ⟨(flat due).toArray⟩) == true) = true := by
  rw [law1 h]; simp
section
variable {prog : Program} {w : World} {A : Around} {E : Value → Shared → Prop} {s : Shared}
theorem strsAre_open : ∀ {vs : List Value} {ws : List Str}, StrsAre vs ws → ∃ l, vs = strValues l ∧ l.map (·.1) = ws
  | _, _, .nil => ⟨[], rfl, rfl⟩
  | _, _, .cons x t r => by
    obtain ⟨l, h1, h2⟩ := strsAre_open r
    exact ⟨(x, t) :: l, by rw [h1]; rfl, by rw [← h2]; rfl⟩
theorem join_strs {D : Addr} {vs : List Value} {ws : List Str} {t : Tok} {Q : Value → Shared → Prop} (hl : s.heap.IsList D vs.toArray) (hs : StrsAre vs ws) (hb : (flat ws).length ≤ sizeLine)
    (h : ∀ t' k, Q (.str ⟨(flat ws).toArray⟩ t') { s with toks := k }) : wpAny (model prog w) A (call (.builtin "str.join") [.str (Str.ofString "") t, .ref D]) Q E s := by
  obtain ⟨l, rfl, rfl⟩ := strsAre_open hs
  rw [S_nil]
  refine SC.join (l := l) hl rfl (joinOk_empty _ hb) fun t' k => ?_
  rw [join_empty]
  exact h t' k
end
end Mine

end

/-! RxCodec -/
section
open PySem PySem.W PyProof.Rows
namespace Mine
open PySem.Builtin

def enc (l : List Nat) : List UInt8 := l.flatMap Str.utf8Of
def Low (l : List Nat) : Prop := ∀ c ∈ l, c < 2048
theorem low_not_bad {c : Nat} (h : c < 2048) : Str.isSurrogate c = false := by
  simp [Str.isSurrogate]; omega
theorem foldl_enc (l : List Nat) : ∀ out : Array UInt8, (l.foldl (fun acc y => acc ++ (Str.utf8Of y).toArray) out) = out ++ (enc l).toArray := by
  induction l with
  | nil => intro out; simp [enc]
  | cons c r ih => intro out; rw [List.foldl_cons, ih]; apply Array.ext'; simp [enc]
theorem enc_len : ∀ (l : List Nat), Low l → (enc l).length ≤ 2 * l.length
  | [], _ => by simp [enc]
  | c :: r, h => by
    have h1 := enc_len r (fun d hd => h d (.tail _ hd))
    have hc := h c (.head _)
    have : (Str.utf8Of c).length ≤ 2 := by
      unfold Str.utf8Of
      by_cases h1 : c < 128
      · rw [if_pos h1]; simp
      · rw [if_neg h1, if_pos hc]; simp
    unfold enc at h1 ⊢
    rw [List.flatMap_cons, List.length_append, List.length_cons]
    omega

section
variable {M : Model} {A : Around} {E : Value → Shared → Prop} {s : Shared}
theorem narrow {Q : Array UInt8 → Shared → Prop} {self : Value} {x : Str} (hl : Low x.cps.toList) (hx : x.cps.size ≤ 2 ^ 22) (h : Q (enc x.cps.toList).toArray s) :
    wpAny M A (_codecs.encodeNarrow "str.encode" _codecs.utf8Codec none self x) Q E s := by
  have hbad : ∀ c ∈ x.cps.toList, _codecs.utf8Codec.bad c = false := fun c hc => low_not_bad (hl c hc)
  have hsz : (enc x.cps.toList).toArray.size ≤ 2 * x.cps.size := by
    have := enc_len _ hl
    rw [Array.length_toList] at this
    rw [List.size_toArray]; exact this
  unfold _codecs.encodeNarrow
  dsimp only
  rw [Std.Legacy.Range.forIn_eq_forIn_range']
  refine wpAny_bind (wpAny_forIn_list _ (fun rest b s' => s' = s ∧ ((b.1 = 0 ∧ b.2.1 = #[] ∧ rest.length = x.cps.size) ∨ (b.1 = x.cps.size ∧ b.2.1 = (enc x.cps.toList).toArray))) _ ?_ ?_ _ _ ⟨rfl, .inl ⟨rfl, rfl, ?_⟩⟩)
  · rintro k rest ⟨i, out, st⟩ s' ⟨rfl, h | h⟩
    · obtain ⟨h1, h2, h3⟩ := h
      dsimp only at h1 h2 ⊢
      subst h1 h2
      rw [if_neg (by show ¬ (0 > 2 ^ 24); omega)]
      have hpos : 0 < x.cps.size := by rw [← h3]; simp
      rw [Array.getElem?_eq_getElem hpos]
      dsimp only
      have hb0 : _codecs.utf8Codec.bad x.cps[0] = false := hbad _ (by simp)
      rw [hb0]
      rw [if_pos (by rfl)]
      have hnone : Array.findIdx? _codecs.utf8Codec.bad (x.cps.extract 0) = none := by
        rw [Array.findIdx?_eq_none_iff]
        intro c hc
        exact hbad c (by simpa using hc)
      rw [hnone]
      refine wpAny_pure ⟨rfl, .inr ⟨?_, ?_⟩⟩
      · simp
      · dsimp only [Option.getD_none]
        have e : ((x.cps.extract 0).extract 0 (x.cps.extract 0).size) = x.cps := by simp
        rw [e, ← Array.foldl_toList]
        have := foldl_enc x.cps.toList #[]
        rw [Array.empty_append] at this
        exact this
    · obtain ⟨h1, h2⟩ := h
      dsimp only at h1 h2 ⊢
      subst h1 h2
      rw [if_neg (by show ¬ (_ > 2 ^ 24); omega)]
      rw [Array.getElem?_eq_none (Nat.le_refl _)]
      exact wpAny_pure (wpAny_pure h)
  · rintro ⟨i, out, st⟩ s' ⟨rfl, h' | h'⟩
    · obtain ⟨h1, h2, h3⟩ := h'
      dsimp only at h2 ⊢
      have : x.cps.toList = [] := by
        have : x.cps.size = 0 := by rw [← h3]; rfl
        simpa using this
      rw [this] at h
      rw [h2]
      exact wpAny_pure h
    · obtain ⟨h1, h2⟩ := h'
      dsimp only at h2 ⊢
      rw [h2]
      exact wpAny_pure h
  · simp [Str.length]
end
end Mine
namespace Mine
open PySem.Builtin
section
variable {prog : Program} {w : World} {A : Around} {E : Value → Shared → Prop} {s : Shared}
theorem encRoad_eq {self : Value} {x : Str} : _codecs.encodeRoad "str.encode" self x (Str.ofString "utf-8") none = (_codecs.encodeNarrow "str.encode" _codecs.utf8Codec none self x >>= fun b => mkBytes b) := by kernel_rfl
theorem encode_tree {x : Str} {t u : Tok} : «str.encode» ⟨[.str x t, .str (Str.ofString "utf-8") u], []⟩ = (_codecs.encodeRoad "str.encode" (.str x t) x (Str.ofString "utf-8") none >>= fun v => ret v) := by kernel_rfl
theorem call_encode {x : Str} {t u : Tok} {Q : Value → Shared → Prop} (hl : Low x.cps.toList) (hx : x.length ≤ 4194304) (h : ∀ t' k, Q (.bytes (enc x.cps.toList).toArray t') { s with toks := k }) :
    wpAny (model prog w) A (call (.builtin "str.encode") [.str x t, .str (Str.ofString "utf-8") u]) Q E s := by
  refine wpAny_call_entry F.slot_str_encode (typeIs_str _ _ _) F.entry_str_encode ?_ (F.args_str_encode_2 _ _)
  rw [encode_tree, encRoad_eq]
  have hx' : x.cps.size ≤ 2 ^ 22 := by show x.length ≤ 2 ^ 22; omega
  refine wpAny_bind (wpAny_bind (narrow hl hx' ?_))
  refine wpAny_mkBytes (wpAny_pure ⟨_, rfl, h _ _⟩) ?_
  have h1 := enc_len _ hl
  have h2 : x.cps.toList.length = x.cps.size := Array.length_toList
  rw [List.size_toArray]
  show (enc x.cps.toList).length ≤ 2 ^ 24
  omega
end

/-! decoding -/
theorem at_enc (a : List Nat) (c : Nat) (r : List Nat) (hc : c < 2048) :
    Bytes.utf8At (enc (a ++ c :: r)).toArray (enc a).length = (.char c, (enc a).length + (Str.utf8Of c).length) := by
  have e : enc (a ++ c :: r) = enc a ++ (Str.utf8Of c ++ enc r) := by simp [enc]
  rw [e]
  by_cases h : c < 128
  · have hu : Str.utf8Of c = [c.toUInt8] := by unfold Str.utf8Of; rw [if_pos h]
    rw [hu]
    have hg : ((enc a ++ ([c.toUInt8] ++ enc r)).toArray.getD (enc a).length 0) = c.toUInt8 := by simp
    have ht : c.toUInt8.toNat = c := by simp [Nat.toUInt8]; omega
    unfold Bytes.utf8At
    simp only [hg, ht]
    rw [if_pos h]
    rfl
  · have hu : Str.utf8Of c = [(0xC0 + c / 64).toUInt8, (0x80 + c % 64).toUInt8] := by unfold Str.utf8Of; rw [if_neg h, if_pos hc]
    rw [hu]
    have hg : ((enc a ++ ([(0xC0 + c / 64).toUInt8, (0x80 + c % 64).toUInt8] ++ enc r)).toArray.getD (enc a).length 0) = (0xC0 + c / 64).toUInt8 := by simp
    have hg1 : ((enc a ++ ([(0xC0 + c / 64).toUInt8, (0x80 + c % 64).toUInt8] ++ enc r)).toArray)[(enc a).length + 1]? = some (0x80 + c % 64).toUInt8 := by simp
    have ht : (0xC0 + c / 64).toUInt8.toNat = 0xC0 + c / 64 := by simp [Nat.toUInt8]; omega
    have ht1 : (0x80 + c % 64).toUInt8.toNat = 0x80 + c % 64 := by simp [Nat.toUInt8]; omega
    unfold Bytes.utf8At
    simp only [hg, ht]
    rw [if_neg (by omega), if_pos (by simp; omega)]
    simp only [List.range_succ, List.range_zero, List.nil_append, List.map_cons, List.map_nil, List.foldl_cons, List.foldl_nil, Nat.zero_add, hg1, ht1]
    have q : ((if ((1 : Nat) == 1) = true then 128 else 128) ≤ 128 + c % 64) := by simp
    have q2 : (128 + c % 64 ≤ (if ((1 : Nat) == 1) = true then 191 else 191)) := by simp; omega
    simp [Except.bind]
    rw [if_pos (by omega)]
    simp
    omega
section
variable {M : Model} {A : Around} {E : Value → Shared → Prop} {s : Shared}
theorem utf8Of_pos (c : Nat) : 0 < (Str.utf8Of c).length := by
  unfold Str.utf8Of
  split <;> (try split) <;> (try split) <;> simp
theorem runDec {Q : Array Nat × Nat → Shared → Prop} {id : String} {l : List Nat} (hl : Low l) (hx : l.length ≤ 2 ^ 22) (h : ∀ n, Q (l.toArray, n) s) :
    wpAny M A (_codecs.runDecoder id _codecs.utf8Decoder none true (enc l).toArray 0 []) Q E s := by
  unfold _codecs.runDecoder
  dsimp only
  rw [Std.Legacy.Range.forIn_eq_forIn_range']
  refine wpAny_bind (wpAny_forIn_list _ (fun rest b s' => s' = s ∧ ∃ a r, l = a ++ r ∧ b.2.1 = a.toArray ∧ b.1 = (enc a).length ∧ (enc r).length ≤ rest.length) _ ?_ ?_ _ _ ⟨rfl, [], l, rfl, rfl, rfl, ?_⟩)
  · intro k rest bb s' hI
    obtain ⟨p, out, st⟩ := bb
    obtain ⟨hss, a, r, e1, e2, e3, e4⟩ := hI
    dsimp only at e2 e3 ⊢
    subst e2
    subst e3
    subst hss
    have hal : a.length ≤ l.length := by rw [e1]; simp
    rw [if_neg (by rw [List.size_toArray]; show ¬ (_ > 2 ^ 24); omega)]
    cases r with
    | nil =>
      rw [List.append_nil] at e1
      subst e1
      rw [if_pos (by simp)]
      exact wpAny_pure (wpAny_pure (h _))
    | cons c r =>
      have hc : c < 2048 := hl c (by rw [e1]; simp)
      have hlen : (enc l).length = (enc a).length + ((Str.utf8Of c).length + (enc r).length) := by rw [e1]; simp [enc]
      have hp := utf8Of_pos c
      rw [if_neg (by rw [List.size_toArray]; omega)]
      have hf : _codecs.utf8Decoder.find true (enc l).toArray (enc a).length = .text [c] ((enc a).length + (Str.utf8Of c).length) := by
        unfold _codecs.utf8Decoder
        dsimp only
        rw [e1, at_enc a c r hc]
        rfl
      rw [hf]
      refine wpAny_pure ⟨rfl, a ++ [c], r, by rw [e1]; simp, by simp, ?_, ?_⟩
      · simp [enc]
      · have : (enc (c :: r)).length = (Str.utf8Of c).length + (enc r).length := by simp [enc]
        rw [List.length_cons] at e4
        omega
  · intro bb s' hI
    obtain ⟨p, out, st⟩ := bb
    obtain ⟨hss, a, r, e1, e2, e3, e4⟩ := hI
    subst hss
    dsimp only at e2 e3 ⊢
    have : r = [] := by
      cases r with
      | nil => rfl
      | cons c r =>
        have hp := utf8Of_pos c
        have : (enc (c :: r)).length = (Str.utf8Of c).length + (enc r).length := by simp [enc]
        rw [List.length_nil] at e4
        omega
    rw [this, List.append_nil] at e1
    rw [e2, ← e1]
    exact wpAny_pure (h _)
  · simp
end
section
variable {prog : Program} {w : World} {A : Around} {E : Value → Shared → Prop} {s : Shared}
theorem decText {l : List Nat} {t t1 t2 : Tok} {d : Str} {Q : Value → Shared → Prop} (hl : Low l) (hx : l.length ≤ 2 ^ 22) (h : ∀ t' k, Q (.str ⟨l.toArray⟩ t') { s with toks := k }) :
    wpAny (model prog w) A (call (.builtin "_codecs.decode.text") [.bytes (enc l).toArray t, .str (Str.ofString "utf-8") t1, .none, .str d t2]) Q E s := by
  refine Calls.call_function_entry KBd.kind_text KBd.plain_text KBd.entry_text (KBd.args_text _ _ _ _) ?_
  show wpAny _ _ (Bytes.bytesLike _ (.bytes (enc l).toArray t) >>= fun r => _) _ _ s
  refine wpAny_bind (wpAny_of_eq KBd.like_eq ?_)
  refine wpAny_bind (wpAny_of_eq KBd.held_eq ?_)
  show wpAny _ _ (_codecs.decodeRoad _ (enc l).toArray (PySem.Str.ofString "utf-8") none [] >>= fun v => _) _ _ s
  rw [KBd.road_eq]
  refine wpAny_bind (wpAny_bind (runDec hl hx fun n => ?_))
  exact wpAny_mkStr (wpAny_pure ⟨_, rfl, h _ _⟩) (by show l.toArray.size ≤ 2 ^ 24; rw [List.size_toArray]; omega)
theorem args_dec (a b : Value) : argsOk "bytes.decode" ⟨[a, b], []⟩ := by
  unfold argsOk; rw [signature?_of (id := "bytes.decode") (n := ['e', 'd', 'o', 'c', 'e', 'd']) (o := ['s', 'e', 't', 'y', 'b']) (by kernel_rfl) FB.owner_bytes]; kernel_rfl
theorem decode_tree {b : Array UInt8} {t u : Tok} : «bytes.decode» ⟨[.bytes b t, .str (Str.ofString "utf-8") u], []⟩ = (if b.isEmpty = true then (rule "bytes.decode.empty" >>= fun _ => retStr Str.empty) else
    (mkStr (Str.ofString "utf-8") >>= fun _ => mkStr (Str.ofString "utf-8") >>= fun e => mkStr (Str.ofString "bytes.decode") >>= fun d => call (.builtin "_codecs.decode.text") [.bytes b t, e, .none, d] >>= fun v => ret v)) := by kernel_rfl
theorem call_decode {l : List Nat} {t u : Tok} {Q : Value → Shared → Prop} (hl : Low l) (hx : l.length ≤ 2 ^ 22) (h : ∀ t' k, Q (.str ⟨l.toArray⟩ t') { s with toks := k }) :
    wpAny (model prog w) A (call (.builtin "bytes.decode") [.bytes (enc l).toArray t, .str (Str.ofString "utf-8") u]) Q E s := by
  refine wpAny_call_entry FB.slot_bytes_decode (typeIs_bytes _ _ _) FB.entry_bytes_decode ?_ (args_dec _ _)
  rw [decode_tree]
  split
  · next q =>
    have : l = [] := by
      cases l with
      | nil => rfl
      | cons c r =>
        have hp := utf8Of_pos c
        have e : (enc (c :: r)).length = (Str.utf8Of c).length + (enc r).length := by simp [enc]
        have : (enc (c :: r)) = [] := by simpa using q
        rw [this] at e
        simp at e
        omega
    subst this
    exact wpAny_bind (wpAny_rule (wpAny_bind (wpAny_mkStr (wpAny_pure ⟨_, rfl, h _ _⟩) (by decide))))
  · refine wpAny_bind (wpAny_mkStr ?_ (by decide))
    refine wpAny_bind (wpAny_mkStr ?_ (by decide))
    refine wpAny_bind (wpAny_mkStr ?_ (by decide))
    exact wpAny_bind (decText hl hx fun t' k => wpAny_pure ⟨_, rfl, h _ _⟩)
end
end Mine

end

/-! RxBytes -/
section
open PySem PySem.W PyProof.Rows
namespace Mine
open PySem.Builtin PySem.Builtin.Re
def bytesValues (l : List (Array UInt8 × Tok)) : List Value := l.map fun p => .bytes p.1 p.2
def bAll (ps : List (Array UInt8 × Tok)) : List UInt8 := ps.flatMap fun p => p.1.toList
theorem buffer_eqF {id : String} {b : Array UInt8} {t : Tok} {full : Bool} : Bytes.buffer? id (.bytes b t) full = pure (some b) := by
  unfold Bytes.buffer?
  rw [KBy.special_eq KBy.look_buffer, KBy.own_buffer, KBy.own_release]
  kernel_rfl
theorem take_eq {id : String} {b : Array UInt8} {t : Tok} : Bytes.takeBufferQuiet? id (.bytes b t) 0 = pure (some (b, none)) := by
  unfold Bytes.takeBufferQuiet? Bytes.takeBuffer?
  rw [KBy.special_eq KBy.look_buffer, KBy.own_buffer]
  simp only [buffer_eqF]
  kernel_rfl
section
variable {M : Model} {A : Around} {E : Value → Shared → Prop} {s : Shared}
theorem wholeTargetB {P ct : Addr} {src fl : Value} {c : Array Nat} {x : Array UInt8} {t : Tok} {Q : ReTarget → Shared → Prop} (hP : s.heap.get? P = some (patObj src fl ct 1)) (hC : s.heap.get? ct = some (codeObj c))
    (h : Q { pattern := .ref P, string := .bytes x t, code := c, text := x.map (·.toNat), kind := 1, groups := 0, pos := 0, lim := (x.map (·.toNat)).size } s) : wpAny M A (reWholeTarget (.ref P) (.bytes x t)) Q E s := by
  unfold reWholeTarget
  refine wpAny_bind (wpAny_fieldsOf hP rfl ?_)
  unfold reTextOf
  refine wpAny_bind (wpAny_bind (wpAny_pure ?_))
  dsimp only
  refine wpAny_bind (wpAny_of_eq KBy.quiet_eq ?_)
  refine wpAny_pure ?_
  dsimp only
  rw [if_neg (by show ¬ ((1 == 0 && 1 == 1) = true); decide), if_neg (by show ¬ ((1 == 1 && 1 == 0) = true); decide)]
  unfold reNoCollectionInside
  rw [if_pos (by rfl)]
  refine wpAny_bind (wpAny_bind (wpAny_of_eq KBy.isInstance_eq ?_))
  rw [if_neg (by decide)]
  refine wpAny_pure ?_
  unfold reRawItems
  refine wpAny_bind (wpAny_bind (wpAny_seqItems hC rfl (wpAny_pure ?_)))
  refine wpAny_pure ?_
  have e : Array.map (fun x => x.toNat) (Array.map reRawOf ((some (Array.map (fun n : Nat => Value.int (n : Int) 0) c)).getD #[])) = c := by
    simp [Function.comp_def, reRawOf]
  rw [e]
  exact h
theorem joinedB (ps : List (Array UInt8)) : Bytes.joined #[] ps = (ps.flatMap (·.toList)).toArray := by
  unfold Bytes.joined
  have : ∀ (ps : List (Array UInt8)) (k : Nat) (out : Array UInt8), ((ps.zipIdx k).foldl (fun out (p, i) => (if i > 0 then out ++ (#[] : Array UInt8) else out) ++ p) out) = out ++ (ps.flatMap (·.toList)).toArray := by
    intro ps
    induction ps with
    | nil => intro k out; simp
    | cons p r ih =>
      intro k out
      rw [List.zipIdx_cons, List.foldl_cons, ih]
      apply Array.ext'
      simp [List.flatMap_cons]
  rw [this]
  simp
theorem letGoB {Q : Unit → Shared → Prop} {keep : List Value} : ∀ (taken : List (Value × Option Value)), (∀ x ∈ taken, x.2 = none) → Q () s → wpAny M A (Bytes.joinLetGo taken keep) Q E s
  | [], _, h => by unfold Bytes.joinLetGo; exact wpAny_pure h
  | (x, w) :: rest, hn, h => by
    have hw : w = none := hn _ (.head _)
    subst hw
    unfold Bytes.joinLetGo
    dsimp only
    refine wpAny_bind (wpAny_letGo ?_)
    exact letGoB rest (fun y hy => hn y (.tail _ hy)) h
end
section
variable {prog : Program} {w : World} {A : Around} {E : Value → Shared → Prop} {s : Shared}
theorem slot_bytes_join : Slot "bytes" "join" "bytes.join" :=
  .of (owner := "bytes") (n := "join") (by rw [typeLookup_type, builtinLookup_eq_fast]; kernel_rfl) (by decide +kernel) (by decide +kernel) (by decide +kernel)
    (by first | exact .inl (by decide +kernel) | exact .inr (by decide +kernel)) (by rw [isSubtype_type]; kernel_rfl)
theorem entry_bytes_join : entryFor table "bytes.join" = some Builtin.«bytes.join» := entryFor_of_tree (by kernel_rfl)
theorem args_bytes_join (a b : Value) : argsOk "bytes.join" ⟨[a, b], []⟩ := by
  unfold argsOk; rw [signature?_of (id := "bytes.join") (n := ['n', 'i', 'o', 'j']) (o := ['s', 'e', 't', 'y', 'b']) (by kernel_rfl) FB.owner_bytes]; kernel_rfl
theorem call_bjoin {l : Addr} {ps : List (Array UInt8 × Tok)} {nn : Nat} {t : Tok} {Q : Value → Shared → Prop} (hls : s.heap.get? l = some { cls := .type "list", data := .seq (bytesValues ps).toArray nn })
    (hz : (bAll ps).length ≤ 2 ^ 24) (h : ∀ tv tk, Q (.bytes (bAll ps).toArray tv) { s with toks := tk }) :
    wpAny (model prog w) A (call (.builtin "bytes.join") [.bytes #[] t, .ref l]) Q E s := by
  refine wpAny_call_entry slot_bytes_join (typeIs_bytes _ _ _) entry_bytes_join ?_ (args_bytes_join _ _)
  unfold Builtin.«bytes.join» Bytes.joinM
  dsimp only
  refine wpAny_bind (wpAny_pure ?_)
  dsimp only
  rw [if_pos (by decide)]
  unfold Bytes.joinItems
  refine wpAny_bind (wpAny_bind (wpAny_typeOf ⟨_, hls, rfl⟩ ?_))
  rw [if_pos (by decide)]
  refine wpAny_pure ?_
  refine wpAny_bind (wpAny_seqItems hls rfl ?_)
  dsimp only
  rw [if_pos (by decide)]
  by_cases h1 : ∃ p, ps = [p]
  · obtain ⟨p, rfl⟩ := h1
    show wpAny _ _ (typeOf (.bytes p.1 p.2) >>= fun r => _) _ _ _
    refine wpAny_bind (wpAny_pure ?_)
    rw [if_pos (by decide)]
    refine wpAny_bind (wpAny_rule (wpAny_pure ⟨_, rfl, ?_⟩))
    have := h p.2 s.toks
    show Q (.bytes p.1 p.2) s
    simpa [bAll] using this
  · have hsh : ∀ (ps' : List (Array UInt8 × Tok)), ps' = ps → (ps' = [] ∨ ∃ p q r, ps' = p :: q :: r) := by
      intro ps' e
      subst e
      rcases ps' with _ | ⟨p, _ | ⟨q, r⟩⟩
      · exact .inl rfl
      · exact absurd ⟨p, rfl⟩ h1
      · exact .inr ⟨p, q, r, rfl⟩
    rcases hsh ps rfl with hps | ⟨p, q, r, hps⟩
    all_goals (rw [hps]; show wpAny _ _ (forIn [:_] _ _ >>= _) _ _ _; rw [← hps])
    all_goals clear hps hsh h1
    all_goals try clear p q r
    all_goals (
      rw [Std.Legacy.Range.forIn_eq_forIn_range']
      refine wpAny_bind (wpAny_forIn_list _ (fun rest b s' => s' = s ∧ ∃ a r, ps = a ++ r ∧ b.1 = (a.map (·.1)).toArray ∧ (∀ x ∈ b.2, x.2 = none ∧ x.1.onHeap = false) ∧ rest = List.range' a.length r.length) _ ?_ ?_ _ _
        ⟨rfl, [], ps, rfl, rfl, fun x hx => (nomatch hx), ?_⟩)
      · intro k rest bb s' hI
        obtain ⟨parts, taken⟩ := bb
        obtain ⟨hss, a, r, e1, e2, e3, e4⟩ := hI
        dsimp only at e2 e3 ⊢
        subst hss
        cases r with
        | nil => cases e4
        | cons p r =>
          rw [List.length_cons, List.range'_succ] at e4
          injection e4 with e5 e6
          refine wpAny_bind (wpAny_seqItems hls rfl ?_)
          dsimp only
          have hx : (bytesValues ps).toArray.getD k Value.none = .bytes p.1 p.2 := by
            rw [e5, e1]; simp [bytesValues]
          have ha : (Bytes.Kind.bytes == Bytes.Kind.bytearray || taken.any fun x => x.1.onHeap) = false := by
            rw [show (Bytes.Kind.bytes == Bytes.Kind.bytearray) = false from by decide, Bool.false_or]
            rw [List.any_eq_false]
            intro y hy
            rw [(e3 y hy).2]; decide
          rw [ha, if_neg (by decide), hx]
          refine wpAny_bind (wpAny_holding (wpAny_of_eq take_eq ?_))
          dsimp only
          refine wpAny_bind (wpAny_seqItems hls rfl ?_)
          dsimp only
          rw [if_neg (by simp)]
          refine wpAny_pure ⟨rfl, a ++ [p], r, by rw [e1]; simp, by rw [e2]; simp, ?_, ?_⟩
          · intro y hy
            rcases List.mem_append.mp hy with hy | hy
            · exact e3 y hy
            · rw [List.mem_singleton.mp hy]; exact ⟨rfl, rfl⟩
          · rw [e6, List.length_append]; rfl
      · intro bb s' hI
        obtain ⟨parts, taken⟩ := bb
        obtain ⟨hss, a, r, e1, e2, e3, e4⟩ := hI
        subst hss
        dsimp only at e2 e3 ⊢
        have hr : r = [] := by
          cases r with
          | nil => rfl
          | cons p r => rw [List.length_cons, List.range'_succ] at e4; cases e4
        rw [hr, List.append_nil] at e1
        subst e1
        refine wpAny_bind (wpAny_pure ?_)
        have hsum : Array.foldl (fun x1 x2 => x1 + x2.size) ((#[] : Array UInt8).size * (parts.size - 1)) parts = (bAll ps).length := by
          rw [e2, ← Array.foldl_toList]
          have : ∀ (l : List (Array UInt8 × Tok)) (k : Nat), List.foldl (fun x1 (x2 : Array UInt8) => x1 + x2.size) k (l.map (·.1)) = k + (bAll l).length := by
            intro l
            induction l with
            | nil => intro k; simp [bAll]
            | cons p r ih => intro k; rw [List.map_cons, List.foldl_cons, ih]; simp [bAll, List.flatMap_cons]; omega
          rw [List.toList_toArray, this]
          simp
        rw [hsum]
        rw [if_neg (by unfold Bytes.tooLong; show ¬ (decide ((bAll ps).length > 2 ^ 24) = true); simp; omega)]
        have hj : Bytes.joined #[] parts.toList = (bAll ps).toArray := by
          rw [e2, joinedB, List.toList_toArray, List.flatMap_map]; rfl
        rw [hj]
        refine wpAny_bind (wpAny_mkBytes ?_ (by rw [List.size_toArray]; exact hz))
        refine wpAny_bind (wpAny_holding (wpAny_point ?_))
        refine wpAny_bind (letGoB _ (fun y hy => (e3 y hy).1) ?_)
        exact wpAny_pure ⟨_, rfl, h _ _⟩
      · simp [bytesValues])

abbrev u8 (l : List Nat) : List UInt8 := l.map (·.toUInt8)
theorem map_back (x : Array UInt8) (b e : Nat) : ((x.map (·.toNat)).extract b e).map (·.toUInt8) = x.extract b e := by
  rw [← Array.map_extract, Array.map_map]
  conv => rhs; rw [← Array.map_id (x.extract b e)]
  congr 1
  funext c
  simp [Nat.toUInt8]
theorem sliceB {M : Model} {E : Value → Shared → Prop} {x : Array UInt8} {b e : Nat} {Q : Value → Shared → Prop} (hx : x.size ≤ 2 ^ 22) (h : Q (.bytes (x.extract b e) s.toks) { s with toks := s.toks + 1 }) :
    wpAny M A (reSlice (x.map (·.toNat)) 1 b e) Q E s := by
  unfold reSlice
  rw [if_neg (by decide), map_back]
  refine wpAny_mkBytes h ?_
  show (x.extract b e).size ≤ 2 ^ 24
  rw [Array.size_extract]; omega
theorem bAll_append (a b : List (Array UInt8 × Tok)) : bAll (a ++ b) = bAll a ++ bAll b := by unfold bAll; rw [List.flatMap_append]
theorem joinEndB {hB : Heap} {l : Addr} {x : Array UInt8} {ps : List (Array UInt8 × Tok)} {nn : Nat} {Q : Fin → Shared → Prop} {n : Int} (hx : x.size ≤ 2 ^ 22) (hk : Keeps hB s.heap)
    (hls : s.heap.get? l = some { cls := .type "list", data := .seq (bytesValues ps).toArray nn }) (hz : (bAll ps).length ≤ 2 ^ 24)
    (h : ∀ tv tk, Q (.done (.ret (.bytes (bAll ps).toArray tv))) { s with toks := tk }) :
    wpAny (model prog w) A (do
        let joiner ← reSlice (x.map (·.toNat)) 1 0 0
        let items ← seqItems? (Value.ref l)
        if (items.getD #[]).isEmpty = true then do
            let text ← pure joiner
            if false = true then do
                let v ← holding [text] do
                      let i ← mkInt n
                      newTuple [text, i]
                ret v
              else ret text
          else do
            let text ← call (Value.builtin (if ((1 : Nat) == 0) = true then "str.join" else "bytes.join")) [joiner, Value.ref l]
            if false = true then do
                let v ← holding [text] do
                      let i ← mkInt n
                      newTuple [text, i]
                ret v
              else ret text) Q E s := by
  refine wpAny_bind (sliceB hx ?_)
  refine wpAny_bind (wpAny_seqItems hls rfl ?_)
  have he : x.extract 0 0 = #[] := by simp
  split
  · next q =>
    refine wpAny_bind (wpAny_pure ?_)
    rw [if_neg (by decide)]
    refine wpAny_pure ?_
    have : ps = [] := by
      have : (bytesValues ps) = [] := by simpa using q
      simpa [bytesValues] using this
    subst this
    rw [he]
    exact h _ _
  · rw [if_neg (by decide), he]
    refine wpAny_bind (call_bjoin hls hz fun tv tk => ?_)
    rw [if_neg (by decide)]
    exact wpAny_pure (h _ _)
def lArgsB (P l : Addr) (x r : Array UInt8) (t tr : Tok) (n k : Int) : Args := ⟨[.ref P, .bytes x t, .bytes r tr, rawInt 0, rawInt 0, rawInt n, rawInt k, rawInt k, .bool false, .ref l, .bool false], []⟩

theorem subLoopB {c : Array Nat} {rl : List Nat} (pat : Pat c rl) {P ct l : Addr} {src fl : Value} {x r : Array UInt8} {t tr : Tok} (hr : r.toList = u8 rl) (hx : x.size ≤ 2 ^ 22) (hB : Heap) (hP : hB.get? P = some (patObj src fl ct 1)) (hC : hB.get? ct = some (codeObj c)) (hl : hB.get? l = none)
    (hrl : rl.length ≤ 2) {R : Result → Shared → Prop} : ∀ (d k : Nat) (n : Int) (ps : List (Array UInt8 × Tok)) (nn : Nat) (s : Shared), d = x.size - k → k ≤ x.size → Keeps hB s.heap →
      s.heap.get? l = some { cls := .type "list", data := .seq (bytesValues ps).toArray nn } → ps.length ≤ 2 * k → (bAll ps).length ≤ 2 * k →
      (∀ h' tv tk, Keeps hB h' → R (.ok (.ret (.bytes (bAll ps ++ u8 (pat.rest (x.map (·.toNat)) k)).toArray tv))) { s with heap := h', toks := tk }) →
      codeAny (model prog w) A (.builtin "re.Pattern.sub.loop" (lArgsB P l x r t tr n (k : Int))) R s := by
  have hsz : (x.map (·.toNat)).size = x.size := by simp
  have hdrop : ∀ k, u8 ((x.map (·.toNat)).toList.drop k) = x.toList.drop k := by
    intro k
    unfold u8
    rw [Array.toList_map, ← List.map_drop, List.map_map]
    conv => rhs; rw [← List.map_id (x.toList.drop k)]
    congr 1
    funext c
    simp [Nat.toUInt8]
  intro d
  induction d using Nat.strongRecOn with
  | ind d ih =>
    intro k n ps nn s hd hk hkeep hls hpl hsl hR
    refine codeAny_builtin entry_subLoop ?_
    rw [Around.under_plainId plain_subLoop]
    unfold Builtin.«re.Pattern.sub.loop»
    simp only [lArgsB, rawInt]
    refine wpAny_bind (wholeTargetB (hkeep _ _ hP) (hkeep _ _ hC) ?_)
    rw [if_pos (by rfl)]
    unfold reLiteralCannotBeTurned
    refine wpAny_bind (wpAny_bind (wpAny_pure ?_))
    rw [if_pos (by rfl)]
    refine wpAny_bind (wpAny_of_eq KBy.isInstance_eq ?_)
    rw [if_neg (by decide)]
    refine wpAny_pure ?_
    rw [if_neg (by rw [show ((0 : Int) != 0) = false from rfl, Bool.false_and]; decide)]
    obtain ⟨N, m', hN, hto, hm⟩ := pat.finds (x.map (·.toNat)) k (by rw [hsz]; exact hk) (by rw [hsz]; omega)
    unfold reNextFound
    dsimp only
    have hres : ((k : Int)).toNat = k := rfl
    simp only [hres]
    cases hnx : pat.next (x.map (·.toNat)) k with
    | none =>
      rw [hnx] at hm
      refine wpAny_bind (runToEnd hto hN (.inr ⟨hm, ?_⟩))
      dsimp only
      have hrest := pat.none_ (x.map (·.toNat)) k (by rw [hsz]; exact hk) hnx
      split
      · next hlt =>
        refine wpAny_bind (sliceB hx ?_)
        refine wpAny_bind (pushL hl hkeep hls (by simp only [bytesValues, List.length_map]; omega) fun h' nn' hk' hl' => ?_)
        have hcat : bAll (ps ++ [(x.extract k (x.map (·.toNat)).size, s.toks)]) = bAll ps ++ u8 (pat.rest (x.map (·.toNat)) k) := by
          rw [bAll_append, hrest, hdrop, hsz]
          simp [bAll, Array.toList_extract]
          rw [List.take_of_length_le (by simp)]
        refine joinEndB (ps := ps ++ [(x.extract k (x.map (·.toNat)).size, s.toks)]) hx hk' (by simpa [bytesValues] using hl') ?_ fun tv tk => ?_
        · rw [hcat, hrest, hdrop]
          simp; omega
        · rw [hcat]
          exact hR _ _ _ hk'
      · next hlt =>
        have : pat.rest (x.map (·.toNat)) k = [] := by rw [hrest]; exact List.drop_eq_nil_of_le (by simp; rw [hsz] at hlt; omega)
        refine joinEndB hx hkeep hls (by omega) fun tv tk => ?_
        have := hR s.heap tv tk hkeep
        rw [‹pat.rest (x.map (·.toNat)) k = []›] at this
        simpa using this
    | some pe =>
      obtain ⟨p, e⟩ := pe
      rw [hnx] at hm
      obtain ⟨h1, h2, h3⟩ := pat.inside _ _ _ _ hnx
      rw [hsz] at h3
      refine wpAny_bind (runToEnd hto hN (.inl ⟨hm.1, ?_⟩))
      dsimp only
      rw [hm.2.1, hm.2.2]
      have hrest := pat.some_ (x.map (·.toNat)) k p e (by rw [hsz]; exact hk) hnx
      have hne : (e == p) = false := by simp; omega
      rw [hne]
      have hrlen : r.toList.length ≤ 2 := by rw [hr]; simpa using hrl
      have go : ∀ (ps' : List (Array UInt8 × Tok)) (nn' : Nat) (s' : Shared), s'.gens = s.gens → s'.drawn = s.drawn → s'.os = s.os → Keeps hB s'.heap →
          s'.heap.get? l = some { cls := .type "list", data := .seq (bytesValues ps').toArray nn' } → bAll ps' = bAll ps ++ (x.toList.drop k).take (p - k) → ps'.length ≤ ps.length + (p - k) →
          wpAny (model prog w) A.in1 (if ((0 : Int) == 0) = true then do
              let item ← pure (Value.bytes r tr)
              if (item != Value.none) = true then do
                  updateSeq l fun x => x.push item
                  again (Code.builtin "re.Pattern.sub.loop" { pos := [Value.ref P, Value.bytes x t, Value.bytes r tr, Value.int 0 0, Value.int 0 0, Value.int (n + 1) 0, Value.int (↑e) 0, Value.int (↑e) 0, Value.bool false, Value.ref l, Value.bool false] })
                else again (Code.builtin "re.Pattern.sub.loop" { pos := [Value.ref P, Value.bytes x t, Value.bytes r tr, Value.int 0 0, Value.int 0 0, Value.int (n + 1) 0, Value.int (↑e) 0, Value.int (↑e) 0, Value.bool false, Value.ref l, Value.bool false] })
            else do
              let found ← reNewMatch (Value.ref P) (Value.bytes x t) 0 0 (x.map (·.toNat)).size m'
              let item ← holding [found] (if ((0 : Int) == 1) = true then call (Value.bytes r tr) [found]
                  else do
                    let f ← reFound found
                    reExpand (Value.bytes r tr) f)
              if (item != Value.none) = true then do
                  updateSeq l fun x => x.push item
                  again (Code.builtin "re.Pattern.sub.loop" { pos := [Value.ref P, Value.bytes x t, Value.bytes r tr, Value.int 0 0, Value.int 0 0, Value.int (n + 1) 0, Value.int (↑e) 0, Value.int (↑e) 0, Value.bool false, Value.ref l, Value.bool false] })
                else again (Code.builtin "re.Pattern.sub.loop" { pos := [Value.ref P, Value.bytes x t, Value.bytes r tr, Value.int 0 0, Value.int 0 0, Value.int (n + 1) 0, Value.int (↑e) 0, Value.int (↑e) 0, Value.bool false, Value.ref l, Value.bool false] }))
            (fun fin s' => match fin with
              | Fin.done f => R (Except.ok f) s'
              | Fin.again c' => c'.quiet = true ∧ codeAny (model prog w) A c' R s')
            (fun e s' => R (Except.error e) s') s' := by
        intro ps' nn' s' hg hdr hos hk' hl' hcat hlen
        rw [if_pos (by rfl)]
        refine wpAny_bind (wpAny_pure ?_)
        have hcl : (bAll ps').length ≤ 2 * k + (p - k) := by
          rw [hcat, List.length_append, List.length_take]; omega
        rw [if_pos (by rfl)]
        refine wpAny_bind (pushL hl hk' hl' (by simp only [bytesValues, List.length_map]; omega) fun h'' nn'' hk'' hl'' => ?_)
        refine wpAny_pure ⟨plainId_quiet plain_subLoop _, ?_⟩
        refine ih (x.size - e) (by omega) e (n + 1) (ps' ++ [(r, tr)]) nn'' _ rfl h3 hk'' (by simpa [bytesValues] using hl'') (by simp; omega) ?_ fun h3 tv tk hk3 => ?_
        · rw [bAll_append, List.length_append]
          simp only [bAll, List.flatMap_cons, List.flatMap_nil, List.append_nil]
          simp only [bAll] at hcl
          omega
        · have := hR h3 tv tk hk3
          rw [hrest] at this
          have e2 : bAll (ps' ++ [(r, tr)]) ++ u8 (pat.rest (x.map (·.toNat)) e) = bAll ps ++ u8 (((x.map (·.toNat)).toList.drop k).take (p - k) ++ (rl ++ pat.rest (x.map (·.toNat)) e)) := by
            rw [bAll_append, hcat]
            have ht : u8 (((x.map (·.toNat)).toList.drop k).take (p - k)) = (x.toList.drop k).take (p - k) := by
              rw [← hdrop k]
              unfold u8
              rw [List.map_take]
            unfold u8 at ht ⊢
            rw [List.map_append, ht, List.map_append]
            have hr' : r.toList = List.map (·.toUInt8) rl := hr
            simp [bAll, hr']
          rw [e2]
          show R _ { heap := h3, gens := s'.gens, drawn := s'.drawn, toks := tk, os := s'.os }
          rw [hg, hdr, hos]
          exact this
      split
      · next hlt =>
        refine wpAny_bind (sliceB hx ?_)
        refine wpAny_bind (pushL hl hkeep hls (by simp only [bytesValues, List.length_map]; omega) fun h' nn' hk' hl' => ?_)
        refine go (ps ++ [(x.extract k p, s.toks)]) nn' _ rfl rfl rfl hk' (by simpa [bytesValues] using hl') ?_ (by simp; omega)
        rw [bAll_append]
        simp [bAll, Array.toList_extract]
      · next hlt =>
        refine go ps nn s rfl rfl rfl hkeep hls ?_ (by omega)
        have : p - k = 0 := by omega
        rw [this]; simp
theorem bytes_nocall : typeLookup (.type "bytes") "__call__" = pure none := by rw [typeLookup_type, builtinLookup_eq_fast]; kernel_rfl
theorem call_subB {c : Array Nat} {rl : List Nat} (pat : Pat c rl) {P ct : Addr} {src fl : Value} {x r : Array UInt8} {t tr : Tok} {Q : Value → Shared → Prop} (hr : r.toList = u8 rl) (hno : r.contains 92 = false) (hx : x.size ≤ 2 ^ 22) (hrl : rl.length ≤ 2)
    (hP : s.heap.get? P = some (patObj src fl ct 1)) (hC : s.heap.get? ct = some (codeObj c))
    (h : ∀ h' tv tk, Keeps s.heap h' → Q (.bytes (u8 (pat.rest (x.map (·.toNat)) 0)).toArray tv) { s with heap := h', toks := tk }) :
    wpAny (model prog w) A (call (.builtin "re.Pattern.sub") [.ref P, .bytes r tr, .bytes x t]) Q E s := by
  refine wpAny_call (codeAny_call_builtin slot_re_sub.plain entry_sub (slot_re_sub.check _ _ _ _ _ _ _ _ ⟨_, hP, rfl⟩ (args_re_sub _ _ _) ?_))
  unfold Builtin.«re.Pattern.sub» reSubstitute
  dsimp only
  rw [named_sub]
  refine wpAny_bind (wpAny_pure ?_)
  dsimp only
  refine wpAny_bind (wpAny_pure ?_)
  refine wpAny_bind (wpAny_specialOf_val rfl bytes_nocall ?_)
  rw [if_neg (by decide)]
  refine wpAny_bind (wpAny_pure ?_)
  dsimp only
  refine wpAny_bind (wpAny_of_eq KBy.quiet_eq ?_)
  dsimp only
  refine wpAny_bind (wpAny_pure ?_)
  rw [hno]
  rw [if_neg (by decide), if_pos (by rfl)]
  refine wpAny_bind (wpAny_pure ?_)
  dsimp only
  refine wpAny_bind (wpAny_holding (wholeTargetB hP hC ?_))
  rw [if_neg (by decide)]
  refine wpAny_bind (wpAny_newList ?_)
  refine wpAny_pure ⟨plainId_quiet plain_subLoop _, ?_⟩
  have hnone : s.heap.get? s.heap.objs.size = none := by
    cases e : s.heap.get? s.heap.objs.size with
    | none => rfl
    | some o => exact absurd (Heap.lt_size e) (Nat.lt_irrefl _)
  refine subLoopB pat hr hx s.heap hP hC hnone hrl (x.size) 0 0 [] 0 _ rfl (Nat.zero_le _) (fun b o e => Heap.get?_push_of_some _ e) (Heap.get?_push_size _ rfl) (Nat.le_refl _) (Nat.le_refl _) fun h' tv tk hk => ?_
  exact h h' tv tk hk
end
end Mine

end

/-! P04 -/
section
open PySem PySem.W PyProof.Rows
namespace Mine
/-! the law of 04, plain -/
def pc (a : Option Nat) (c : Nat) : List Nat := if c = 13 then [13, 10] else if c = 10 then (if a = some 13 then [] else [13, 10]) else [c]
def ex (a : Option Nat) (c : Nat) : List Nat := if c = 46 ∧ (a = none ∨ a = some 10) then [46] else []
def ms (a : Option Nat) (c : Nat) : Nat := if c = 46 ∧ a = some 13 then 1 else 0
def plN : Option Nat → List Nat → List Nat
  | _, [] => []
  | a, c :: r => pc a c ++ plN (some c) r
def otN : Option Nat → List Nat → List Nat
  | _, [] => []
  | a, c :: r => (pc a c ++ ex a c) ++ otN (some c) r
def msN : Option Nat → List Nat → Nat
  | _, [] => 0
  | a, c :: r => ms a c + msN (some c) r
theorem fix_pl (l : List Nat) : ∀ a, (a = some 13 → ∀ r, l ≠ 10 :: r) → fixL l = plN a l := by
  induction l using fixL.induct with
  | case1 => intro a _; simp [fixL, plN]
  | case2 r ih =>
    intro a _
    rw [fixL_crlf, ih (some 10) (by simp)]
    simp [plN, pc]
  | case3 r h ih =>
    intro a _
    rw [fixL_cr (fun r' e => h r' e), ih (some 13) (fun _ r' e => h r' e)]
    simp [plN, pc]
  | case4 r ih =>
    intro a ha
    have h13 : ¬ a = some 13 := fun e => ha e r rfl
    rw [fixL_lf, ih (some 10) (by simp)]
    simp [plN, pc, h13]
  | case5 c r h1 h2 h3 ih =>
    intro a _
    have h13 : c ≠ 13 := fun e => h2 e
    have h10 : c ≠ 10 := fun e => h3 e
    rw [fixL_plain h10 h13, ih (some c) (fun e => absurd (Option.some.inj e) h13), plN, pc, if_neg h13, if_neg h10]
    rfl
def hdO (a : Option Nat) : Bool := match a with | none => true | some c => c == 10
theorem dot_start (r : List Nat) (h : ∀ r', r ≠ 10 :: r') : ∀ r', dotL false r ≠ 10 :: r' := by
  intro r' e
  cases r with
  | nil => cases e
  | cons c q =>
    rw [dotL, Bool.false_and, if_neg (by decide), List.cons_append] at e
    injection e with e1 e2
    exact h q (by rw [e1])
theorem ot_ (l : List Nat) : ∀ a, (a = some 13 → ∀ r, l ≠ 10 :: r) → fixL (dotL (hdO a) l) = otN a l := by
  induction l using fixL.induct with
  | case1 => intro a _; simp [fixL, dotL, otN]
  | case2 r ih =>
    intro a _
    have := ih (some 10) (by simp)
    simp only [hdO] at this
    have e : dotL (hdO a) (13 :: 10 :: r) = 13 :: 10 :: dotL true r := by simp [dotL]
    rw [e, fixL_crlf]
    simp [otN, pc, ex, ← this]
  | case3 r h ih =>
    intro a _
    have := ih (some 13) (fun _ r' e => h r' e)
    simp only [hdO] at this
    have e : dotL (hdO a) (13 :: r) = 13 :: dotL false r := by simp [dotL]
    rw [e, fixL_cr (dot_start r (fun r' e => h r' e))]
    simp [otN, pc, ex, ← this]
  | case4 r ih =>
    intro a ha
    have h13 : ¬ a = some 13 := fun e => ha e r rfl
    have := ih (some 10) (by simp)
    simp only [hdO] at this
    have e : dotL (hdO a) (10 :: r) = 10 :: dotL true r := by simp [dotL]
    rw [e, fixL_lf]
    simp [otN, pc, ex, ← this, h13]
  | case5 c r h1 h2 h3 ih =>
    intro a _
    have h13 : c ≠ 13 := fun e => h2 e
    have h10 : c ≠ 10 := fun e => h3 e
    have := ih (some c) (fun e => absurd (Option.some.inj e) h13)
    have e1 : hdO (some c) = false := by simp [hdO, h10]
    rw [e1] at this
    have e0 : (c == 10) = false := by simpa using h10
    rw [dotL, e0, otN, pc, if_neg h13, if_neg h10]
    have e2 : (hdO a && c == 46) = true ↔ (c = 46 ∧ (a = none ∨ a = some 10)) := by
      cases a with
      | none => simp [hdO]
      | some d => simp only [hdO, Bool.and_eq_true, beq_iff_eq, Option.some.injEq, reduceCtorEq, false_or]; omega
    by_cases h : (hdO a && c == 46) = true
    · have hc := (e2.mp h).1
      rw [if_pos h, ex, if_pos (e2.mp h), hc]
      show fixL (46 :: 46 :: dotL false r) = _
      rw [fixL_plain (by decide) (by decide), fixL_plain (by decide) (by decide)]
      rw [hc] at this
      rw [this]
      rfl
    · rw [if_neg h, ex, if_neg (fun q => h (e2.mpr q))]
      show fixL (c :: dotL false r) = _
      rw [fixL_plain h10 h13, this]
      rfl
theorem len_ (l : List Nat) : ∀ a, (dueN a l).length = (otN a l).length + msN a l := by
  induction l with
  | nil => intro a; simp [dueN, otN, msN]
  | cons c r ih =>
    intro a
    rw [dueN, otN, msN, List.length_append, List.length_append, ih]
    have : (sgn a c).length = (pc a c ++ ex a c).length + ms a c := by
      unfold sgn pc ex ms
      by_cases h13 : c = 13
      · simp [h13]
      · by_cases h10 : c = 10
        · simp [h10]
        · by_cases h46 : c = 46
          · subst h46
            cases a with
            | none => simp
            | some d =>
              by_cases d13 : d = 13
              · simp [d13]
              · by_cases d10 : d = 10
                · simp [d10]
                · simp [d13, d10]
          · simp [h13, h10, h46]
    omega
theorem fix_fix (l : List Nat) : fixL (fixL l) = fixL l := by
  induction l using fixL.induct with
  | case1 => rfl
  | case2 r ih => rw [fixL_crlf, fixL_crlf, ih]
  | case3 r h ih => rw [fixL_cr (fun r' e => h r' e), fixL_crlf, ih]
  | case4 r ih => rw [fixL_lf, fixL_crlf, ih]
  | case5 c r h1 h2 h3 ih => rw [fixL_plain (fun e => h3 e) (fun e => h2 e), fixL_plain (fun e => h3 e) (fun e => h2 e), ih]
theorem low_fix (l : List Nat) (h : Low l) : Low (fixL l) := by
  induction l using fixL.induct with
  | case1 => exact h
  | case2 r ih =>
    rw [fixL_crlf]
    intro c hc
    rcases List.mem_cons.mp hc with rfl | hc
    · omega
    · rcases List.mem_cons.mp hc with rfl | hc
      · omega
      · exact ih (fun d hd => h d (.tail _ (.tail _ hd))) c hc
  | case3 r hh ih =>
    rw [fixL_cr (fun r' e => hh r' e)]
    intro c hc
    rcases List.mem_cons.mp hc with rfl | hc
    · omega
    · rcases List.mem_cons.mp hc with rfl | hc
      · omega
      · exact ih (fun d hd => h d (.tail _ hd)) c hc
  | case4 r ih =>
    rw [fixL_lf]
    intro c hc
    rcases List.mem_cons.mp hc with rfl | hc
    · omega
    · rcases List.mem_cons.mp hc with rfl | hc
      · omega
      · exact ih (fun d hd => h d (.tail _ hd)) c hc
  | case5 c r h1 h2 h3 ih =>
    rw [fixL_plain (fun e => h3 e) (fun e => h2 e)]
    intro d hd
    rcases List.mem_cons.mp hd with rfl | hd
    · exact h d (.head _)
    · exact ih (fun d hd => h d (.tail _ hd)) d hd
theorem low_dot : ∀ (l : List Nat) (b : Bool), Low l → Low (dotL b l)
  | [], _, h => h
  | c :: r, b, h => by
    intro d hd
    rw [dotL] at hd
    rcases List.mem_append.mp hd with hd | hd
    · split at hd
      · have : d = 46 := by simpa using hd
        omega
      · rw [List.mem_singleton.mp hd]; exact h c (.head _)
    · exact low_dot r _ (fun x hx => h x (.tail _ hx)) d hd
theorem dot_enc : ∀ (l : List Nat) (b : Bool), Low l → u8 (dotL b ((enc l).map (·.toNat))) = enc (dotL b l)
  | [], _, _ => rfl
  | c :: r, b, h => by
    have hc := h c (.head _)
    have ih := fun b => dot_enc r b (fun x hx => h x (.tail _ hx))
    by_cases h1 : c < 128
    · have hu : Str.utf8Of c = [c.toUInt8] := by unfold Str.utf8Of; rw [if_pos h1]
      have ht : c.toUInt8.toNat = c := by simp [Nat.toUInt8]; omega
      have e1 : (enc (c :: r)).map (·.toNat) = c :: (enc r).map (·.toNat) := by simp [enc, hu, ht]
      rw [e1, dotL, dotL]
      have e2 : ∀ a b, enc (a ++ b) = enc a ++ enc b := fun a b => by simp [enc]
      have e3 : ∀ a b, u8 (a ++ b) = u8 a ++ u8 b := fun a b => by simp [u8]
      rw [e2, e3, ih]
      congr 1
      split
      · rfl
      · simp [u8, enc, hu]
    · have hu : Str.utf8Of c = [(0xC0 + c / 64).toUInt8, (0x80 + c % 64).toUInt8] := by unfold Str.utf8Of; rw [if_neg h1, if_pos hc]
      have ht : (0xC0 + c / 64).toUInt8.toNat = 0xC0 + c / 64 := by simp [Nat.toUInt8]; omega
      have ht1 : (0x80 + c % 64).toUInt8.toNat = 0x80 + c % 64 := by simp [Nat.toUInt8]; omega
      have e1 : (enc (c :: r)).map (·.toNat) = (0xC0 + c / 64) :: (0x80 + c % 64) :: (enc r).map (·.toNat) := by
        simp only [enc, List.flatMap_cons, hu, List.map_append, List.map_cons, List.map_nil, ht, ht1]; rfl
      have n1 : ((0xC0 + c / 64) == 46) = false := by simp; omega
      have n2 : ((0xC0 + c / 64) == 10) = false := by simp; omega
      have n3 : ((0x80 + c % 64) == 10) = false := by simp; omega
      have n4 : (c == 46) = false := by simp; omega
      have n5 : (c == 10) = false := by simp; omega
      rw [e1, dotL, dotL, dotL, n1, n2, n3, n4, n5, Bool.and_false, Bool.false_and]
      have e2 : ∀ a b, enc (a ++ b) = enc a ++ enc b := fun a b => by simp [enc]
      have e3 : ∀ a b, u8 (a ++ b) = u8 a ++ u8 b := fun a b => by simp [u8]
      rw [e2, e3, e3, ih]
      simp [u8, enc, hu]

/-! the loop's word -/
def ahO (pre : List Int) : Option Nat := pre.getLast?.map Int.toNat
def Inv4 (pre : List Int) (plain other : Str) (missed : Int) (ahead : Str) : Prop :=
  plain.cps.toList = plN none (pre.map Int.toNat) ∧ other.cps.toList = otN none (pre.map Int.toNat) ∧ missed = (msN none (pre.map Int.toNat) : Nat) ∧ ahead = aheadS (ahO pre)
def lst (a : Option Nat) (pre : List Nat) : Option Nat := match pre.getLast? with | none => a | some c => some c
theorem lst_cons (a : Option Nat) (d : Nat) (r : List Nat) : lst a (d :: r) = lst (some d) r := by
  unfold lst
  cases r with
  | nil => rfl
  | cons e r => rw [List.getLast?_cons_cons, List.getLast?_eq_some_getLast (l := e :: r) (by simp)]
theorem plN_snoc (c : Nat) : ∀ (pre : List Nat) (a : Option Nat), plN a (pre ++ [c]) = plN a pre ++ pc (lst a pre) c
  | [], a => by simp [plN, lst]
  | d :: r, a => by rw [List.cons_append, plN, plN_snoc c r, plN, List.append_assoc, lst_cons]
theorem otN_snoc (c : Nat) : ∀ (pre : List Nat) (a : Option Nat), otN a (pre ++ [c]) = otN a pre ++ (pc (lst a pre) c ++ ex (lst a pre) c)
  | [], a => by simp [otN, lst]
  | d :: r, a => by rw [List.cons_append, otN, otN_snoc c r, otN, lst_cons]; simp only [List.append_assoc]
theorem msN_snoc (c : Nat) : ∀ (pre : List Nat) (a : Option Nat), msN a (pre ++ [c]) = msN a pre + ms (lst a pre) c
  | [], a => by simp [msN, lst]
  | d :: r, a => by rw [List.cons_append, msN, msN_snoc c r, msN, Nat.add_assoc, lst_cons]
theorem lst_ah (pre : List Int) : lst none (pre.map Int.toNat) = ahO pre := by
  unfold lst ahO
  rw [List.getLast?_map]
  cases pre.getLast? <;> rfl
theorem inv4_start : Inv4 [] (Str.ofString "") (Str.ofString "") 0 (Str.ofString "") := by
  refine ⟨by rw [S_nil]; rfl, by rw [S_nil]; rfl, rfl, rfl⟩
theorem inv4_step {pre : List Int} {plain other ahead plain' other' : Str} {missed missed' : Int} {c : Nat} (h : Inv4 pre plain other missed ahead)
    (h1 : plain'.cps.toList = plain.cps.toList ++ pc (ahO pre) c) (h2 : other'.cps.toList = other.cps.toList ++ (pc (ahO pre) c ++ ex (ahO pre) c)) (h3 : missed' = missed + (ms (ahO pre) c : Nat)) :
    Inv4 (pre ++ [(c : Int)]) plain' other' missed' ⟨#[c]⟩ := by
  obtain ⟨a1, a2, a3, a4⟩ := h
  have e : (pre ++ [(c : Int)]).map Int.toNat = pre.map Int.toNat ++ [c] := by simp
  refine ⟨?_, ?_, ?_, ?_⟩
  · rw [h1, a1, e, plN_snoc, lst_ah]
  · rw [h2, a2, e, otN_snoc, lst_ah]
  · rw [h3, a3, e, msN_snoc, lst_ah]; simp
  · simp [ahO, aheadS]
theorem app_cps (a b : Str) : (a ++ b).cps.toList = a.cps.toList ++ b.cps.toList := by rw [Str.cps_append, Array.toList_append]
theorem one_is {c d : Nat} (h : ((⟨#[c]⟩ : Str) == ⟨#[d]⟩) = true) : c = d := by simpa using h
theorem one_not {c d : Nat} (h : ((⟨#[c]⟩ : Str) == ⟨#[d]⟩) = false) : c ≠ d := by simpa using h
theorem ah_is {a : Option Nat} {d : Nat} (h : (aheadS a == ⟨#[d]⟩) = true) : a = some d := by
  cases a with
  | none => simp [aheadS, S_nil] at h
  | some c => simpa [aheadS] using h
theorem ah_not {a : Option Nat} {d : Nat} (h : (aheadS a == ⟨#[d]⟩) = false) : a ≠ some d := by
  intro e; subst e; simp [aheadS] at h
theorem ah_none {a : Option Nat} (h : (aheadS a == ⟨#[]⟩) = true) : a = none := by
  cases a with
  | none => rfl
  | some c => simp [aheadS] at h
theorem ah_some {a : Option Nat} (h : (aheadS a == ⟨#[]⟩) = false) : a ≠ none := by
  intro e; subst e; simp [aheadS, S_nil] at h
section
variable {pre : List Int} {plain other ahead : Str} {missed : Int} {c : Nat}
theorem s4_cr (h : Inv4 pre plain other missed ahead) (e : ((⟨#[c]⟩ : Str) == Str.ofString "\r") = true) : Inv4 (pre ++ [(c : Int)]) (plain ++ Str.ofString "\r\n") (other ++ Str.ofString "\r\n") missed ⟨#[c]⟩ := by
  rw [S_cr] at e
  have e := one_is e
  subst e
  refine inv4_step h ?_ ?_ ?_ <;> (try rw [app_cps]) <;> simp [pc, ex, ms, S_crlf]
theorem s4_lf0 (h : Inv4 pre plain other missed ahead) (e : ((⟨#[c]⟩ : Str) == Str.ofString "\n") = true) (ea : (ahead == Str.ofString "\r") = true) : Inv4 (pre ++ [(c : Int)]) (plain ++ Str.ofString "") (other ++ Str.ofString "") missed ⟨#[c]⟩ := by
  rw [S_lf] at e
  have e := one_is e
  subst e
  rw [h.2.2.2, S_cr] at ea
  have ea := ah_is ea
  refine inv4_step h ?_ ?_ ?_ <;> (try rw [app_cps]) <;> simp [pc, ex, ms, S_nil, ea]
theorem s4_lf1 (h : Inv4 pre plain other missed ahead) (e : ((⟨#[c]⟩ : Str) == Str.ofString "\n") = true) (ea : (ahead == Str.ofString "\r") = false) : Inv4 (pre ++ [(c : Int)]) (plain ++ Str.ofString "\r\n") (other ++ Str.ofString "\r\n") missed ⟨#[c]⟩ := by
  rw [S_lf] at e
  have e := one_is e
  subst e
  rw [h.2.2.2, S_cr] at ea
  have ea := ah_not ea
  refine inv4_step h ?_ ?_ ?_ <;> (try rw [app_cps]) <;> simp [pc, ex, ms, S_crlf, ea]
theorem s4_plain (h : Inv4 pre plain other missed ahead) (e1 : ((⟨#[c]⟩ : Str) == Str.ofString "\r") = false) (e2 : ((⟨#[c]⟩ : Str) == Str.ofString "\n") = false) (e3 : ((⟨#[c]⟩ : Str) == Str.ofString ".") = false) :
    Inv4 (pre ++ [(c : Int)]) (plain ++ ⟨#[c]⟩) (other ++ ⟨#[c]⟩) missed ⟨#[c]⟩ := by
  rw [S_cr] at e1; rw [S_lf] at e2; rw [S_dot] at e3
  have e1 := one_not e1; have e2 := one_not e2; have e3 := one_not e3
  refine inv4_step h ?_ ?_ ?_ <;> (try rw [app_cps]) <;> simp [pc, ex, ms, e1, e2, e3]
theorem s4_dot0 (h : Inv4 pre plain other missed ahead) (e3 : ((⟨#[c]⟩ : Str) == Str.ofString ".") = true) (ea : (ahead == Str.ofString "") = true ∨ (ahead == Str.ofString "\n") = true) :
    Inv4 (pre ++ [(c : Int)]) (plain ++ ⟨#[c]⟩) ((other ++ ⟨#[c]⟩) ++ Str.ofString ".") missed ⟨#[c]⟩ := by
  rw [S_dot] at e3
  have e3 := one_is e3
  subst e3
  have ea' : ahO pre = none ∨ ahO pre = some 10 := by
    rw [h.2.2.2, S_nil, S_lf] at ea
    exact ea.imp ah_none ah_is
  have hms : ms (ahO pre) 46 = 0 := by rcases ea' with q | q <;> rw [q] <;> rfl
  refine inv4_step h ?_ ?_ ?_
  · rw [app_cps]; simp [pc]
  · rw [app_cps, app_cps, ex, if_pos ⟨rfl, ea'⟩]; simp [pc, S_dot]
  · rw [hms]; simp
theorem s4_dotr (h : Inv4 pre plain other missed ahead) (e3 : ((⟨#[c]⟩ : Str) == Str.ofString ".") = true) (ea : (ahead == Str.ofString "\r") = true) :
    Inv4 (pre ++ [(c : Int)]) (plain ++ ⟨#[c]⟩) (other ++ ⟨#[c]⟩) (missed + 1) ⟨#[c]⟩ := by
  rw [S_dot] at e3
  have e3 := one_is e3
  subst e3
  rw [h.2.2.2, S_cr] at ea
  have ea := ah_is ea
  refine inv4_step h ?_ ?_ ?_ <;> (try rw [app_cps]) <;> simp [pc, ex, ms, ea]
theorem s4_dotx (h : Inv4 pre plain other missed ahead) (e3 : ((⟨#[c]⟩ : Str) == Str.ofString ".") = true) (ea1 : (ahead == Str.ofString "") = false) (ea2 : (ahead == Str.ofString "\n") = false) (ea3 : (ahead == Str.ofString "\r") = false) :
    Inv4 (pre ++ [(c : Int)]) (plain ++ ⟨#[c]⟩) (other ++ ⟨#[c]⟩) missed ⟨#[c]⟩ := by
  rw [S_dot] at e3
  have e3 := one_is e3
  subst e3
  rw [h.2.2.2, S_nil] at ea1
  rw [h.2.2.2, S_lf] at ea2
  rw [h.2.2.2, S_cr] at ea3
  have ea1 := ah_some ea1; have ea2 := ah_not ea2; have ea3 := ah_not ea3
  refine inv4_step h ?_ ?_ ?_ <;> (try rw [app_cps]) <;> simp [pc, ex, ms, ea1, ea2, ea3]
end
theorem two_no {a : Str} {x y : Str} (h1 : (a == x) = true) (h2 : (a == y) = true) (hn : (x == y) = false) : False := by
  have e1 : a = x := by simpa using h1
  rw [e1] at h2; rw [h2] at hn; cases hn

/-! what is asked -/
def LowS (x : Str) : Prop := Low x.cps.toList
def encS (x : Str) : Array UInt8 := (enc x.cps.toList).toArray
theorem lowS_fix {x : Str} (h : LowS x) : LowS (fixS x) := by
  unfold LowS fixS; rw [List.toList_toArray]; exact low_fix _ h
theorem lowS_dot {x : Str} (h : LowS x) : LowS (dotS x) := by
  unfold LowS dotS; rw [List.toList_toArray]; exact low_dot _ _ h
theorem codes_nat (x : Str) : (KStt.codes x).map Int.toNat = x.cps.toList := by
  unfold KStt.codes
  rw [List.map_map]
  conv => rhs; rw [← List.map_id x.cps.toList]
  congr 1
theorem str_eq {a b : Str} (h : a.cps.toList = b.cps.toList) : a = b := by
  cases a; cases b; simp at h; rw [h]
section
variable {x plain other ahead : Str} {missed : Int}
theorem l4_plain (h : Inv4 (KStt.codes x) plain other missed ahead) : fixS x = plain := by
  refine str_eq ?_
  rw [h.1, codes_nat]
  unfold fixS
  rw [List.toList_toArray, fix_pl _ none (by simp)]
theorem l4_other (h : Inv4 (KStt.codes x) plain other missed ahead) : fixS (dotS x) = other := by
  refine str_eq ?_
  rw [h.2.1, codes_nat]
  unfold fixS dotS
  rw [List.toList_toArray, List.toList_toArray]
  exact ot_ _ none (by simp)
theorem l4_len (h : Inv4 (KStt.codes x) plain other missed ahead) : ((dotS (fixS x)).length : Int) = (other.length : Int) + missed := by
  have e1 : (dotS (fixS x)).length = (dueN none x.cps.toList).length := by
    show (dotL true (fixL x.cps.toList).toArray.toList).toArray.size = _
    rw [List.size_toArray, List.toList_toArray, ← quote_due x.cps.toList none (by simp)]
    rfl
  have e2 : other.length = (otN none x.cps.toList).length := by
    show other.cps.size = _
    rw [← Array.length_toList, h.2.1, codes_nat]
  rw [e1, e2, h.2.2.1, codes_nat, len_]
  simp
theorem l4_again (h : Inv4 (KStt.codes x) plain other missed ahead) : dotS (fixS plain) = dotS (fixS x) := by
  rw [← l4_plain h]
  unfold fixS
  rw [List.toList_toArray, fix_fix]
end
end Mine

end

/-! W04 -/
section
open PySem PySem.W PyProof.Rows
namespace Mine
def menu4 : Str := Str.ofString ".\r\na.\r\n \x0b\x0c\u0085\\"
theorem item_low (i : Int) : ((Txt.item menu4 (Int.fmod i 12)).cps.toList.all (· < 2048)) = true := by
  have key : ∀ j : Nat, j < 12 → ((Txt.item menu4 (j : Int)).cps.toList.all (· < 2048)) = true := by decide +kernel
  have h0 := Int.fmod_nonneg_of_pos i (b := 12) (by decide)
  have h1 := Int.fmod_lt_of_pos i (b := 12) (by decide)
  have := key (Int.fmod i 12).toNat (by omega)
  rw [Int.toNat_of_nonneg h0] at this
  exact this
theorem lowS_text (l : List Int) : LowS (Txt.join (Str.ofString "") (l.map fun a => Txt.item (Str.ofString ".\r\na.\r\n \x0b\x0c\u0085\\") (Int.fmod a 12))) := by
  rw [S_nil, join_empty]
  unfold LowS
  rw [List.toList_toArray]
  intro c hc
  obtain ⟨p, hp, hcp⟩ := List.mem_flatMap.mp hc
  obtain ⟨a, _, rfl⟩ := List.mem_map.mp hp
  have := List.all_eq_true.mp (item_low a) c hcp
  simpa using this
section
variable {prog : Program} {w : World} {A : Around} {E : Value → Shared → Prop} {s : Shared} {x : Str} {t u : Tok} {Q : Value → Shared → Prop}
theorem encode4 (hl : LowS x) (hx : x.length ≤ 4194304) (h : ∀ t' k, Q (.bytes (encS x) t') { s with toks := k }) :
    wpAny (model prog w) A (call (.builtin "str.encode") [.str x t, .str (Str.ofString "utf-8") u]) Q E s := call_encode hl hx h
theorem decode4 (hl : LowS x) (hx : x.length ≤ 4194304) (h : ∀ t' k, Q (.str x t') { s with toks := k }) :
    wpAny (model prog w) A (call (.builtin "bytes.decode") [.bytes (encS x) t, .str (Str.ofString "utf-8") u]) Q E s :=
  call_decode hl (by rw [Array.length_toList]; show x.length ≤ 2 ^ 22; omega) fun t' k => h t' k
theorem dotB4 {h₀ : Heap} {L : Addr} {m : Str → Option Value} {news : List (Addr × Obj)} {P ct : Addr} {src fl : Value} {r : Array UInt8} {tr : Tok} (F : Fr h₀ L s.heap m) (N : News h₀ L s.heap news)
    (hP : h₀.get? P = some (patObj src fl ct 1)) (hC : h₀.get? ct = some (codeObj c1)) (hr : r = #[46, 46]) (hl : LowS x) (hx : x.length ≤ 1000000)
    (h : ∀ h' tv tk, (dotS x).length ≤ 2 * x.length → LowS (dotS x) → Fr h₀ L h' m → News h₀ L h' news → Q (.bytes (encS (dotS x)) tv) { s with heap := h', toks := tk }) :
    wpAny (model prog w) A (call (.builtin "re.Pattern.sub") [.ref P, .bytes r tr, .bytes (encS x) t]) Q E s := by
  have hsz : (encS x).size ≤ 2 ^ 22 := by
    have h1 := enc_len _ hl
    have h2 : x.cps.toList.length = x.cps.size := Array.length_toList
    have h3 : x.cps.size = x.length := rfl
    show (enc x.cps.toList).toArray.size ≤ 2 ^ 22
    rw [List.size_toArray]; omega
  refine call_subB dotPat (by rw [hr]; rfl) (by rw [hr]; decide +kernel) hsz (by decide) (F.keep _ _ hP) (F.keep _ _ hC) fun h' tv tk hk => ?_
  have e : (u8 (dotPat.rest ((encS x).map (·.toNat)) 0)).toArray = encS (dotS x) := by
    have e1 : dotPat.rest ((encS x).map (·.toNat)) 0 = dotL true ((enc x.cps.toList).map (·.toNat)) := by
      show dotL (headAt _ 0) (List.drop 0 _) = _
      rw [List.drop_zero]
      show dotL true _ = _
      congr 1
      unfold encS
      rw [Array.toList_map, List.toList_toArray]
    rw [e1, dot_enc _ _ hl]
    unfold encS dotS
    rw [List.toList_toArray]
  rw [e]
  refine h h' tv tk ?_ (lowS_dot hl) (F.keeps hk) (N.grown hk)
  show (dotL _ _).toArray.size ≤ 2 * x.cps.size
  rw [List.size_toArray]
  exact dotL_length _ _
end
theorem bytes_eq4 {x : Str} : ((encS (dotS (fixS x)) == encS (dotS (fixS x))) == true) = true := by simp
end Mine
namespace Mine
section
variable {prog : Program} {w : World} {A : Around} {E : Value → Shared → Prop} {s : Shared} {x y : Str} {t u : Tok} {K L : Nat}
theorem gm_encode {M : Model} {pl : Sem Bool} {Q : Value × List Value → Shared → Prop} (h : Q (.builtin "str.encode", [.str x t]) s) : wpAny M A (getMethod (.str x t) "encode" pl) Q E s := by
  with_reducible exact GM.of (.str x t) (typeIs_str _ _ _) F.slot_str_encode F.type_str_encode GM.noRef h
theorem iadd4 {Q : Value → Shared → Prop} (hx : x.length ≤ K) (hy : y.length ≤ L) (hs : K + L ≤ 1000000) (h : ∀ t' k, (x ++ y).length ≤ K + L → Q (.str (x ++ y) t') { s with toks := k }) : wpAny (model prog w) A (inplaceOp .Add (.str x t) (.str y u)) Q E s :=
  SB.iadd (fun t' k => h t' k (by rw [Str.length_append]; omega)) (by show _ ≤ 2 ^ 24; omega)
end
theorem lit4_crlf : (Str.ofString "\r\n").length ≤ 2 := by decide +kernel
theorem lit4_nil : (Str.ofString "").length ≤ 0 := by decide +kernel
theorem lit4_dot : (Str.ofString ".").length ≤ 1 := by decide +kernel
theorem lit4_one (c : Nat) : (⟨#[c]⟩ : Str).length ≤ 1 := Nat.le_refl 1
theorem snoc4 (pre : List Int) (n : Int) : (pre ++ [n]).length = pre.length + 1 := by simp
theorem st4_start : ((Str.ofString "").length ≤ 2 * ([] : List Int).length ∧ (Str.ofString "").length ≤ 2 * ([] : List Int).length ∧ (Str.ofString "").length ≤ 1 ∧ Inv4 [] (Str.ofString "") (Str.ofString "") 0 (Str.ofString "")) :=
  ⟨by decide +kernel, by decide +kernel, by decide +kernel, inv4_start⟩
theorem dead_rd {c : Nat} (h1 : ((⟨#[c]⟩ : Str) == Str.ofString "\r") = true) (h2 : ((⟨#[c]⟩ : Str) == Str.ofString ".") = true) : False := two_no h1 h2 (by decide +kernel)
theorem dead_nd {c : Nat} (h1 : ((⟨#[c]⟩ : Str) == Str.ofString "\n") = true) (h2 : ((⟨#[c]⟩ : Str) == Str.ofString ".") = true) : False := two_no h1 h2 (by decide +kernel)
end Mine
namespace Mine
section
variable {x plain other ahead : Str} {missed : Int}
theorem no_plain (h : Inv4 (KStt.codes x) plain other missed ahead) (e : (fixS x == plain) = false) : False := by rw [l4_plain h] at e; simp at e
theorem no_bytes {b : Array UInt8} (e : (b == b) = false) : False := by simp at e
theorem no_other (h : Inv4 (KStt.codes x) plain other missed ahead) (e : (fixS (dotS x) == other) = false) : False := by rw [l4_other h] at e; simp at e
theorem yes_again (h : Inv4 (KStt.codes x) plain other missed ahead) : ((dotS (fixS plain) == dotS (fixS x)) == true) = true := by rw [l4_again h]; simp
end
end Mine

end

/-! A04 -/
open PySem PySem.W PyProof.Rows
namespace Mine
end Mine
local macro_rules | `(tactic| walk_at "execs cons") => `(tactic| first | (k_here; k_gentoks) | ((with_reducible refine wpAny_execs_cons ?_); (try dsimp only)))
local macro_rules | `(tactic| walk_at "CompSrc") => `(tactic| (k_here; (try k_fmods); (try kcf_lens); k_dflt (refine LCg.CompSrc.ledger (by rfl) (by k_asm) (by k_asm) (by k_mem) (by kcf_size) ?_; intro g'; (refine' kct_list (fun k => Txt.item (Str.ofString ".\r\na.\r\n \x0b\x0c\u0085\\") (Int.fmod k 12)) (by first | assumption | l_ints) (fun k' t' I' oI' C' oC' D' m' ys' h' tk' E' hk' hC' hx' F' N' off' ne' hMark' => ?_) ?_); (all_goals (try (simp only [LCg.Off3, and_true] at off'))); kcf_last)))
local macro_rules | `(tactic| walk_at "getMethod ref") => `(tactic| (k_here; (with_reducible show wpAny _ _ (getMethod (Value.ref _) (Str.ofString "sub") _) _ _ _); (rename Frag.In _ _ => kX'); (rename Fr _ _ _ _ => kF'); k_dflt (refine Mine.getMethod_sub (Fr.keep kF' _ _ (kX' _ _ (by with_unfolding_all rfl))) ?_)))
local macro_rules | `(tactic| walk_at "call builtin:re.Pattern.sub") => `(tactic| (k_here; (rename Frag.In _ _ => kX'); (rename Fr _ _ _ _ => kF'); (rename News _ _ _ _ => kN'); k_dflt (first
  | (refine Mine.call_fix kF' kN' (kX' 46 _ (by with_unfolding_all rfl)) (kX' 45 _ (by with_unfolding_all rfl)) (by decide +kernel) (by omega) ?_; intro h' t' tk' hLen' F' N')
  | (refine Mine.call_dot kF' kN' (kX' 36 _ (by with_unfolding_all rfl)) (kX' 35 _ (by with_unfolding_all rfl)) (by decide +kernel) (by omega) ?_; intro h' t' tk' hLen' F' N')
  | (refine Mine.dotB4 kF' kN' (kX' 41 _ (by with_unfolding_all rfl)) (kX' 40 _ (by with_unfolding_all rfl)) (by decide +kernel) (by first | exact Mine.lowS_text _ | exact Mine.lowS_fix (Mine.lowS_text _)) (by omega) ?_; intro h' t' tk' hLen' hLow' F' N'))))
local macro_rules | `(tactic| walk_at "inplaceOp Add str str") => `(tactic| (k_here; (with_reducible show wpAny _ _ (inplaceOp Operator.Add (Value.str _ _) (Value.str _ _)) _ _ _); (refine' Mine.iadd4 ?kax ?kay ?kas ?_; (case kax => with_reducible first | assumption | exact Mine.lit4_crlf | exact Mine.lit4_nil | exact Mine.lit4_dot | exact Mine.lit4_one _); (case kay => with_reducible first | assumption | exact Mine.lit4_crlf | exact Mine.lit4_nil | exact Mine.lit4_dot | exact Mine.lit4_one _); (case kas => k_dflt omega)); intro t' k' kaLen'))
local macro_rules | `(tactic| walk_at "getMethod str") => `(tactic| (with_reducible refine Mine.gm_encode ?_))
local macro_rules | `(tactic| walk_at "getMethod bytes") => `(tactic| (with_reducible refine KBd.method ?_))
local macro_rules | `(tactic| walk_at "call builtin:str.encode") => `(tactic| (k_here; (refine Mine.encode4 (by with_reducible first | assumption | exact Mine.lowS_text _ | exact Mine.lowS_fix (Mine.lowS_text _) | exact Mine.lowS_dot (Mine.lowS_fix (Mine.lowS_text _))) (by k_dflt omega) ?_; intro t' k')))
local macro_rules | `(tactic| walk_at "call builtin:bytes.decode") => `(tactic| (k_here; (refine Mine.decode4 (by with_reducible first | assumption | exact Mine.lowS_dot (Mine.lowS_text _)) (by k_dflt omega) ?_; intro t' k')))
set_option maxHeartbeats 8000000 in
theorem PySem.Challenge.cw_dn0159_04_holds : PySem.Challenge.rw_dn0159_04.Holds := by
  (k_with "pyIter str" => k_state (fun pre plain other missed ahead => plain.length ≤ 2 * pre.length ∧ other.length ≤ 2 * pre.length ∧ ahead.length ≤ 1 ∧ Mine.Inv4 pre plain other missed ahead) "plain" "other" "missed" "ahead")
  (k_with "state" => first
    | with_reducible exact Mine.st4_start
    | ((refine ⟨?_, ?_, ?_, ?_⟩); (rw [Mine.snoc4]; k_dflt omega); (rw [Mine.snoc4]; k_dflt omega); (with_reducible exact Mine.lit4_one _); with_reducible first
      | exact Mine.s4_cr (by assumption) (by assumption)
      | exact Mine.s4_lf0 (by assumption) (by assumption) (by assumption)
      | exact Mine.s4_lf1 (by assumption) (by assumption) (by assumption)
      | exact Mine.s4_plain (by assumption) (by assumption) (by assumption) (by assumption)
      | exact Mine.s4_dot0 (by assumption) (by assumption) (by first | exact Or.inl (by assumption) | exact Or.inr (by assumption))
      | exact Mine.s4_dotr (by assumption) (by assumption) (by assumption)
      | exact Mine.s4_dotx (by assumption) (by assumption) (by assumption) (by assumption) (by assumption))
    | (exfalso; with_reducible first | exact Mine.dead_rd (by assumption) (by assumption) | exact Mine.dead_nd (by assumption) (by assumption)))
  (k_with "end" => with_reducible first
    | exact Mine.yes_again (by assumption)
    | exact Mine.no_plain (by assumption) (by assumption)
    | exact Mine.no_other (by assumption) (by assumption)
    | exact Mine.no_bytes (by assumption)
    | (exfalso; exact Mine.no_plain (by assumption) (by assumption))
    | (exfalso; exact Mine.no_other (by assumption) (by assumption))
    | (exfalso; exact Mine.no_bytes (by assumption))
    | (have kL' := Mine.l4_len (by assumption); exfalso; k_dflt omega))
  open_k

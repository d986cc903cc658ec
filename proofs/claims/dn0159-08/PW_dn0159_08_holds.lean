import PyProof.Rows.All
import Wide.All
import OpenK.AllK
import Wide.FinOn
import OpenK.XGo
import PySem.Challenge.RW_dn0159_08
set_option Elab.async false
set_option maxRecDepth 100000

/-! XE -/
section
open PySem PySem.W PySem.Calls PyProof.Rows Builtin Builtin.ObjectAttr
namespace Mine
/-! errors of own classes below OSError: their attributes -/
structure ExcCls (K : Frag) (C : Addr) : Prop where
  ga : findIn K (.ref C) "__getattribute__" = some (some (.builtin "BaseException.__getattribute__"))
  gh : findIn K (.ref C) "__getattr__" = some none
  args : findIn K (.ref C) "args" = some (some (.builtin "BaseException.args"))
  sub : mroIn K C (.type "BaseException") = some true

theorem ga_slot : Slot "OSError" "__getattribute__" "BaseException.__getattribute__" :=
  .of (owner := "BaseException") (n := "__getattribute__") (by rw [typeLookup_type, builtinLookup_eq_fast]; kernel_rfl) (by decide +kernel) (by decide +kernel) (by decide +kernel)
    (by first | exact .inl (by decide +kernel) | exact .inr (by decide +kernel)) (by rw [isSubtype_type]; kernel_rfl)

section
variable {prog : Program} {w : World} {A : Around} {E : Value → Shared → Prop} {s : Shared} {K : Frag} {x C : Addr} {ox : Obj} {od : Option Obj} {name : Str} {expr : Bool} {Q : Value → Shared → Prop}
theorem exc_check {nameV : Value} {Q : Unit → Shared → Prop} (X : K.In s.heap) (hC : ExcCls K C) (I : InstAt s.heap x ox C od) (hq : Q () s) :
    wpAny (model prog w) A (checkBuiltinCall "BaseException.__getattribute__" ⟨[.ref x, nameV], []⟩) Q E s := by
  have hk : builtinKind "BaseException.__getattribute__" = some .slot := by decide +kernel
  have hsplit : splitId "BaseException.__getattribute__" = some ("BaseException", "__getattribute__") := by decide +kernel
  have ha := F.args_bexc_ga (.ref x) nameV
  obtain ⟨hh', g, d, t, os⟩ := s
  have L0 := I.type (M := model prog w)
  have L1 := looks_mroIn (M := model prog w) X hC.sub
  simp only [checkBuiltinCall, hk, hsplit]
  refine wpAny_bind ?_
  unfold isInstance
  refine wpAny_bind (L0.at (L1.at ?_))
  repeat (any_goals (first | assumption | wp_step))

theorem exc_open (X : K.In s.heap) (hC : ExcCls K C) (I : InstAt s.heap x ox C od)
    (h : wpAny (model prog w) A.in1 (Builtin.«object.__getattribute__» ⟨[.ref x, .str name s.toks], []⟩) (fun fin s' => match fin with | .done (.ret v) => wpAny (model prog w) A (handedOut v) Q E s' | _ => False)
      (fun e s' => wpAny (model prog w) A (getattributeRaised (.ref x) (.str name s.toks) (.ref C) e none true expr) Q E s') { s with toks := s.toks + 1 }) :
    wpAny (model prog w) A (getAttr (.ref x) name expr) Q E s := by
  obtain ⟨hh, g, d, t, os⟩ := s
  have L0 := I.type (M := model prog w)
  have L1 := looks_findIn (M := model prog w) X hC.ga
  have L2 := looks_findIn (M := model prog w) X hC.gh
  have f3 := ga_slot.bind (.ref x)
  have hx0 : (expr && onTheHeap (Value.builtin "BaseException.__getattribute__")) = false := by cases expr <;> rfl
  unfold getAttr getAttrBy
  refine wpAny_bind (wpAny_mkText (wpAny_holding (wpAny_bind (L0.at (wpAny_bind (L1.at ?_))))))
  show wpAny _ _ (getAttrByItsOwn (.ref x) (.str name t) (.ref C) (.builtin "BaseException.__getattribute__") true expr) _ _ _
  unfold getAttrByItsOwn
  refine wpAny_bind (L2.at ?_)
  refine wpAny_bind (wpAny_attempt (wpAny_holding ?_))
  unfold callGetattribute
  rw [hx0]
  show wpAny _ _ (boundAndCalled _ _ _) _ _ _
  unfold boundAndCalled
  rw [f3]
  refine wpAny_bind (wpAny_pure ?_)
  refine wpAny_call ?_
  refine codeAny_call_builtin ga_slot.plain F.entry_bexc_ga (exc_check X hC I ?_)
  refine wpAny_mono h (fun fin s' z => ?_) fun _ _ z => z
  rcases fin with (_ | _ | _ | _) | _ <;> first | exact z | exact z.elim
theorem exc_value {v : Value} (X : K.In s.heap) (hC : ExcCls K C) (I : InstAt s.heap x ox C od) (hf : findObj K C od name = some (.value v)) (hh : handedIn v = true) (h : Q v { s with toks := s.toks + 1 }) :
    wpAny (model prog w) A (getAttr (.ref x) name expr) Q E s := by
  refine exc_open X hC I ?_
  obtain ⟨hh', g, d, t, os⟩ := s
  have L0 := I.type (M := model prog w)
  have L1 := looks_find (M := model prog w) X I hf
  refine wpAny_bind (wpAny_pure (wpAny_bind (wpAny_pure (wpAny_bind (L0.at (wpAny_bind (L1.at ?_)))))))
  refine wpAny_pure ?_
  show wpAny _ _ (handedOut v) _ _ _
  rw [handedOut_of hh]; exact wpAny_pure h
theorem args_get' {R : Result → Shared → Prop} {vs : Array Value} {t0 : Addr} (X : K.In s.heap) (hC : ExcCls K C) (I : InstAt s.heap x ox C od) (hd : ox.data = .fields vs) (h0 : vs[0]? = some (.ref t0)) (hq : R (.ok (.ret (.ref t0))) s) :
    codeAny (model prog w) A (.call (.builtin "getset_descriptor.__get__") ⟨[.builtin "BaseException.args", .ref x, .ref C], []⟩) R s := by
  obtain ⟨hh', g, d, t, os⟩ := s
  have hT5 : (⟨hh', g, d, t, os⟩ : Shared).TypeIs (.builtin "BaseException.args") "getset_descriptor" := F.typeOf_bexc_args
  have L0 := I.type (M := model prog w)
  have L1 := looks_mroIn (M := model prog w) X hC.sub
  have hx := I.at_
  refine codeAny_call_builtin F.slot_gs_get.plain F.entry_gs_get (F.slot_gs_get.check _ _ _ _ _ _ _ _ hT5 (F.args_gs_get _ _ _) ?_)
  have e1 := F.owner_bexc_args
  repeat (any_goals (first | assumption | (with_reducible refine wpAny_bind (L0.at ?_)) | (with_reducible refine L0.at ?_) | (rw [F.owner_bexc_args]; refine L1.at ?_) | wp_step))
  refine ⟨Code.quiet_builtin _ (by decide +kernel), codeAny_builtin F.entry_bexc_args ?_⟩
  have hnd : (Value.ref t0 == doubtfulMember) = false := by first | rfl | decide | simp [doubtfulMember, rawInt]
  unfold Builtin.«BaseException.args»
  repeat (any_goals (first | assumption | with_reducible refine wpAny_field hx hd h0 ?_ | wp_step))
theorem exc_args {vs : Array Value} {t0 : Addr} (X : K.In s.heap) (hC : ExcCls K C) (I : InstAt s.heap x ox C od) (hf : findObj K C od "args" = some (.bind (.builtin "getset_descriptor.__get__") (.builtin "BaseException.args")))
    (hd : ox.data = .fields vs) (h0 : vs[0]? = some (.ref t0)) (h : Q (.ref t0) { s with toks := s.toks + 1 }) :
    wpAny (model prog w) A (getAttr (.ref x) "args" expr) Q E s := by
  refine exc_open X hC I ?_
  obtain ⟨hh', g, d, t, os⟩ := s
  have L0 := I.type (M := model prog w)
  have L1 := looks_find (M := model prog w) X I hf
  refine wpAny_bind (wpAny_pure (wpAny_bind (wpAny_pure (wpAny_bind (L0.at (wpAny_bind (L1.at ?_)))))))
  show wpAny _ _ (holding [_] (call (.builtin "getset_descriptor.__get__") [.builtin "BaseException.args", .ref x, .ref C]) >>= ret) _ _ _
  refine wpAny_bind (wpAny_holding (wpAny_call (args_get' (s := ⟨hh', g, d, t + 1, os⟩) X hC I hd h0 ?_)))
  refine wpAny_pure ?_
  show wpAny _ _ (handedOut (.ref t0)) _ _ _
  exact wpAny_pure h
def shortName (K : Frag) (C : Addr) : Bool := match clsIn K C with
  | some cd => decide (cd.name.cps.foldl (fun k c => k + (Str.utf8Of c).length) 0 ≤ 100) && decide (cd.name.toString.length ≤ 50)
  | none => false
theorem exc_miss (X : K.In s.heap) (hC : ExcCls K C) (hn : shortName K C = true) (I : InstAt s.heap x ox C od) (hf : findObj K C od name = some .missing) (hA : A.handled = none) (hsz : name.length + 100 ≤ sizeLine)
    (h : ∀ h' tk e, Heap.NewExcOf s.heap h' e "AttributeError" → E (.ref e) { s with heap := h', toks := tk }) :
    wpAny (model prog w) A (getAttr (.ref x) name true) Q E s := by
  refine exc_open X hC I ?_
  obtain ⟨hh', g, d, t, os⟩ := s
  have L0 := I.type (M := model prog w)
  have L1 := looks_find (M := model prog w) X I hf
  refine wpAny_bind (wpAny_pure (wpAny_bind (wpAny_pure (wpAny_bind (L0.at (wpAny_bind (L1.at ?_)))))))
  unfold shortName at hn
  split at hn
  · rename_i cd hcd
    rw [Bool.and_eq_true, decide_eq_true_eq, decide_eq_true_eq] at hn
    have L2 := looks_clsIn (M := model prog w) X hcd
    show wpAny _ _ (noSuchAttribute (.ref x) name) _ _ _
    unfold noSuchAttribute typeNameOfCut shownTypeOf
    refine wpAny_bind (wpAny_bind (wpAny_bind (L0.at ?_)))
    refine wpAny_pure ?_
    unfold typeNameCut
    refine wpAny_bind (L2.at ?_)
    rw [if_pos hn.1]
    refine wpAny_pure ?_
    refine wpAny_raiseAttrError hA (fun h' tk e hx => ?_) (attrMsg_fits ?_ hsz)
    · have f1 := sub_AttributeError
      have f5 := looks_findIn (M := model prog w) X hC.gh
      obtain ⟨t', u', he⟩ := hx.there
      unfold getattributeRaised
      repeat (any_goals (first | assumption | wp_step))
      exact h _ _ _ hx.of
    · have q := hn.2
      show (toString "'" ++ toString cd.name.toString ++ toString "' object has no attribute '").length ≤ 90
      simp only [String.length_append, toString]
      have e1 : "'".length = 1 := by decide
      have e2 : "' object has no attribute '".length = 27 := by decide
      omega
  · cases hn
end
end Mine

end

/-! XS -/
section
open PySem PySem.W PySem.Calls PyProof.Rows
namespace Mine
/-! what noteFrame and setFlight do to the heap, to the letter -/
structure Noted (fs : List Addr) (h h' : Heap) (e : Addr) (oe : Obj) (T : Addr) (oT : Obj) : Prop where
  keep : ∀ b o, b ∉ fs → b ≠ e → h.get? b = some o → h'.get? b = some o
  frames : ∀ b o, b ∈ fs → b ≠ e → h.get? b = some o → ∃ sl, h'.get? b = some { o with slots := sl }
  new : h.get? T = none
  err : h'.get? e = some (Obj.mapFields (·.setIfInBounds 1 (.ref T)) oe)
  ne : T ≠ e
  at_ : h'.get? T = some oT
  flds : ∃ ts, oT.data = .fields ts ∧ 3 < ts.size
section
variable {M : Model} {A : Around} {E : Value → Shared → Prop} {s : Shared}
theorem entry_exact {env : Env} {outer : List Env} {L e : Addr} {oe : Obj} {vs : Array Value} {head : Value} {hadNext : Bool} {Q : Unit → Shared → Prop}
    (hfr : A.frames = some (env :: outer)) (hl : s.heap.FunFrames {} (env :: outer)) (hf : env.frame = some L)
    (he : s.heap.get? e = some oe) (hd : oe.data = .fields vs) (hsz : 1 < vs.size)
    (h : ∀ h' T oT, Noted ((env :: outer).filterMap (·.frame)) s.heap h' e oe T oT → Q () { s with heap := h' }) :
    wpAny M A (do let a ← frameOf env; let pl ← entryPlaceOf L hadNext; let b ← EntryCells.newEntry head a .none (rawInt L) .none pl; setField (.ref e) 1 b) Q E s := by
  have hene : e ∉ (env :: outer).filterMap (·.frame) := fun hm => by
    obtain ⟨_, o, ho, hnf⟩ := hl.mem hm
    rw [he] at ho; injection ho with ho; subst ho; exact hnf vs hd
  refine wpAny_bind (wpAny_frameOf_fun hfr hl hf fun h₁ hs₁ => ?_)
  refine wpAny_bind (wpAny_entryPlaceOf fun pl hpl => ?_)
  unfold EntryCells.newEntry newFields
  refine wpAny_bind (wpAny_newObj_type ?_ (hpl.sizeOk5 _ _ _ _ _))
  have he₁ : h₁.get? e = some oe := (hs₁.2.1 e hene).trans he
  have he₂ := Heap.get?_push_of_some (h := h₁) { cls := .type "traceback", dict := none, data := .fields ([head, .ref L, .none, rawInt L, .none] ++ (if pl.isEmpty then List.replicate 6 Value.none else pl)).toArray } he₁
  have hTe : h₁.objs.size ≠ e := Nat.ne_of_gt (Heap.lt_size he₁)
  have hd₃ := Obj.data_mapFields hd (·.setIfInBounds 1 (Value.ref h₁.objs.size))
  refine wpAny_setField he₂ hd hsz (h _ h₁.objs.size { cls := .type "traceback", dict := none, data := .fields ([head, .ref L, .none, rawInt L, .none] ++ (if pl.isEmpty then List.replicate 6 Value.none else pl)).toArray } ⟨fun b o hb hbe hbo => ?_, fun b o hb hbe hbo => ?_, ?_, ?_, hTe, ?_, ?_⟩)
  · rw [Heap.get?_update_other _ _ (Ne.symm hbe)]
    exact Heap.get?_push_of_some _ ((hs₁.2.1 b hb).trans hbo)
  · obtain ⟨sl, hsl⟩ := hs₁.2.2 b o hbo
    refine ⟨sl, ?_⟩
    rw [Heap.get?_update_other _ _ (Ne.symm hbe)]
    exact Heap.get?_push_of_some _ hsl
  · exact Heap.get?_none_of_le (by rw [hs₁.1]; exact Nat.le_refl _)
  · exact Heap.get?_update_self _ he₂ (Obj.isFreed_of_fields hd₃)
  · exact (Heap.get?_update_other _ _ (Ne.symm hTe)).trans (Heap.get?_push_size h₁ rfl)
  · exact ⟨_, rfl, by simp only [List.size_toArray, List.length_append, List.length_cons, List.length_nil]; omega⟩
theorem note_first {env : Env} {outer : List Env} {L e : Addr} {oe : Obj} {vs : Array Value} {Q : Unit → Shared → Prop}
    (hfr : A.frames = some (env :: outer)) (hl : s.heap.FunFrames {} (env :: outer)) (hf : env.frame = some L)
    (he : s.heap.get? e = some oe) (hd : oe.data = .fields vs) (h1 : vs[1]? = some .none)
    (h : ∀ h' T oT, Noted ((env :: outer).filterMap (·.frame)) s.heap h' e oe T oT → Q () { s with heap := h' }) :
    wpAny M A (noteFrame (.ref e) env) Q E s := by
  unfold noteFrame
  simp only [hf]
  refine wpAny_bind (wpAny_field he hd h1 ?_)
  rw [if_neg (by decide)]
  exact entry_exact hfr hl hf he hd (Array.getElem?_eq_some_iff.mp h1).1 h
end
/-- an error with its traceback, beside the ledger -/
structure Held (h₀ : Heap) (L : Addr) (h : Heap) (m : Str → Option Value) (news : List (Addr × Obj)) (e : Addr) (oe : Obj) (T : Addr) (oT : Obj) : Prop where
  fr : Fr h₀ L h m
  nw : News h₀ L h ((e, oe) :: (T, oT) :: news)
  ne : T ≠ e
  off : ∀ p ∈ news, p.1 ≠ T
  vs : ∃ vs ts, oe.data = .fields vs ∧ vs[1]? = some (.ref T) ∧ oT.data = .fields ts ∧ 3 < ts.size
/-- a traceback that is in flight nowhere -/
def Landed (oT : Obj) : Prop := ∃ ts, oT.data = .fields ts ∧ ts[3]? = some .none
theorem ns_keep {h h' : Heap} {L : Addr} {m : Str → Option Value} (n : h.Ns L m) (k : ∀ o, h.get? L = some o → ∃ sl, h'.get? L = some { o with slots := sl }) : h'.Ns L m := by
  obtain ⟨o, es, ep, ho, hd, r⟩ := n
  obtain ⟨sl, hs⟩ := k o ho
  exact ⟨_, es, ep, hs, hd, r⟩
section
variable {M : Model} {A : Around} {E : Value → Shared → Prop} {s : Shared} {h₀ : Heap} {L : Addr} {m : Str → Option Value} {news : List (Addr × Obj)} {e T : Addr} {oe oT : Obj}
theorem Held.flight' {Q : Unit → Shared → Prop} (H : Held h₀ L s.heap m news e oe T oT) (k : ∀ h' oT', Held h₀ L h' m news e oe T oT' → Landed oT' → Q () { s with heap := h' }) :
    wpAny M A (setFlight (.ref e) none) Q E s := by
  obtain ⟨F, N, ne, off, vs, ts, hd, h1, hdT, h3⟩ := H
  have he := (N _ (.head _)).1
  have hT := (N _ (.tail _ (.head _))).1
  have hTL : L ≠ T := fun q => (N _ (.tail _ (.head _))).2.1 q.symm
  have hd₃ := Obj.data_mapFields hdT (·.setIfInBounds 3 Value.none)
  have hs : Heap.SameBut T s.heap (s.heap.update T (Obj.mapFields (·.setIfInBounds 3 Value.none))) := Heap.SameBut.update ..
  refine wpAny_setFlight_none he hd h1 hT hdT h3 (k _ (Obj.mapFields (·.setIfInBounds 3 Value.none) oT) ⟨F.change hs (Ne.symm hTL) (N _ (.tail _ (.head _))).2.2, fun p hp => ?_, ne, off, vs, _, hd, h1, hd₃, by simpa using h3⟩ ⟨_, hd₃, by simp [h3]⟩)
  rcases List.mem_cons.mp hp with rfl | hp
  · exact ⟨(hs.2 _ (Ne.symm ne)).trans he, (N _ (.head _)).2⟩
  rcases List.mem_cons.mp hp with rfl | hp
  · exact ⟨Heap.get?_update_self _ hT (Obj.isFreed_of_fields hd₃), (N _ (.tail _ (.head _))).2⟩
  · have z := N p (.tail _ (.tail _ hp))
    exact ⟨(hs.2 _ (off p hp)).trans z.1, z.2⟩
theorem Held.flight {Q : Unit → Shared → Prop} (H : Held h₀ L s.heap m news e oe T oT) (k : ∀ h' oT', Held h₀ L h' m news e oe T oT' → Q () { s with heap := h' }) :
    wpAny M A (setFlight (.ref e) none) Q E s := H.flight' fun h' oT' H' _ => k h' oT' H'
end
section
variable {M : Model} {A₀ : Around} {E : Value → Shared → Prop} {s : Shared} {h₀ : Heap} {L L' a : Addr} {m : Str → Option Value} {news : List (Addr × Obj)} {e : Addr} {oe oL : Obj} {name : Str} {scope : Scope} {cd : Value} {env : Env} {vs : Array Value}
theorem funFrame_of {h h₀ : Heap} {L : Addr} {m : Str → Option Value} (F : Fr h₀ L h m) (hk : scope.kind = .function) : h.FunFrames {} [envOf name scope L a cd] := by
  obtain ⟨o, es, ep, ho, hd, _⟩ := F.ns
  refine ⟨?_, ⟨L, o, rfl, rfl, ho, fun vs q => by rw [hd] at q; cases q⟩, trivial⟩
  show scope.kind ≠ .module
  rw [hk]; decide
/-- the first frame of an error, in the outermost function -/
theorem note_own {Q : Unit → Shared → Prop} (hfr : A₀.frames = some []) (F : Fr h₀ L s.heap m) (N : News h₀ L s.heap ((e, oe) :: news)) (hne : ∀ p ∈ news, p.1 ≠ e)
    (hd : oe.data = .fields vs) (h1 : vs[1]? = some .none) (hk : scope.kind = .function)
    (k : ∀ h' T oT, Held h₀ L h' m news e (Obj.mapFields (·.setIfInBounds 1 (.ref T)) oe) T oT → Q () { s with heap := h' }) :
    wpAny M (A₀.deeper (envOf name scope L a cd)) (noteFrame (.ref e) (envOf name scope L a cd)) Q E s := by
  have he := (N _ (.head _)).1
  have hsz := (Array.getElem?_eq_some_iff.mp h1).1
  refine note_first (Around.frames_deeper hfr) (funFrame_of F hk) rfl he hd h1 fun h' T oT n => k h' T oT ?_
  have hT0 : h₀.get? T = none := by
    cases q : h₀.get? T with
    | none => rfl
    | some o => have := F.keep _ _ q; rw [n.new] at this; cases this
  have hTL : T ≠ L := by
    intro q
    obtain ⟨o, _, _, ho, _⟩ := F.ns
    have z := n.new
    rw [q, ho] at z; cases z
  have memL : ∀ b, b ≠ L → b ∉ ([envOf name scope L a cd].filterMap (·.frame)) := fun b hb hm => hb (List.mem_singleton.mp hm)
  have heL : e ≠ L := (N _ (.head _)).2.1
  refine ⟨⟨ns_keep F.ns fun o ho => n.frames L o (List.mem_singleton.mpr rfl) (Ne.symm heL) ho, fun b o hb => ?_, F.above⟩, fun p hp => ?_, n.ne, fun p hp q => ?_, ?_⟩
  · have b1 : b ≠ L := Nat.ne_of_lt (Nat.lt_of_lt_of_le (Heap.lt_size hb) F.above)
    have b2 : b ≠ e := fun q => by have z := (N _ (.head _)).2.2; rw [q] at hb; rw [z] at hb; cases hb
    exact n.keep b o (memL b b1) b2 (F.keep b o hb)
  · rcases List.mem_cons.mp hp with rfl | hp
    · exact ⟨n.err, heL, (N _ (.head _)).2.2⟩
    rcases List.mem_cons.mp hp with rfl | hp
    · exact ⟨n.at_, hTL, hT0⟩
    · have z := N p (.tail _ hp)
      exact ⟨n.keep _ _ (memL _ z.2.1) (hne p hp) z.1, z.2⟩
  · have z := N p (.tail _ hp)
    have y := n.new
    rw [← q, z.1] at y; cases y
  · obtain ⟨ts, t1, t2⟩ := n.flds
    exact ⟨_, ts, Obj.data_mapFields hd _, by simp [hsz], t1, t2⟩
/-- the first frame of an error, in a function that the outermost one called -/
theorem note_in {Q : Unit → Shared → Prop} (hfr : A₀.frames = some [env]) (henv : env.frame = some L) (hkind : env.scope.kind ≠ .module) (hdL : ∃ es ep, oL.data = .dict es ep)
    (F : Fr h₀ L' s.heap m) (N : News h₀ L' s.heap ((e, oe) :: (L, oL) :: news)) (hne : ∀ p ∈ news, p.1 ≠ e) (hnL : ∀ p ∈ news, p.1 ≠ L)
    (hd : oe.data = .fields vs) (h1 : vs[1]? = some .none) (hk : scope.kind = .function)
    (k : ∀ h' sl T oT, Held h₀ L' h' m ((L, { oL with slots := sl }) :: news) e (Obj.mapFields (·.setIfInBounds 1 (.ref T)) oe) T oT → Q () { s with heap := h' }) :
    wpAny M (A₀.deeper (envOf name scope L' a cd)) (noteFrame (.ref e) (envOf name scope L' a cd)) Q E s := by
  have he := (N _ (.head _)).1
  have hLo := (N _ (.tail _ (.head _)))
  have hsz := (Array.getElem?_eq_some_iff.mp h1).1
  have fs : s.heap.FunFrames {} [envOf name scope L' a cd, env] := by
    obtain ⟨q1, q2, _⟩ := funFrame_of (a := a) (name := name) (cd := cd) F hk
    obtain ⟨es, ep, hdd⟩ := hdL
    exact ⟨q1, q2, hkind, ⟨L, oL, henv, rfl, hLo.1, fun vs q => by rw [hdd] at q; cases q⟩, trivial⟩
  have fsE : [envOf name scope L' a cd, env].filterMap (·.frame) = [L', L] := by
    simp only [List.filterMap_cons, List.filterMap_nil, henv]; rfl
  have heL : e ≠ L := by
    intro q
    obtain ⟨es, ep, hdd⟩ := hdL
    have z := hLo.1
    change s.heap.get? L = some oL at z
    rw [← q, he] at z
    injection z with z
    have z' : oe = oL := z
    rw [← z', hd] at hdd; cases hdd
  refine note_first (Around.frames_deeper hfr) fs rfl he hd h1 fun h' T oT n => ?_
  rw [fsE] at n
  obtain ⟨sl, hsl⟩ := n.frames L oL (.tail _ (.head _)) (Ne.symm heL) hLo.1
  have hT0 : h₀.get? T = none := by
    cases q : h₀.get? T with
    | none => rfl
    | some o => have := F.keep _ _ q; rw [n.new] at this; cases this
  have hTL : T ≠ L' := by
    intro q
    obtain ⟨o, _, _, ho, _⟩ := F.ns
    have z := n.new
    rw [q, ho] at z; cases z
  have hTL2 : L ≠ T := by
    intro q
    have z := n.new
    rw [← q, hLo.1] at z; cases z
  have heL' : e ≠ L' := (N _ (.head _)).2.1
  have mem2 : ∀ b, b ≠ L' → b ≠ L → b ∉ [L', L] := fun b h1 h2 hm => by
    rcases List.mem_cons.mp hm with q | hm
    · exact h1 q
    · exact h2 (List.mem_singleton.mp hm)
  refine k h' sl T oT ⟨⟨ns_keep F.ns fun o ho => n.frames L' o (.head _) (Ne.symm heL') ho, fun b o hb => ?_, F.above⟩, fun p hp => ?_, n.ne, fun p hp q => ?_, ?_⟩
  · have b1 : b ≠ L' := Nat.ne_of_lt (Nat.lt_of_lt_of_le (Heap.lt_size hb) F.above)
    have b2 : b ≠ e := fun q => by have z := (N _ (.head _)).2.2; rw [q] at hb; rw [z] at hb; cases hb
    have b3 : b ≠ L := fun q => by have z := hLo.2.2; rw [q] at hb; rw [z] at hb; cases hb
    exact n.keep b o (mem2 b b1 b3) b2 (F.keep b o hb)
  · rcases List.mem_cons.mp hp with rfl | hp
    · exact ⟨n.err, heL', (N _ (.head _)).2.2⟩
    rcases List.mem_cons.mp hp with rfl | hp
    · exact ⟨n.at_, hTL, hT0⟩
    rcases List.mem_cons.mp hp with rfl | hp
    · exact ⟨hsl, hLo.2⟩
    · have z := N p (.tail _ (.tail _ hp))
      exact ⟨n.keep _ _ (mem2 _ z.2.1 (hnL p hp)) (hne p hp) z.1, z.2⟩
  · rcases List.mem_cons.mp hp with rfl | hp
    · exact hTL2 q
    · have z := N p (.tail _ (.tail _ hp))
      have y := n.new
      rw [← q, z.1] at y; cases y
  · obtain ⟨ts, t1, t2⟩ := n.flds
    exact ⟨_, ts, Obj.data_mapFields hd _, by simp [hsz], t1, t2⟩
end
end Mine

end

/-! XC -/
section
open PySem PySem.W PySem.Calls PyProof.Rows
namespace Mine
/-! a new built-in error caught by an except clause of its class or one above -/
section
variable {prog : Program} {w : World} {A₀ : Around} {E : Value → Shared → Prop} {s' : Shared} {h₀ h : Heap} {L L' a e : Addr} {m : Str → Option Value} {name : Str} {scope : Scope} {cd : Value}
  {b₀ : Stmt} {suite : List Stmt} {pos np : Pos} {rest : List ExceptHandler} {Q : Flow → Shared → Prop} {news : List (Addr × Obj)} {KF : Frag} {oL : Obj} {env : Env}
  {p : Program} {loose : List Str} {mean : ExcName → Option Value} {mg mb : Str → Option Value} {x : Str} {X T' : String}
theorem fr_up (F : Fr h₀ L h m) {h' : Heap} (k : ∀ b o, h.get? b = some o → h'.get? b = some o) : Fr h₀ L h' m :=
  ⟨ns_keep F.ns fun o ho => ⟨o.slots, k _ _ ho⟩, fun b o hb => k _ _ (F.keep b o hb), F.above⟩
theorem new_off {X : String} {h' : Heap} (hx : Heap.NewExcOf h h' e X) (N : News h₀ L h news) : ∀ p ∈ news, p.1 ≠ e := fun p hp q => by
  have z := (N p hp).1
  rw [q, hx.new] at z; cases z
theorem new_led {X : String} {h' : Heap} (hx : Heap.NewExcOf h h' e X) (F : Fr h₀ L h m) (N : News h₀ L h news) : ∃ oe vs, oe.cls = .type X ∧ oe.data = .fields vs ∧ vs[1]? = some .none ∧ News h₀ L h' ((e, oe) :: news) := by
  obtain ⟨oe, vs, he, hc, hd, h1⟩ := hx.there
  refine ⟨oe, vs, hc, hd, h1, fun p hp => ?_⟩
  rcases List.mem_cons.mp hp with rfl | hp
  · refine ⟨he, fun q => ?_, ?_⟩
    · obtain ⟨o, _, _, ho, _⟩ := F.ns
      have z := hx.new
      have q : e = L := q
      rw [q, ho] at z; cases z
    · cases z : h₀.get? e with
      | none => rfl
      | some o => have y := F.keep _ _ z; rw [hx.new] at y; cases y
  · exact ⟨hx.keeps _ _ (N p hp).1, (N p hp).2⟩
theorem held_suite {T : Addr} {oe oT : Obj} {envf : Env} (henvf : envf = envOf name scope L' a cd) (H : Held h₀ L' s'.heap m news e oe T oT) (hc : oe.cls = .type X) (KX : KF.In h₀) (TT : TopRead p loose mg mb h₀)
    (ex : nsIn KF mainGlobals x = some none) (hv : bootBuiltins x = some (.type T')) (hn' : x ≠ "__name__")
    (hexc : isSubtype (.type T') (.type "BaseException") = pure true) (hnt : isSubtype (.type ((Manifest.find? T').elim "type" fun y => y.metatype)) (.type "tuple") = pure false) (hsub : isSubtype (.type X) (.type T') = pure true)
    (k : ∀ h' oT', Held h₀ L' h' m news e oe T oT' → wpAny (model prog w) ((A₀.deeper envf).mark (some (.ref e))) (execs (b₀ :: suite) envf) Q E { s' with heap := h' })
    (hk : scope.kind = .function) (hxk : envf.kindOf x = some .globalImplicit) (hdb : (x == ("__debug__" : Str)) = false)
    (hE : PassesOwnAt (model prog w) ((A₀.deeper envf).mark (some (.ref e))) (A₀.deeper envf) envf E) :
    wpAny (model prog w) (A₀.deeper envf) (setFlight (.ref e) none) (fun _ s₃ => wpAny (model prog w) (A₀.deeper envf) (handleBy (.ref e) envf (.ExceptHandler (some (.Name x np)) none (b₀ :: suite) pos :: rest)) Q E s₃) E s' := by
  subst henvf
  refine H.flight fun h₂ oT₂ H₂ => ?_
  refine wpAny_handleBy_builtin (X := X) (T := T') (b := true) hexc hnt hsub (name_B H₂.fr KX TT ex hv hn' ⟨rfl, ⟨oe, (H₂.nw _ (.head _)).1, hc⟩, ?_⟩ hk hxk hdb)
  rw [if_pos rfl]
  exact H₂.flight fun h₃ oT₃ H₃ => wpAny_passesOwnAt hE (k h₃ oT₃ H₃)
theorem caught_own (hfr : A₀.frames = some []) (hx : Heap.NewExcOf h s'.heap e X) (F : Fr h₀ L h m) (N : News h₀ L h news) (KX : KF.In h₀) (TT : TopRead p loose mg mb h₀)
    (ex : nsIn KF mainGlobals x = some none) (hv : bootBuiltins x = some (.type T')) (hn' : x ≠ "__name__")
    (hexc : isSubtype (.type T') (.type "BaseException") = pure true) (hnt : isSubtype (.type ((Manifest.find? T').elim "type" fun y => y.metatype)) (.type "tuple") = pure false) (hsub : isSubtype (.type X) (.type T') = pure true)
    (k : ∀ h', Fr h₀ L h' m → News h₀ L h' news → wpAny (model prog w) ((A₀.deeper (envOf name scope L a cd)).mark (some (.ref e))) (execs (b₀ :: suite) (envOf name scope L a cd)) Q E { s' with heap := h' })
    (hk : scope.kind = .function) (hxk : (envOf name scope L a cd).kindOf x = some .globalImplicit) (hdb : (x == ("__debug__" : Str)) = false)
    (hE : PassesOwnAt (model prog w) ((A₀.deeper (envOf name scope L a cd)).mark (some (.ref e))) (A₀.deeper (envOf name scope L a cd)) (envOf name scope L a cd) E) :
    wpAny (model prog w) (A₀.deeper (envOf name scope L a cd)) (noteFrame (.ref e) (envOf name scope L a cd))
      (fun _ s₂ => wpAny (model prog w) (A₀.deeper (envOf name scope L a cd)) (setFlight (.ref e) none) (fun _ s₃ =>
        wpAny (model prog w) (A₀.deeper (envOf name scope L a cd)) (handleBy (.ref e) (envOf name scope L a cd) (.ExceptHandler (some (.Name x np)) none (b₀ :: suite) pos :: rest)) Q E s₃) E s₂) E s' := by
  obtain ⟨oe, vs, hc, hd, h1, N'⟩ := new_led hx F N
  refine note_own hfr (fr_up F hx.keeps) N' (new_off hx N) hd h1 hk fun h₁ T oT H => ?_
  exact held_suite (s' := { s' with heap := h₁ }) rfl H ((Obj.cls_mapFields _ _).trans hc) KX TT ex hv hn' hexc hnt hsub (fun h' oT' H' => k h' H'.fr fun q hq => H'.nw q (.tail _ (.tail _ hq))) hk hxk hdb hE
theorem caught_in (hfr : A₀.frames = some [env]) (henv : env.frame = some L) (hkind : env.scope.kind ≠ .module) (hdL : ∃ es ep, oL.data = .dict es ep) (hnL : ∀ p ∈ news, p.1 ≠ L)
    (hx : Heap.NewExcOf h s'.heap e X) (F : Fr h₀ L' h m) (N : News h₀ L' h ((L, oL) :: news)) (KX : KF.In h₀) (TT : TopRead p loose mg mb h₀)
    (ex : nsIn KF mainGlobals x = some none) (hv : bootBuiltins x = some (.type T')) (hn' : x ≠ "__name__")
    (hexc : isSubtype (.type T') (.type "BaseException") = pure true) (hnt : isSubtype (.type ((Manifest.find? T').elim "type" fun y => y.metatype)) (.type "tuple") = pure false) (hsub : isSubtype (.type X) (.type T') = pure true)
    (k : ∀ h' sl, Fr h₀ L' h' m → News h₀ L' h' ((L, { oL with slots := sl }) :: news) → wpAny (model prog w) ((A₀.deeper (envOf name scope L' a cd)).mark (some (.ref e))) (execs (b₀ :: suite) (envOf name scope L' a cd)) Q E { s' with heap := h' })
    (hk : scope.kind = .function) (hxk : (envOf name scope L' a cd).kindOf x = some .globalImplicit) (hdb : (x == ("__debug__" : Str)) = false)
    (hE : PassesOwnAt (model prog w) ((A₀.deeper (envOf name scope L' a cd)).mark (some (.ref e))) (A₀.deeper (envOf name scope L' a cd)) (envOf name scope L' a cd) E) :
    wpAny (model prog w) (A₀.deeper (envOf name scope L' a cd)) (noteFrame (.ref e) (envOf name scope L' a cd))
      (fun _ s₂ => wpAny (model prog w) (A₀.deeper (envOf name scope L' a cd)) (setFlight (.ref e) none) (fun _ s₃ =>
        wpAny (model prog w) (A₀.deeper (envOf name scope L' a cd)) (handleBy (.ref e) (envOf name scope L' a cd) (.ExceptHandler (some (.Name x np)) none (b₀ :: suite) pos :: rest)) Q E s₃) E s₂) E s' := by
  obtain ⟨oe, vs, hc, hd, h1, N'⟩ := new_led hx F N
  refine note_in hfr henv hkind hdL (fr_up F hx.keeps) N' (fun p hp => new_off hx N p (.tail _ hp)) hnL hd h1 hk fun h₁ sl T oT H => ?_
  exact held_suite (s' := { s' with heap := h₁ }) rfl H ((Obj.cls_mapFields _ _).trans hc) KX TT ex hv hn' hexc hnt hsub (fun h' oT' H' => k h' sl H'.fr fun q hq => H'.nw q (.tail _ (.tail _ hq))) hk hxk hdb hE
end
end Mine

end

/-! XA -/
section
open PySem PySem.W PySem.Calls PyProof.Rows
namespace Mine
/-! the errors' objects in the ledger; their attributes -/
def errNames : List Str := [Str.ofString "smtp_code", Str.ofString "smtp_error", Str.ofString "sender", Str.ofString "recipients"]
def errCls (K : Frag) (C : Addr) : Bool :=
  findIn K (.ref C) "__getattribute__" == some (some (.builtin "BaseException.__getattribute__")) && findIn K (.ref C) "__getattr__" == some none && findIn K (.ref C) "args" == some (some (.builtin "BaseException.args")) &&
  mroIn K C (.type "BaseException") == some true && (match clsIn K C with | some cd => cd.hasDict | none => false) && errNames.all (fun n => findIn K (.ref C) n == some none) && shortName K C
structure ErrCls (K : Frag) (C : Addr) : Prop extends ExcCls K C where
  cls : ∃ cd, clsIn K C = some cd ∧ cd.hasDict = true
  no : ∀ n ∈ errNames, findIn K (.ref C) n = some none
  short : shortName K C = true
theorem errCls_of {K : Frag} {C : Addr} (h : errCls K C = true) : ErrCls K C := by
  simp only [errCls, Bool.and_eq_true, beq_iff_eq, List.all_eq_true] at h
  obtain ⟨⟨⟨⟨⟨⟨h1, h2⟩, h3⟩, h4⟩, h5⟩, h6⟩, h7⟩ := h
  refine ⟨⟨h1, h2, h3, h4⟩, ?_, h6, h7⟩
  split at h5
  · rename_i cd hcd; exact ⟨cd, hcd, h5⟩
  · cases h5
structure ErrObj (C d t : Addr) (oe : Obj) : Prop where
  cls : oe.cls = .ref C
  dict : oe.dict = some d
  data : ∃ vs, oe.data = .fields vs ∧ vs[0]? = some (.ref t)
section
variable {K : Frag} {h : Heap} {C e d t : Addr} {oe od : Obj} {name : Str} {v : Value}
theorem inst_of (ho : ErrObj C d t oe) (he : h.get? e = some oe) (hd : h.get? d = some od) : InstAt h e oe C (some od) := by
  obtain ⟨vs, h1, h2⟩ := ho.data
  refine ⟨he, ho.cls, ?_, ?_⟩
  · unfold notCls; rw [h1]
  · rw [ho.dict]; exact hd
theorem spec_get (K : Frag) : specialIn K (.builtin "BaseException.args") "__get__" = some (some (.builtin "getset_descriptor.__get__")) := by
  have e : typeIn K (.builtin "BaseException.args") = some (.type "getset_descriptor") := by
    show pureOf (fastBuiltinType "BaseException.args") = _
    kernel_rfl
  unfold specialIn
  rw [e]
  show fastLookup "getset_descriptor" "__get__" = _
  kernel_rfl
theorem spec_set (K : Frag) : specialIn K (.builtin "BaseException.args") "__set__" = some (some (.builtin "getset_descriptor.__set__")) := by
  have e : typeIn K (.builtin "BaseException.args") = some (.type "getset_descriptor") := by
    show pureOf (fastBuiltinType "BaseException.args") = _
    kernel_rfl
  unfold specialIn
  rw [e]
  show fastLookup "getset_descriptor" "__set__" = _
  kernel_rfl
theorem find_args (hC : ErrCls K C) (od : Option Obj) : findObj K C od "args" = some (.bind (.builtin "getset_descriptor.__get__") (.builtin "BaseException.args")) := by
  obtain ⟨cd, hcd, _⟩ := hC.cls
  have e : takesIn K (.builtin "BaseException.args") = some true := by unfold takesIn; rw [spec_set]
  unfold findObj
  simp only [hcd, hC.args, spec_get, e, Option.bind_some]
theorem find_own (hC : ErrCls K C) (hn : name ∈ errNames) (hl : lookIn name od = some (some v)) : findObj K C (some od) name = some (.value v) := by
  obtain ⟨cd, hcd, hh⟩ := hC.cls
  unfold findObj W.ownOf
  simp only [hcd, hC.no name hn, hh, hl, Option.bind_some, if_true]
theorem names_plain (hn : name ∈ errNames) : copiedNames.contains name = false := by
  have h : ∀ n ∈ errNames, copiedNames.contains n = false := by decide +kernel
  exact h name hn
theorem names_short (hn : name ∈ errNames) : name.length + 100 ≤ sizeLine := by
  have h : ∀ n ∈ errNames, n.length + 100 ≤ sizeLine := by decide +kernel
  exact h name hn
theorem find_miss (hC : ErrCls K C) (hn : name ∈ errNames) (hl : lookIn name od = some none) : findObj K C (some od) name = some .missing := by
  obtain ⟨cd, hcd, hh⟩ := hC.cls
  unfold findObj W.ownOf
  simp only [hcd, hC.no name hn, hh, hl, Option.bind_some, if_true, names_plain hn, Bool.false_and]
  rfl
end
section
variable {prog : Program} {w : World} {A : Around} {E : Value → Shared → Prop} {s : Shared} {K : Frag} {h₀ : Heap} {L C e d t : Addr} {m : Str → Option Value} {oe od : Obj} {name : Str} {expr : Bool} {v : Value} {Q : Value → Shared → Prop} {news : List (Addr × Obj)}
theorem get_args (F : Fr h₀ L s.heap m) (N : News h₀ L s.heap news) (X : K.In h₀) (hC : ErrCls K C) (ho : ErrObj C d t oe) (m1 : (e, oe) ∈ news) (m2 : (d, od) ∈ news) (h : Q (.ref t) { s with toks := s.toks + 1 }) :
    wpAny (model prog w) A (getAttr (.ref e) "args" expr) Q E s := by
  obtain ⟨vs, h1, h2⟩ := ho.data
  exact exc_args (X.keeps F.keep) hC.toExcCls (inst_of ho (N _ m1).1 (N _ m2).1) (find_args hC _) h1 h2 h
theorem get_own (F : Fr h₀ L s.heap m) (N : News h₀ L s.heap news) (X : K.In h₀) (hC : ErrCls K C) (ho : ErrObj C d t oe) (m1 : (e, oe) ∈ news) (m2 : (d, od) ∈ news) (hn : name ∈ errNames) (hl : lookIn name od = some (some v)) (hv : handedIn v = true)
    (h : Q v { s with toks := s.toks + 1 }) : wpAny (model prog w) A (getAttr (.ref e) name expr) Q E s :=
  exc_value (X.keeps F.keep) hC.toExcCls (inst_of ho (N _ m1).1 (N _ m2).1) (find_own hC hn hl) hv h
theorem get_miss (F : Fr h₀ L s.heap m) (N : News h₀ L s.heap news) (X : K.In h₀) (hC : ErrCls K C) (ho : ErrObj C d t oe) (m1 : (e, oe) ∈ news) (m2 : (d, od) ∈ news) (hn : name ∈ errNames) (hl : lookIn name od = some none) (hA : A.handled = none)
    (h : ∀ h' tk e', Heap.NewExcOf s.heap h' e' "AttributeError" → E (.ref e') { s with heap := h', toks := tk }) : wpAny (model prog w) A (getAttr (.ref e) name true) Q E s :=
  exc_miss (X.keeps F.keep) hC.toExcCls hC.short (inst_of ho (N _ m1).1 (N _ m2).1) (find_miss hC hn hl) hA (names_short hn) h
end
theorem isExc_AttributeError : isSubtype (.type "AttributeError") (.type "BaseException") = pure true := by rw [isSubtype_type]; kernel_rfl
theorem notTuple_AttributeError : isSubtype (.type ((Manifest.find? "AttributeError").elim "type" fun y => y.metatype)) (.type "tuple") = pure false := by
  have e : ((Manifest.find? "AttributeError").elim "type" fun y => y.metatype) = "type" := by decide +kernel
  rw [e, isSubtype_type]; kernel_rfl
theorem boot_AttributeError : bootBuiltins "AttributeError" = some (.type "AttributeError") := by decide +kernel
section
variable {prog : Program} {w : World} {A₀ : Around} {E : Value → Shared → Prop} {s' : Shared} {h₀ h : Heap} {L L' a e D : Addr} {m m' : Str → Option Value} {name : Str} {scope : Scope} {cd : Value}
  {b₀ : Stmt} {suite : List Stmt} {pos np : Pos} {rest : List ExceptHandler} {Q : Flow → Shared → Prop} {news : List (Addr × Obj)} {KF : Frag} {oL oD : Obj} {env : Env}
  {p : Program} {loose : List Str} {mean : ExcName → Option Value} {mg mb : Str → Option Value} {x : Str}
theorem news_swap {p q : Addr × Obj} {r : List (Addr × Obj)} (N : News h₀ L h (p :: q :: r)) : News h₀ L h (q :: p :: r) := fun z hz => N z (by
  rcases List.mem_cons.mp hz with rfl | hz
  · exact .tail _ (.head _)
  rcases List.mem_cons.mp hz with rfl | hz
  · exact .head _
  · exact .tail _ (.tail _ hz))
theorem caught_attr (hfr : A₀.frames = some [env]) (henv : env.frame = some L) (hkind : env.scope.kind = .function) (C : TI.Caller h₀ L m' oL) (hlt : L < D) (hnL : ∀ p ∈ news, p.1 ≠ L)
    (hx : Heap.NewExcOf h s'.heap e "AttributeError") (F : Fr h₀ L' h m) {sl₀ : Array (Option Value)} (N : News h₀ L' h ((D, oD) :: (L, { oL with slots := sl₀ }) :: news)) (KX : KF.In h₀) (TT : Top p loose mean mg mb h₀)
    (ex : nsIn KF mainGlobals (Str.ofString "AttributeError") = some none)
    (k : ∀ h' sl, Fr h₀ L' h' m → News h₀ L' h' ((D, oD) :: (L, { oL with slots := sl }) :: news) → wpAny (model prog w) ((A₀.deeper (envOf name scope L' a cd)).mark (some (.ref e))) (execs (b₀ :: suite) (envOf name scope L' a cd)) Q E { s' with heap := h' })
    (hk : scope.kind = .function) (hxk : (envOf name scope L' a cd).kindOf (Str.ofString "AttributeError") = some .globalImplicit)
    (hE : PassesOwnAt (model prog w) ((A₀.deeper (envOf name scope L' a cd)).mark (some (.ref e))) (A₀.deeper (envOf name scope L' a cd)) (envOf name scope L' a cd) E) :
    wpAny (model prog w) (A₀.deeper (envOf name scope L' a cd)) (noteFrame (.ref e) (envOf name scope L' a cd))
      (fun _ s₂ => wpAny (model prog w) (A₀.deeper (envOf name scope L' a cd)) (setFlight (.ref e) none) (fun _ s₃ =>
        wpAny (model prog w) (A₀.deeper (envOf name scope L' a cd)) (handleBy (.ref e) (envOf name scope L' a cd) (.ExceptHandler (some (.Name (Str.ofString "AttributeError") np)) none (b₀ :: suite) pos :: rest)) Q E s₃) E s₂) E s' := by
  refine caught_in (oL := { oL with slots := sl₀ }) hfr henv (by rw [hkind]; decide) C.dict (news := (D, oD) :: news) ?_ hx F (news_swap N) KX (topRead_of TT) ex boot_AttributeError (by decide) isExc_AttributeError notTuple_AttributeError sub_AttributeError (fun h' sl F' N' => k h' sl F' (news_swap N')) hk hxk (by decide) hE
  intro p hp
  rcases List.mem_cons.mp hp with rfl | hp
  · exact Nat.ne_of_gt hlt
  · exact hnL p hp
theorem leave_in (C : TI.Caller h₀ L m' oL) (F : Fr h₀ L' h m) {sl : Array (Option Value)} (N : News h₀ L' h ((D, oD) :: (L, { oL with slots := sl }) :: news)) (hlt : L < D) (hnL : ∀ p ∈ news, p.1 ≠ L) :
    Fr h₀ L h m' ∧ News h₀ L h ((D, oD) :: news) := by
  have hL := (N _ (.tail _ (.head _))).1
  refine ⟨⟨C.ns _ sl hL, F.keep, C.above⟩, fun p hp => ?_⟩
  rcases List.mem_cons.mp hp with rfl | hp
  · exact ⟨(N _ (.head _)).1, Nat.ne_of_gt hlt, (N _ (.head _)).2.2⟩
  · have z := N p (.tail _ (.tail _ hp))
    exact ⟨z.1, hnL p hp, z.2.2⟩
end
theorem en1 : Str.ofString "smtp_code" ∈ errNames := .head _
theorem en2 : Str.ofString "smtp_error" ∈ errNames := .tail _ (.head _)
theorem en3 : Str.ofString "sender" ∈ errNames := .tail _ (.tail _ (.head _))
theorem en4 : Str.ofString "recipients" ∈ errNames := .tail _ (.tail _ (.tail _ (.head _)))
end Mine

end

/-! XM -/
section
open PySem PySem.W PySem.Calls PyProof.Rows PySem.W.X
namespace Mine
/-! making an error: what x_run is asked for, and how it is used -/
def tupObj (vs : List Value) : Obj := { cls := .type "tuple", data := .seq vs.toArray }
def TbNone (oe : Obj) : Prop := ∃ vs, oe.data = .fields vs ∧ vs[1]? = some .none
def Attrs (od : Obj) (a1 a2 a3 a4 : Option Value) : Prop :=
  lookIn (Str.ofString "smtp_code") od = some a1 ∧ lookIn (Str.ofString "smtp_error") od = some a2 ∧ lookIn (Str.ofString "sender") od = some a3 ∧ lookIn (Str.ofString "recipients") od = some a4
end Mine

end

/-! XR -/
section
open PySem PySem.W PySem.Calls PyProof.Rows
namespace Mine
/-! own errors raised, passed by, caught -/
section
variable {M : Model} {A : Around} {E : Value → Shared → Prop} {s : Shared} {env : Env} {K : Frag}
end
section
variable {prog : Program} {w : World} {A₀ : Around} {E : Value → Shared → Prop} {s' : Shared} {h₀ : Heap} {L L' a e C : Addr} {m : Str → Option Value} {name : Str} {scope : Scope} {cd : Value} {oe oT oL : Obj} {T : Addr} {n : Str}
  {b₀ : Stmt} {suite body : List Stmt} {pos np : Pos} {rest : List ExceptHandler} {Q : Flow → Shared → Prop} {news : List (Addr × Obj)} {KF : Frag} {tt : Expr} {nm : Option Str}
  {p : Program} {loose : List Str} {mean : ExcName → Option Value} {mg mb : Str → Option Value}
end
/-! an error that is raised once more: its traceback grows -/
section
variable {M : Model} {A : Around} {E : Value → Shared → Prop} {s : Shared}
end
end Mine

end

/-! XK -/
section
open PySem PySem.W PySem.Calls PyProof.Rows PySem.W.X
namespace Mine
/-! what x_run gives, as a rule over frame and ledger -/
structure Apart3 (e d t : Addr) (news : List (Addr × Obj)) : Prop where
  td : t ≠ d
  te : t ≠ e
  de : d ≠ e
  e : ∀ p ∈ news, p.1 ≠ e
  d : ∀ p ∈ news, p.1 ≠ d
  t : ∀ p ∈ news, p.1 ≠ t
section
variable {prog : Program} {w : World} {A : Around} {E : Value → Shared → Prop} {s : Shared} {h₀ : Heap} {L C : Addr} {m : Str → Option Value} {news : List (Addr × Obj)} {vs : List Value} {a1 a2 a3 a4 : Option Value} {Q : Value → Shared → Prop}
end
end Mine

end

/-! XN -/
section
open PySem PySem.W PySem.Calls PyProof.Rows
namespace Mine
section
variable {prog : Program} {w : World} {A₀ : Around} {E : Value → Shared → Prop} {s' : Shared} {h₀ h : Heap} {L L' a e d t C u : Addr} {m m' : Str → Option Value} {name : Str} {scope : Scope} {cd : Value} {oe od ot oL ou : Obj} {env : Env}
  {hs : List ExceptHandler} {Q : Flow → Shared → Prop} {news : List (Addr × Obj)} {KF : Frag}
theorem leave_any {led out : List (Addr × Obj)} (Cl : TI.Caller h₀ L m' oL) (F : Fr h₀ L' h m) (N : News h₀ L' h led) {sl : Array (Option Value)} (hL : (L, { oL with slots := sl }) ∈ led) (ho : ∀ p ∈ out, p ∈ led ∧ p.1 ≠ L) :
    Fr h₀ L h m' ∧ News h₀ L h out :=
  ⟨⟨Cl.ns _ sl (N _ hL).1, F.keep, Cl.above⟩, fun p hp => ⟨(N p (ho p hp).1).1, (ho p hp).2, (N p (ho p hp).1).2.2⟩⟩
end
section
variable {h₀ h h1 : Heap} {L L' e d t T u : Addr} {m m' m1 : Str → Option Value} {oe od ot oT oL oL0 ou : Obj} {sl : Array (Option Value)} {news : List (Addr × Obj)}
theorem allLt_off {u : Addr} : ∀ {l : List (Addr × Obj)}, AllLt u l → ∀ p ∈ l, p.1 < u
  | [], _, _, hp => (nomatch hp)
  | q :: r, h, p, hp => by
    rcases List.mem_cons.mp hp with rfl | hp
    · exact h.1
    · exact allLt_off h.2 p hp
end
section
variable {prog : Program} {w : World} {A A₀ : Around} {E : Value → Shared → Prop} {s' : Shared} {h₀ h : Heap} {L L' a e d t C u T : Addr} {m m' : Str → Option Value} {name : Str} {scope : Scope} {cd : Value} {oe od ot oL oT ou : Obj} {env : Env}
  {hs : List ExceptHandler} {news : List (Addr × Obj)} {KF : Frag}
end
section
variable {dp un : Nat} {gd : Option (List Code)} {cn : Str} {cs : Scope} {L a : Addr} {ccd : Value} {cl : List (Str × Addr)} {outer : List Env} {env : Env}
end
end Mine

end

/-! XL -/
section
open PySem PySem.W PySem.Calls PyProof.Rows
namespace Mine
/-! for a, b in enumerate(list): a ledger that may grow from turn to turn -/
section
variable {prog : Program} {w : World} {A : Around} {E : Value → Shared → Prop} {s : Shared} {env : Env} {h₀ : Heap} {body : List Stmt} {Q : Flow → Shared → Prop}
def ForAt (prog : Program) (w : World) (A : Around) (env : Env) (tgt : Expr) (body : List Stmt) (Q : Flow → Shared → Prop) (E : Value → Shared → Prop) (it : Value) (s₂ : Shared) : Prop :=
  codeAny (model prog w) A (.forLoop tgt it body [] env) (fun r s' => match r with | .ok f => Q f s' | .error e => cameBackBy (model prog w) A env E e s') s₂
theorem For_at {tgt iter : Expr} {pos : Pos} (h : wpAny (model prog w) A (eval iter env) (fun xv s₁ => wpAny (model prog w) A (pyIter xv) (fun it s₂ => ForAt prog w A env tgt body Q E it s₂) E s₁) E s)
    (hs : ∀ x, foldedSetIterable iter env x = pure x) : wpAny (model prog w) A (exec (.For tgt iter body [] pos) env) Q E s := wpAny_For h hs
def EndT (h₀ : Heap) (L : Addr) (J : (Str → Option Value) → List (Addr × Obj) → Prop) (own : List (Addr × Obj)) (s₁ s₂ : Shared) : Prop :=
  ∃ h' tk m' nx, s₂ = { s₁ with heap := h', toks := tk } ∧ Fr h₀ L h' m' ∧ News h₀ L h' nx ∧ News h₀ L h' own ∧ (∀ p ∈ nx, ∀ q ∈ own, p.1 ≠ q.1) ∧ J m' nx
def PostT (h₀ : Heap) (L : Addr) (J : (Str → Option Value) → List (Addr × Obj) → Prop) (own : List (Addr × Obj)) (s₁ : Shared) (Q : Flow → Shared → Prop) (f : Flow) (s₂ : Shared) : Prop :=
  match f with
  | .ret v => Q (.ret v) s₂
  | .brk => Q .next s₂
  | _ => EndT h₀ L J own s₁ s₂
/-- for a, b, .. in list of tuples: the unpacking is left to the turn -/
theorem iter_tuples {elts : List Expr} {pt : Pos} {x1 : Nat} {l : Addr} {vs : List Value} {nn : Nat} {m₀ : Str → Option Value} {news : List (Addr × Obj)} (J : Nat → (Str → Option Value) → List (Addr × Obj) → Prop)
    (hh : A.handled = none) (hl : (l, PySem.W.listOf vs.toArray nn) ∈ news) (F : Fr h₀ env.locals s.heap m₀) (N : News h₀ env.locals s.heap news) (hj : J 0 m₀ news)
    (hJl : ∀ i m nx, J i m nx → (l, PySem.W.listOf vs.toArray nn) ∈ nx) (hr : ∀ v ∈ vs, ∃ u, v = .ref u) (hE : PassesOwn (model prog w) A env E)
    (turn : ∀ i v m₁ news₁ h tk I oI, vs[i]? = some v → J i m₁ news₁ → (∀ p ∈ news₁, ∀ q ∈ [(I, oI)], p.1 ≠ q.1) → Fr h₀ env.locals h m₁ → News h₀ env.locals h (news₁ ++ [(I, oI)]) →
      wpAny (model prog w) A (assign (.Tuple elts x1 pt) env v) (fun _ s₂ => wpAny (model prog w) A (execs body env) (PostT h₀ env.locals (J (i + 1)) [(I, oI)] { s with heap := h, toks := tk } Q) E s₂) E { s with heap := h, toks := tk })
    (done : ∀ m₁ news₁ h tk, J vs.length m₁ news₁ → Fr h₀ env.locals h m₁ → News h₀ env.locals h news₁ → Q .next { s with heap := h, toks := tk }) :
    wpAny (model prog w) A (pyIter (.ref l)) (fun it s₂ => ForAt prog w A env (.Tuple elts x1 pt) body Q E it s₂) E s := by
  have hol : s.heap.get? l = some (PySem.W.listOf vs.toArray nn) := (N _ hl).1
  have hls : s.heap.IsList l vs.toArray := ⟨_, hol, rfl, nn, rfl⟩
  have hLs : env.locals < s.heap.objs.size := F.ns.lt
  have hab : h₀.objs.size ≤ env.locals := F.above
  refine wpAny_pyIter_list hls ?_
  have n2 : h₀.get? s.heap.objs.size = none := Heap.get?_none_of_le (Nat.le_trans hab (Nat.le_of_lt hLs))
  have hiL : s.heap.objs.size ≠ env.locals := Nat.ne_of_gt hLs
  have off0 : ∀ p ∈ news, p.1 ≠ s.heap.objs.size := fun p hp => Nat.ne_of_lt (Heap.lt_size (N p hp).1)
  show codeAny _ _ _ _ _
  refine codeAny_forLoop_any
    (fun k s' => ∃ h' tk m' nx i, s' = { s with heap := h', toks := tk } ∧ h'.IsListIter s.heap.objs.size l i ∧ Fr h₀ env.locals h' m' ∧ News h₀ env.locals h' nx ∧ (∀ p ∈ nx, p.1 ≠ s.heap.objs.size) ∧ J i m' nx ∧ i ≤ vs.length ∧ k = vs.length + 1 - i) ?_ (vs.length + 1)
    ⟨_, s.toks, m₀, news, 0, rfl, ⟨_, Heap.get?_push_size _ rfl, rfl, rfl⟩, F.push _, (fun p hp => ⟨Heap.get?_push_of_some _ (N p hp).1, (N p hp).2⟩), off0, hj, Nat.zero_le _, rfl⟩
  revert n2 hiL off0
  generalize s.heap.objs.size = it
  intro n2 hiL off0
  rintro k s' ⟨H, tk, m', nx, i, rfl, hit', F₁, N₁, off, hJ, hi, rfl⟩
  have hlm := hJl _ _ _ hJ
  have hlo : H.get? l = some (PySem.W.listOf vs.toArray nn) := (N₁ _ hlm).1
  have hl' : H.IsList l vs.toArray := ⟨_, hlo, rfl, nn, rfl⟩
  have hL0 : ∀ b o, h₀.get? b = some o → b ≠ it := fun b o q z => by rw [z, n2] at q; cases q
  cases hv : vs[i]? with
  | none =>
    have hsz : i = vs.length := Nat.le_antisymm hi (List.getElem?_eq_none_iff.mp hv)
    refine wpAny_pyNext_list_end hh hit' hl' (by simpa using hv) fun h₁ he₁ => wpAny_execs_nil ?_
    exact done m' nx h₁ tk (hsz ▸ hJ) ⟨F₁.ns.extBut he₁ (Ne.symm hiL), fun b o q => he₁ b o (hL0 b o q) (F₁.keep b o q), F₁.above⟩ (fun p hp => ⟨he₁ _ _ (off p hp) (N₁ p hp).1, (N₁ p hp).2⟩)
  | some v =>
    have hlt : i < vs.length := (List.getElem?_eq_some_iff.mp hv).1
    obtain ⟨u, rfl⟩ := hr v (List.mem_of_getElem? hv)
    refine wpAny_pyNext_list_item hit' hl' (by simpa using hv) fun h₁ hit₁ hs₁ => ?_
    refine wpAny_letOwnedTupleGo_listiter hit₁ ?_
    replace hs₁ : Heap.SameBut it H h₁ := hs₁
    obtain ⟨oit, ho1, ho2, ho3⟩ := hit₁
    have F₃ : Fr h₀ env.locals h₁ m' := by
      obtain ⟨o, es, ep, ho, r⟩ := F₁.ns
      exact ⟨⟨o, es, ep, (hs₁.2 _ (Ne.symm hiL)).trans ho, r⟩, fun b o q => (hs₁.2 _ (hL0 b o q)).trans (F₁.keep b o q), F₁.above⟩
    have N₃ : News h₀ env.locals h₁ nx := fun p hp => ⟨(hs₁.2 _ (off p hp)).trans (N₁ p hp).1, (N₁ p hp).2⟩
    have O₃ : News h₀ env.locals h₁ [(it, oit)] := fun p hp => by
      rw [List.mem_singleton.mp hp]; exact ⟨ho1, hiL, n2⟩
    have fin : ∀ tk5 s₃, EndT h₀ env.locals (J (i + 1)) [(it, oit)] { s with heap := h₁, toks := tk5 } s₃ → ∃ k, k < vs.length + 1 - i ∧ ∃ h' tk m' nx i, s₃ = { s with heap := h', toks := tk } ∧ h'.IsListIter it l i ∧ Fr h₀ env.locals h' m' ∧ News h₀ env.locals h' nx ∧ (∀ p ∈ nx, p.1 ≠ it) ∧ J i m' nx ∧ i ≤ vs.length ∧ k = vs.length + 1 - i := by
      rintro tk5 s₃ ⟨h₇, tk₆, m₂, nx₂, rfl, F₆, N₆, O₆, off₆, hJ₆⟩
      exact ⟨vs.length + 1 - (i + 1), by omega, h₇, tk₆, m₂, nx₂, i + 1, rfl, ⟨oit, (O₆ _ (.head _)).1, ho2, ho3⟩, F₆, N₆, fun p hp => off₆ p hp _ (.head _), hJ₆, hlt, rfl⟩
    refine wpAny_passesOwn hE ?_
    refine wpAny_mono (turn i (.ref u) m' nx h₁ tk it oit hv hJ ?_ F₃ (fun p hp => ?_)) (fun _ s₂ h₅ => wpAny_passesOwn hE (wpAny_mono h₅ (fun f s₃ h₆ => ?_) fun _ _ x => x)) fun _ _ x => x
    · intro p hp q hq
      rw [List.mem_singleton.mp hq]; exact off p hp
    · exact (List.mem_append.mp hp).elim (N₃ p) (O₃ p)
    · cases f with
      | ret v => exact h₆
      | brk => exact h₆
      | next => exact fin _ _ h₆
      | cont => exact fin _ _ h₆
end
end Mine

end

/-! XQ -/
section
open PySem PySem.W PySem.Calls PyProof.Rows
namespace Mine
/-! a table picked from; what _law_read gave compared with what is due -/
section
variable {prog : Program} {w : World} {A : Around} {E : Value → Shared → Prop} {s : Shared} {h₀ : Heap} {L : Addr} {news : List (Addr × Obj)}
variable {D D' t t' : Addr} {oD oD' : Obj} {Q : Value → Shared → Prop}
theorem fr_ext {h : Heap} {f g : Str → Option Value} (F : Fr h₀ L h f) (e : ∀ y, f y = g y) : Fr h₀ L h g := by
  have : f = g := funext e
  exact this ▸ F
end
end Mine

end

/-! XD -/
section
open PySem PySem.W PySem.Calls PyProof.Rows PyProof.V PySem.Spec
namespace Mine
/-! == of dicts that hold dicts, for one program and world -/
def EqW (prog : Program) (w : World) (s : Shared) (k : Nat) (y x : Value) : Prop :=
  ∀ (A : Around) (E : Value → Shared → Prop) (Q : Bool → Shared → Prop), A.units + k < cLine → Q true s → wpAny (model prog w) A (eqBool y x) Q E s
section
variable {prog : Program} {w : World} {A : Around} {E : Value → Shared → Prop} {s : Shared} {K : Type} [DecidableEq K] {knd : KeyKind prog w K}
theorem EqW.of_at {k : Nat} {y x : Value} (h : ∀ A : Around, A.units + k < cLine → SeqAt.EqAt A s y x true) : EqW prog w s k y x := fun A E Q hu q => h A hu prog w E Q q
/-- all pairs of a dict are met in another one of the same size -/
theorem pairs_same {nm : String} {a b : Addr} {ka kb : List (K × Value)} {k : Nat} {Q : Bool → Shared → Prop} (ha : (a == sysModules) = false) (hb : (b == sysModules) = false) (da : s.heap.DictOf knd a ka) (db : s.heap.DictOf knd b kb)
    (hl : ka.length = kb.length) (hu : A.units + k < cLine) (hits : ∀ (i : Nat) c v, ka[i]? = some (c, v) → ∃ y, valueAt kb c = some y ∧ EqW prog w s k v y) (h : Q true s) :
    wpAny (model prog w) A (Builtin.Dict.samePairs nm a b) Q E s := by
  obtain ⟨oa, es, ep, hoa, _, hda, hka, hpa, _⟩ := da
  obtain ⟨ob, es', ep', hob, _, hdb, hkb, hpb, _⟩ := db
  have hla : ka.length = es.size := by rw [← hpa.length]; exact Array.length_toList
  have hlb : kb.length = es'.size := by rw [← hpb.length]; exact Array.length_toList
  have hsz : es.size = es'.size := by omega
  have look : ∀ c y, valueAt kb c = some y → ∃ (j : Nat) (hj : j < es'.size), (es'.findIdx? fun e => knd.is c e.key) = some j ∧ es'[j].val = y := by
    intro c y hy
    have e : findBy knd.is es' c = valueAt kb c := by
      rw [← hpb.find c]
      obtain ⟨l⟩ := es'
      simp [findBy]
    rw [← e, findBy_of_findIdx?] at hy
    cases hj : es'.findIdx? fun e => knd.is c e.key with
    | none => rw [hj] at hy; cases hy
    | some j =>
      obtain ⟨hlt, _, _⟩ := Array.findIdx?_eq_some_iff_getElem.mp hj
      rw [hj] at hy
      refine ⟨j, hlt, rfl, ?_⟩
      simpa [Array.getElem?_eq_getElem hlt] using hy
  unfold Builtin.Dict.samePairs Builtin.Dict.showsAll
  rw [ha, hb]
  refine wpAny_bind (wpAny_pure (wpAny_bind (wpAny_pure ?_)))
  refine wpAny_bind (wpAny_dictEntries hoa hda ?_)
  refine wpAny_bind (wpAny_dictEntries hob hdb ?_)
  dsimp only
  rw [if_neg (by rw [hsz]; simp)]
  refine wpAny_bind (wpAny_dictEpoch hoa hda ?_)
  refine wpAny_bind ?_
  rw [Std.Legacy.Range.forIn_eq_forIn_range']
  simp only [Std.Legacy.Range.size, Nat.sub_zero, Nat.add_sub_cancel, Nat.div_one]
  refine wpAny_forIn_list _ (fun rest q s' => s' = s ∧ q = (none, ()) ∧ ∀ x ∈ rest, x < es.size) _ ?_ ?_ _ _ ⟨rfl, rfl, fun x hx => by simpa using hx⟩
  · rintro x rest q s' ⟨rfl, rfl, hr⟩
    have hlt : x < es.size := hr x (.head _)
    have hlt' : x < ka.length := by omega
    refine wpAny_bind (wpAny_dictEntries hoa hda ?_)
    rw [Array.getElem?_eq_getElem hlt]
    obtain ⟨c, v, hcv⟩ : ∃ c v, ka[x] = (c, v) := ⟨_, _, rfl⟩
    have hcv' : ka[x]? = some (c, v) := by rw [List.getElem?_eq_getElem hlt', hcv]
    obtain ⟨hkey, hval⟩ := hpa.get? (i := x) (e := es[x]) (k := c) (v := v) (by rw [Array.getElem?_toList]; exact Array.getElem?_eq_getElem hlt) hcv'
    obtain ⟨c', hc', hh⟩ := hka es[x] (Array.getElem_mem hlt)
    obtain rfl : c' = c := knd.inj _ _ _ hc' hkey
    obtain ⟨y, hy, heq⟩ := hits x c' v hcv'
    obtain ⟨j, hj, hf, hv⟩ := look c' y hy
    show wpAny _ _ (holding [es[x].key, es[x].val] _ >>= _) _ _ _
    rw [hh]
    refine wpAny_bind (wpAny_holding (wpAny_bind (wpAny_dictFind_of hkey hob hdb hkb ?_)))
    rw [hf]
    refine wpAny_bind (wpAny_dictEntries hob hdb ?_)
    rw [Array.getElem?_eq_getElem hj]
    refine wpAny_holding ?_
    rw [hval, hv]
    refine heq A _ _ hu ?_
    show wpAny _ _ (if (!true) = true then _ else _) _ _ _
    rw [if_neg (by decide)]
    refine wpAny_bind (wpAny_dictEpoch hoa hda ?_)
    rw [if_neg (by simp)]
    exact wpAny_pure ⟨rfl, rfl, fun z hz => hr z (.tail _ hz)⟩
  · rintro q s' ⟨rfl, rfl, _⟩
    exact wpAny_pure h
theorem dicts_eq {a b : Addr} {ka kb : List (K × Value)} {k : Nat} {Q : Value → Shared → Prop} (ha : (a == sysModules) = false) (hb : (b == sysModules) = false) (da : s.heap.DictOf knd a ka) (db : s.heap.DictOf knd b kb)
    (hl : ka.length = kb.length) (hu : A.units + 1 + k < cLine) (hits : ∀ (i : Nat) c v, ka[i]? = some (c, v) → ∃ y, valueAt kb c = some y ∧ EqW prog w s k v y) (h : Q (.bool true) s) :
    wpAny (model prog w) A (richCompare .Eq (.ref a) (.ref b)) Q E s := by
  refine wpAny_richCompare_same_room (op := .Eq) da.typeIs db.typeIs PySem.F.slot_dict_eq (wpAny_call_entry PySem.F.slot_dict_eq da.typeIs PySem.F.entry_dict_eq ?_ (PySem.F.args_dict_eq_2 _ _)) (by omega)
  show wpAny _ _ (Builtin.Dict.dictSlotArgs "__eq__" ⟨[.ref a, .ref b], []⟩ >>= _) _ _ s
  refine wpAny_bind ?_
  unfold Builtin.Dict.dictSlotArgs
  refine wpAny_bind (wpAny_notOrdered_dict da.typeIs ?_)
  show wpAny _ _ (pure (Value.ref a, Value.ref b)) _ _ s
  refine wpAny_pure ?_
  refine wpAny_bind (wpAny_isInstance (T := "dict") db.typeIs PySem.F.sub_dict_dict ?_)
  simp only [Bool.not_true, Bool.false_eq_true, if_false]
  refine wpAny_bind (wpAny_pure (wpAny_bind (wpAny_pure ?_)))
  refine wpAny_bind (pairs_same ha hb da db hl hu hits ?_)
  exact wpAny_pure ⟨_, rfl, (fun x => nomatch x), h⟩
theorem dicts_ne {a b : Addr} {ka kb : List (K × Value)} {k : Nat} {Q : Value → Shared → Prop} (ha : (a == sysModules) = false) (hb : (b == sysModules) = false) (da : s.heap.DictOf knd a ka) (db : s.heap.DictOf knd b kb)
    (hl : ka.length = kb.length) (hu : A.units + 1 + k < cLine) (hits : ∀ (i : Nat) c v, ka[i]? = some (c, v) → ∃ y, valueAt kb c = some y ∧ EqW prog w s k v y) (h : Q (.bool false) s) :
    wpAny (model prog w) A (compareOp .NotEq (.ref a) (.ref b)) Q E s := by
  refine wpAny_richCompare_same_room (op := .NotEq) da.typeIs db.typeIs PySem.F.slot_dict_ne (wpAny_call_entry PySem.F.slot_dict_ne da.typeIs PySem.F.entry_dict_ne ?_ (PySem.F.args_dict_ne_2 _ _)) (by omega)
  show wpAny _ _ (Builtin.Dict.dictSlotArgs "__ne__" ⟨[.ref a, .ref b], []⟩ >>= _) _ _ s
  refine wpAny_bind ?_
  unfold Builtin.Dict.dictSlotArgs
  refine wpAny_bind (wpAny_notOrdered_dict da.typeIs ?_)
  show wpAny _ _ (pure (Value.ref a, Value.ref b)) _ _ s
  refine wpAny_pure ?_
  refine wpAny_bind (wpAny_isInstance (T := "dict") db.typeIs PySem.F.sub_dict_dict ?_)
  simp only [Bool.not_true, Bool.false_eq_true, if_false]
  refine wpAny_bind (wpAny_pure (wpAny_bind (wpAny_pure ?_)))
  refine wpAny_bind (pairs_same ha hb da db hl hu hits ?_)
  exact wpAny_pure ⟨_, rfl, (fun x => nomatch x), h⟩
end
end Mine

end

/-! XT -/
section
open PySem PySem.W PySem.Calls PyProof.Rows PyProof.V PySem.Spec
namespace Mine
section
variable {prog : Program} {w : World} {s : Shared}
end
end Mine

end

/-! XF -/
section
open PySem PySem.W PySem.Calls PyProof.Rows PyProof.V PySem.Spec
namespace Mine
/-! 08: a call whose things are of a wrong count is refused; what that leaves at the statics -/
section
variable {M : Model} {A : Around} {E : Value → Shared → Prop} {s : Shared}
end
/-! the base turned at the statics -/
end Mine

end

/-! XO -/
section
open PySem PySem.W PySem.Calls PyProof.Rows PyProof.V PySem.Spec Builtin
namespace Mine
/-! 08: attributes stored into an error below OSError -/
def errTail : List Value := [.type "OSError", .type "Exception", .type "BaseException", .type "object"]
theorem refuse_err (self : Value) : ∀ rs : List Addr, refuseLoop self "__setattr__" (rs.map Value.ref ++ errTail) = pure ()
  | [] => by kernel_rfl
  | r :: rs => by rw [List.map_cons, List.cons_append, refuseLoop_ref]; exact refuse_err self rs
structure ErrSet (K : Frag) (C : Addr) : Prop where
  cls : ∃ cd, ∃ rs : List Addr, clsIn K C = some cd ∧ cd.hasDict = true ∧ cd.mro = rs.map Value.ref ++ errTail
  sa : findIn K (.ref C) "__setattr__" = some (some (.builtin "object.__setattr__"))
  obj : mroIn K C (.type "object") = some true
  bexc : mroIn K C (.type "BaseException") = some true
  no : ∀ n ∈ errNames, takerIn K C n = some none
  args : takerIn K C "args" = some (some (.builtin "BaseException.args"))
section
variable {prog : Program} {w : World} {A : Around} {K : Frag} {C x dx : Addr} {s : Shared} {R : Result → Shared → Prop} {ox : Obj} {od : Option Obj} {name : Str} {tk : Tok} {v : Value} {r : Option Value}
theorem osa_err (X : K.In s.heap) (I : InstAt s.heap x ox C od) (hC : ErrSet K C) (ht : takerIn K C name = some r)
    (h : ∀ b, wpAny (model prog w) A.in1 (match r with | some a => ObjectAttr.setByDescriptor a (.ref x) v | none => ObjectAttr.storeInOwnDict (.ref x) (.ref C) (.str name tk) name v b)
      (fun fin s' => match fin with | .done f => R (.ok f) s' | .again c' => c'.quiet = true ∧ codeAny (model prog w) A c' R s') (fun e s' => R (.error e) s') s) :
    codeAny (model prog w) A (.call (.builtin "object.__setattr__") ⟨[.ref x, .str name tk, v], []⟩) R s := by
  have SF := PySem.F.store_object
  obtain ⟨cd, rs, hc, _, ho⟩ := hC.cls
  have sub : Looks (model prog w) s.heap (isInstance (.ref x) (.type "object")) true := I.type.andThen (looks_mroIn X hC.obj)
  refine codeAny_call_builtin SF.slot.plain SF.entry (@check_slot (model prog w) _ _ s "object.__setattr__" "object" "__setattr__" (.ref x) [.str name tk, v] [] _ SF.kind SF.split sub (SF.args (.ref x) (.str name tk) v) ?_)
  obtain ⟨attr, ha, hr⟩ := Option.bind_eq_some_iff.mp ht
  have hm : Looks (model prog w) s.heap (mroOf (.ref C)) cd.mro := (looks_clsIn X hc).andThen .now
  have L3 : Looks (model prog w) s.heap (ObjectAttr.storeTaker? attr) r := by
    cases attr with
    | none => cases hr; exact .now
    | some a =>
      obtain ⟨b, hb, rfl⟩ := Option.map_eq_some_iff.mp hr
      refine (looks_takesIn X hb).andThen ?_
      cases b <;> exact .now
  rw [osa_eq, refuse_eq]
  refine wpAny_bind (wpAny_bind (I.type.here (wpAny_bind (hm.here ?_))))
  rw [ho, refuse_err]
  refine wpAny_pure (wpAny_bind (I.type.here (wpAny_bind ((looks_findIn X ha).here (wpAny_bind (L3.here ?_))))))
  exact h _
end
/-- an error's own names, as a table -/
def NsObj (od : Obj) (m : Str → Option Value) : Prop := ∃ es ep, od.data = .dict es ep ∧ StrKeys es ∧ UniqKeys es ∧ ∀ name, nsFind es name = m name
theorem ns1_iff {h : Heap} {d : Addr} {m : Str → Option Value} : h.Ns1 d m ↔ ∃ od, h.get? d = some od ∧ NsObj od m :=
  ⟨fun ⟨o, es, ep, ho, r⟩ => ⟨o, ho, es, ep, r⟩, fun ⟨o, ho, es, ep, r⟩ => ⟨o, es, ep, ho, r⟩⟩
theorem NsObj.look {od : Obj} {m : Str → Option Value} (x : NsObj od m) (name : Str) : lookIn name od = some (m name) := by
  obtain ⟨es, ep, hd, hk, _, hm⟩ := x
  unfold lookIn
  rw [hd]
  dsimp only
  have e := hm name
  unfold nsFind findBy at e
  rw [← Array.find?_toList] at e
  have hno : es.toList.any (·.refKey) = false := by
    rw [List.any_eq_false]
    intro y hy
    obtain ⟨n, t, hn⟩ := hk y (Array.mem_toList_iff.mp hy)
    simp [DictEntry.refKey, hn]
  cases hf : es.toList.find? (·.key.isStr name) with
  | some en => rw [hf] at e; simpa using e
  | none =>
    rw [hf] at e
    simp only [hno, Bool.false_eq_true, if_false]
    simpa using e
section
variable {prog : Program} {w : World} {A : Around} {E : Value → Shared → Prop} {K : Frag} {C e d L : Addr} {s : Shared} {h₀ : Heap} {m mA : Str → Option Value} {news : List (Addr × Obj)} {oe od : Obj} {vs : Array Value} {name : Str} {v : Value} {ns : List Str} {Q : Unit → Shared → Prop}
theorem set_next (F : Fr h₀ L s.heap m) (X₀ : K.In h₀) (N : News h₀ L s.heap ((d, od) :: (e, oe) :: news)) (hC : ErrSet K C) (hcl : oe.cls = .ref C) (hdat : oe.data = .fields vs) (hdi : oe.dict = some d) (hne : e ≠ d) (off : ∀ p ∈ news, p.1 ≠ d)
    (ho : NsObj od mA) (hw : Within mA ns) (hsz : ns.length ≤ 10) (hn : name ∈ errNames)
    (k : ∀ h' od' tk, NsObj od' (fun y => if y = name then some v else mA y) → Fr h₀ L h' m → News h₀ L h' ((d, od') :: (e, oe) :: news) → Q () { s with heap := h', toks := tk }) :
    wpAny (model prog w) A (setAttr (.ref e) name v) Q E s := by
  have X := X₀.keeps F.keep
  have hd := (N _ (.head _)).1
  have he := (N _ (.tail _ (.head _))).1
  have I : InstAt s.heap e oe C (some od) := ⟨he, hcl, (by unfold notCls; rw [hdat]), (by rw [hdi]; exact hd)⟩
  refine set_plain X I hC.sa (osa_err (s := { s with toks := s.toks + 1 }) X I hC (hC.no _ hn) fun b => ?_)
  obtain ⟨cd, rs, hc, hh, _⟩ := hC.cls
  refine wpAny_bind (wpAny_pure (wpAny_bind (wpAny_bind (wpAny_loadPart he ?_))))
  rw [hcl]
  refine wpAny_bind ((looks_clsIn (M := model prog w) X hc).at ?_)
  rw [hh, hdi]
  refine wpAny_pure (a := some d) (wpAny_bind (wpAny_pure (wpAny_bind ?_)))
  refine wpAny_nsSet1 (m := mA) (ns1_iff.mpr ⟨od, hd, ho⟩) fun h' hn' hs => ?_
  obtain ⟨oD, esD, epD, hoD, hdD, hcD⟩ := hn'.count (Within.cons name v hw)
  refine wpAny_bind (wpAny_lookBehind hoD (by rw [hdD]; exact pastItsLine_dict (Nat.le_trans hcD (by rw [List.length_cons, sizeLine_eq]; omega))) ?_)
  obtain ⟨od', hd', ho'⟩ := ns1_iff.mp hn'
  have z := N (d, od) (.head _)
  refine wpAny_pure (k h' od' _ ho' (F.change hs z.2.1 z.2.2) fun p hp => ?_)
  rcases List.mem_cons.mp hp with rfl | hp
  · exact ⟨hd', z.2⟩
  rcases List.mem_cons.mp hp with rfl | hp
  · have y := N _ (.tail _ (.head _)); exact ⟨(hs.2 _ hne).trans y.1, y.2⟩
  · have y := N p (.tail _ (.tail _ hp)); exact ⟨(hs.2 _ (off p hp)).trans y.1, y.2⟩
theorem set_first (F : Fr h₀ L s.heap m) (X₀ : K.In h₀) (N : News h₀ L s.heap ((e, oe) :: news)) (hC : ErrSet K C) (hcl : oe.cls = .ref C) (hdat : oe.data = .fields vs) (hdi : oe.dict = none) (off : ∀ p ∈ news, p.1 ≠ e) (hn : name ∈ errNames)
    (k : ∀ h' d od tk, NsObj od (fun y => if y = name then some v else none) → Fr h₀ L h' m → News h₀ L h' ((d, od) :: (e, { oe with dict := some d }) :: news) → e ≠ d → (∀ p ∈ news, p.1 ≠ d) → Q () { s with heap := h', toks := tk }) :
    wpAny (model prog w) A (setAttr (.ref e) name v) Q E s := by
  have X := X₀.keeps F.keep
  have he := (N _ (.head _)).1
  have I : InstAt s.heap e oe C none := ⟨he, hcl, (by unfold notCls; rw [hdat]), (by rw [hdi]; trivial)⟩
  refine set_plain X I hC.sa (osa_err (s := { s with toks := s.toks + 1 }) X I hC (hC.no _ hn) fun b => ?_)
  obtain ⟨cd, rs, hc, hh, _⟩ := hC.cls
  refine wpAny_bind (wpAny_pure (wpAny_bind (wpAny_bind (wpAny_loadPart he ?_))))
  rw [hcl]
  refine wpAny_bind ((looks_clsIn (M := model prog w) X hc).at ?_)
  rw [hh, hdi]
  have he1 : (s.heap.push { cls := .type "dict", data := .dict #[] }).get? e = some oe := Heap.get?_push_of_some _ he
  have hes : e ≠ s.heap.objs.size := Nat.ne_of_lt (Heap.lt_size he)
  have F1 := F.push { cls := .type "dict", data := .dict #[] }
  have N1 := N.push F { cls := .type "dict", data := .dict #[] }
  have offd : ∀ p ∈ news, p.1 ≠ s.heap.objs.size := fun p hp => Nat.ne_of_lt (Heap.lt_size (N p (.tail _ hp)).1)
  rw [hdat]
  have hx1 : ((s.heap.push { cls := .type "dict", data := .dict #[] }).update e fun o => { cls := o.cls, dict := some s.heap.objs.size, data := o.data, slots := o.slots }).get? e = some { cls := oe.cls, dict := some s.heap.objs.size, data := oe.data, slots := oe.slots } :=
    Heap.get?_update_self _ he1 (by obtain ⟨c, dd, da, sl⟩ := oe; cases hdat; rfl)
  have hs1 : Heap.SameBut e (s.heap.push { cls := .type "dict", data := .dict #[] }) ((s.heap.push { cls := .type "dict", data := .dict #[] }).update e fun o => { cls := o.cls, dict := some s.heap.objs.size, data := o.data, slots := o.slots }) := Heap.SameBut.update ..
  have hgd := (N1 _ (.head _))
  have hnd : ((s.heap.push { cls := .type "dict", data := .dict #[] }).update e fun o => { cls := o.cls, dict := some s.heap.objs.size, data := o.data, slots := o.slots }).Ns s.heap.objs.size (fun _ => none) :=
    ⟨_, #[], _, (hs1.2 _ (Ne.symm hes)).trans hgd.1, rfl, fun e he => absurd he (by simp), fun _ => rfl⟩
  have ze := N _ (.head _)
  have F2 := F1.change hs1 ze.2.1 ze.2.2
  show wpAny _ _ (do let d ← alloc { cls := .type "dict", data := .dict #[] }; update e (fun o => { cls := o.cls, dict := some d, data := o.data, slots := o.slots }); dictMade (.ref C) e d) _ _ _
  refine wpAny_bind (wpAny_alloc ?_)
  refine wpAny_bind (wpAny_update he1 ?_)
  refine wpAny_pure ?_
  show wpAny _ _ (ObjectAttr.storeInDict s.heap.objs.size (.str name s.toks) name v) _ _ _
  refine wpAny_bind (wpAny_pure (wpAny_bind ?_))
  refine wpAny_nsSet1 (Heap.Ns1.of_empty hnd) fun h' hn' hs => ?_
  obtain ⟨oD, esD, epD, hoD, hdD, hcD⟩ := hn'.count (Within.cons name v Within.nil)
  refine wpAny_bind (wpAny_lookBehind hoD (by rw [hdD]; exact pastItsLine_dict (Nat.le_trans hcD (by rw [List.length_cons, List.length_nil, sizeLine_eq]; omega))) ?_)
  obtain ⟨od', hd', ho'⟩ := ns1_iff.mp hn'
  refine wpAny_pure (k h' s.heap.objs.size od' _ ho' (F2.change hs hgd.2.1 hgd.2.2) (fun p hp => ?_) hes offd)
  rcases List.mem_cons.mp hp with rfl | hp
  · exact ⟨hd', hgd.2⟩
  rcases List.mem_cons.mp hp with rfl | hp
  · exact ⟨(hs.2 _ hes).trans hx1, ze.2⟩
  · have y := N1 p (.tail _ (.tail _ hp)); exact ⟨(hs.2 _ (offd p hp)).trans ((hs1.2 _ (off p hp)).trans y.1), y.2⟩
theorem entry_gs_set' : entryFor table "getset_descriptor.__set__" = some Builtin.«getset_descriptor.__set__» := entryFor_of_tree (by kernel_rfl)
theorem args_gs_set' (a b c : Value) : argsOk "getset_descriptor.__set__" ⟨[a, b, c], []⟩ := by unfold argsOk; kernel_rfl
theorem entry_bexc_args_set : entryFor table "BaseException.args#set" = some Builtin.«BaseException.args#set» := entryFor_of_tree (by kernel_rfl)
theorem args_set' {R : Result → Shared → Prop} {od : Option Obj} {t : Addr} {items : Array Value} (X : K.In s.heap) (hC : ErrSet K C) (I : InstAt s.heap e oe C od) (hd : oe.data = .fields vs) (hsz : 0 < vs.size) {old : Value} (h0 : vs[0]? = some old) (ht : s.heap.IsTuple t items)
    (hq : R (.ok (.ret .none)) { s with heap := s.heap.update e (Obj.mapFields (·.setIfInBounds 0 (.ref t))) }) :
    codeAny (model prog w) A (.call (.builtin "getset_descriptor.__set__") ⟨[.builtin "BaseException.args", .ref e, .ref t], []⟩) R s := by
  obtain ⟨hh', g, d, tk, os⟩ := s
  have hT5 : (⟨hh', g, d, tk, os⟩ : Shared).TypeIs (.builtin "BaseException.args") "getset_descriptor" := F.typeOf_bexc_args
  have L0 := I.type (M := model prog w)
  have L1 := looks_mroIn (M := model prog w) X hC.bexc
  have hx := I.at_
  refine codeAny_call_builtin F.slot_gs_set.plain entry_gs_set' (F.slot_gs_set.check _ _ _ _ _ _ _ _ hT5 (args_gs_set' _ _ _) ?_)
  have e1 := F.owner_bexc_args
  repeat (any_goals (first | assumption | (with_reducible refine wpAny_bind (L0.at ?_)) | (with_reducible refine L0.at ?_) | (rw [F.owner_bexc_args]; refine L1.at ?_) | wp_step))
  refine ⟨Code.quiet_builtin _ (by decide +kernel), codeAny_builtin entry_bexc_args_set ?_⟩
  unfold Builtin.«BaseException.args#set»
  refine wpAny_bind (call_tuple_same ht ?_)
  unfold BaseException.bexcPut
  refine wpAny_bind (wpAny_bind (wpAny_field hx hd h0 ?_))
  refine wpAny_bind (wpAny_setField hx hd hsz ?_)
  have fin : wpAny (model prog w) A.in1 (ret .none) (fun fin s' => match fin with | .done f => R (.ok f) s' | .again c' => c'.quiet = true ∧ codeAny (model prog w) A c' R s') (fun e s' => R (.error e) s') ⟨hh'.update e (Obj.mapFields (·.setIfInBounds 0 (.ref t))), g, d, tk, os⟩ := wpAny_pure hq
  split
  · exact wpAny_letGo fin
  · exact wpAny_pure fin
theorem set_args {t : Addr} {items : Array Value} (F : Fr h₀ L s.heap m) (X₀ : K.In h₀) (N : News h₀ L s.heap news) (he : (e, oe) ∈ news) (hC : ErrSet K C) (hcl : oe.cls = .ref C) (hdat : oe.data = .fields vs) {old : Value} (h0 : vs[0]? = some old)
    (hdi : ∀ d, oe.dict = some d → ∃ od, (d, od) ∈ news) (ht : s.heap.IsTuple t items)
    (k : ∀ h' tk, Heap.SameBut e s.heap h' → h'.get? e = some (Obj.mapFields (·.setIfInBounds 0 (.ref t)) oe) → Fr h₀ L h' m → Q () { s with heap := h', toks := tk }) :
    wpAny (model prog w) A (setAttr (.ref e) "args" (.ref t)) Q E s := by
  have X := X₀.keeps F.keep
  have ze := N _ he
  obtain ⟨od, I⟩ : ∃ od, InstAt s.heap e oe C od := by
    cases q : oe.dict with
    | none => exact ⟨none, ze.1, hcl, (by unfold notCls; rw [hdat]), (by rw [q]; trivial)⟩
    | some d =>
      obtain ⟨od, hm⟩ := hdi d q
      exact ⟨some od, ze.1, hcl, (by unfold notCls; rw [hdat]), (by rw [q]; exact (N _ hm).1)⟩
  refine set_plain X I hC.sa (osa_err (s := { s with toks := s.toks + 1 }) X I hC hC.args fun b => ?_)
  show wpAny _ _ (ObjectAttr.setByDescriptor (.builtin "BaseException.args") (.ref e) (.ref t)) _ _ _
  have hs : Heap.SameBut e s.heap (s.heap.update e (Obj.mapFields (·.setIfInBounds 0 (.ref t)))) := Heap.SameBut.update ..
  have he' : (s.heap.update e (Obj.mapFields (·.setIfInBounds 0 (.ref t)))).get? e = some (Obj.mapFields (·.setIfInBounds 0 (.ref t)) oe) := Heap.get?_update_self _ ze.1 (Obj.isFreed_of_fields (Obj.data_mapFields hdat _))
  have fin := k _ (s.toks + 1) hs he' (F.change hs ze.2.1 ze.2.2)
  refine wpAny_bind (wpAny_rule (wpAny_bind (wpAny_holding (wpAny_bind (wpAny_bind ?_)))))
  rw [PySem.F.typeOf_bexc_args]
  refine wpAny_pure ?_
  rw [PySem.F.slot_gs_set.lookup]
  refine wpAny_pure (wpAny_holding ?_)
  rw [PySem.F.slot_gs_set.bind]
  refine wpAny_bind (wpAny_pure (wpAny_bind (wpAny_call (args_set' (s := { s with toks := s.toks + 1 }) X hC I hdat (Array.getElem?_eq_some_iff.mp h0).1 h0 ht ?_))))
  exact wpAny_pure (wpAny_pure fin)
end
end Mine

end

/-! XH -/
section
open PySem PySem.W PySem.Calls PyProof.Rows PyProof.V PySem.Spec Builtin
namespace Mine
/-! 08: making an error below OSError: OSError.__new__, then the class's own __init__ -/
def errMakes (K : Frag) (C : Addr) : Bool := match K.lookup C with
  | some ⟨_, _, .cls cd, sl⟩ => !cd.hasDel && (sl.toList[4]?).join == some (.builtin "OSError.__new__") && !cd.mro.isEmpty && cd.mro.contains (.ref C) && cd.mro.contains (.type "OSError") &&
      specialIn K (.ref C) "__call__" == some (some (.builtin "type.__call__")) && instIn K (.ref C) (.type "type") == some true
  | _ => false
structure ErrMakes (M : Model) (h : Heap) (C : Addr) : Prop where
  obj : ∃ oc od cd sl, h.get? C = some ⟨oc, od, .cls cd, sl⟩ ∧ cd.hasDel = false ∧ cd.mro.isEmpty = false
  made : Looks M h (Bind.madeBy (.ref C)) (some "OSError.__new__")
  base : Looks M h (Bind.staticBase (.ref C)) (.ref C)
  self : Looks M h (isSubtype (.ref C) (.ref C)) true
  top : Looks M h (isSubtype (.ref C) (.type "OSError")) true
  call : Looks M h (specialOf (.ref C) "__call__") (some (.builtin "type.__call__"))
  typ : Looks M h (isInstance (.ref C) (.type "type")) true
theorem errMakes_of {K : Frag} {M : Model} {h : Heap} (X : K.In h) {C : Addr} (e : errMakes K C = true) : ErrMakes M h C := by
  unfold errMakes at e
  split at e
  · rename_i oc od cd sl ho
    simp only [Bool.and_eq_true, Bool.not_eq_true', beq_iff_eq] at e
    obtain ⟨⟨⟨⟨⟨⟨e2, e3⟩, e4⟩, e5⟩, e6⟩, e7⟩, e8⟩ := e
    have hc : clsIn K C = some cd := by unfold clsIn; rw [ho]
    have hm : Looks M h (mroOf (.ref C)) cd.mro := (looks_clsIn X hc).andThen .now
    obtain ⟨c, l, hl⟩ : ∃ c l, cd.mro = c :: l := by cases q : cd.mro with | nil => rw [q] at e4; cases e4 | cons c l => exact ⟨c, l, rfl⟩
    have made : Looks M h (Bind.madeBy (.ref C)) (some "OSError.__new__") := by
      intro A Q E s k q
      unfold Bind.madeBy
      refine wpAny_bind (hm A _ E s k ?_)
      rw [hl, List.forIn_cons]
      refine wpAny_bind (wpAny_bind (wpAny_bind (wpAny_bind (wpAny_loadPart (k _ _ (X _ _ ho)) (wpAny_pure ?_)))))
      dsimp only
      rw [← Array.getElem?_toList, e3]
      exact wpAny_pure (wpAny_pure (wpAny_pure q))
    refine ⟨⟨oc, od, cd, sl, X _ _ ho, e2, e4⟩, made, ?_, looks_mroIn X ?_, looks_mroIn X ?_, looks_specialIn X e7, looks_instIn X e8⟩
    · intro A Q E s k q
      unfold Bind.staticBase
      refine wpAny_bind (hm A _ E s k ?_)
      rw [hl, List.forIn_cons]
      exact wpAny_bind (wpAny_bind (wpAny_bind (made A _ E s k (wpAny_pure (wpAny_pure (wpAny_pure q))))))
    · unfold mroIn; rw [hc, Option.bind_some, if_neg (by rw [e4]; decide), e5]
    · unfold mroIn; rw [hc, Option.bind_some, if_neg (by rw [e4]; decide), e6]
  · cases e
theorem os_row : Manifest.signature? "OSError.__new__" = some ⟨.constructor, "*", "OSError", .cls, [⟨"args", .varPos, false⟩]⟩ := by kernel_rfl
theorem os_kind : builtinKind "OSError.__new__" = some .builtinFn := by decide +kernel
theorem os_split : splitId "OSError.__new__" = some ("OSError", "__new__") := by decide +kernel
theorem os_entry : entryFor table "OSError.__new__" = some Builtin.«OSError.__new__» := entryFor_of_tree (by kernel_rfl)
theorem os_canon : Manifest.canonical "OSError.__new__" = "OSError.__new__" := by decide +kernel
def blankObj (C t : Addr) : Obj := { cls := .ref C, data := .fields (#[.ref t, .none, .none, .none, .bool false, .none] ++ OSError.osNothingGiven) }
section
variable {prog : Program} {w : World} {A : Around} {C : Addr} {R : Result → Shared → Prop} {h : Heap} {g : Array GenState} {d : Drawn} {t : Nat} {os : OsState}
theorem new_os {rest : List Value} {fI : Addr} (Y : ErrMakes (model prog w) h C) (hi : Looks (model prog w) h (typeLookup (.ref C) "__init__") (some (.ref fI)))
    (hq : R (.ok (.ret (.ref (h.objs.size + 1)))) ⟨(h.push (tupObj [])).push (blankObj C h.objs.size), g, d, t, os⟩) :
    codeAny (model prog w) A (.call (.builtin "OSError.__new__") ⟨.ref C :: rest, []⟩) R ⟨h, g, d, t, os⟩ := by
  obtain ⟨⟨oc, od, cd, sl, hC, e2, e4⟩, made, base, self, top, call, typ⟩ := Y
  refine codeAny_call_builtin_code (Code.quiet_builtin _ (by decide +kernel)) ?_
  simp only [checkBuiltinCall, os_kind, os_split, os_row]
  have here : Looks (model prog w) h (Bind.madeHere "OSError.__new__" (.ref C)) () := base.andThen (made.andThen (Looks.of_pure (by simp only [Option.map_some, bne_self_eq_false, Bool.false_eq_true, if_false])))
  repeat (first | simp only [bne_self_eq_false, Bool.false_eq_true, if_false] | lk)
  have hz : (![({ name := "args", kind := Manifest.ParamKind.varPos, required := false } : Manifest.Param)].any fun x => x.kind == Manifest.ParamKind.varPos) = false := by decide
  simp only [hz, Bool.and_false, Bool.false_eq_true, if_false]
  refine wpAny_pure ?_
  refine codeAny_builtin os_entry ?_
  unfold Builtin.«OSError.__new__» OSError.osReadsInInit
  have ism : Looks (model prog w) h (isType (.ref C)) true := by
    unfold isType
    exact (Looks.ld hC).andThen .now
  have cn : (Option.map Manifest.canonical (some "OSError.__new__") == some "OSError.__new__") = true := by rw [Option.map_some, os_canon]; rfl
  repeat (first | simp only [cn, Bool.not_true, bne_self_eq_false, Bool.false_eq_true, if_false, if_true] | lk)
  refine wpAny_load (Heap.get?_push_of_some _ (Heap.get?_push_of_some _ hC)) ?_
  dsimp only
  rw [e2]
  refine wpAny_pure ?_
  rw [if_neg (by decide)]
  refine wpAny_pure (wpAny_pure ?_)
  show R _ _
  rw [Heap.size_push]
  exact hq
theorem err_core {rest : List Value} {fI : Addr} (Y : ErrMakes (model prog w) h C) (hi : Looks (model prog w) h (typeLookup (.ref C) "__init__") (some (.ref fI))) (hb : ∀ self, Looks (model prog w) h (bindSpecial (.ref fI) self) (.ref fI, [self]))
    (hq : codeAny (model prog w) (A.under (.builtin "type.__call__" ⟨.ref C :: rest, []⟩)) (.call (.ref fI) ⟨.ref (h.objs.size + 1) :: rest, []⟩) (InitBack (h.objs.size + 1) R) ⟨(h.push (tupObj [])).push (blankObj C h.objs.size), g, d, t, os⟩) :
    codeAny (model prog w) A (.call (.ref C) ⟨rest, []⟩) R ⟨h, g, d, t, os⟩ := by
  have Y' := Y
  obtain ⟨⟨oc, od, cd, sl, hC, e2, e4⟩, made, base, self, top, call, typ⟩ := Y
  refine codeAny_of_tree ?_
  show wpAny _ _ (callAny (.ref C) _) _ _ _
  refine nd_load hC ?_
  show wpAny _ _ (callAny.viaDunder (.ref C) _) _ _ _
  unfold callAny.viaDunder
  refine wpAny_bind (call.at ?_)
  dsimp only
  rw [tc_bind]
  refine wpAny_bind (wpAny_pure (wpAny_bind (wpAny_pure ?_)))
  refine wpAny_pure (a := Fin.again (.call (.builtin "type.__call__") ⟨.ref C :: rest, []⟩)) (And.intro rfl ?_)
  refine codeAny_call_builtin_at (Code.quiet_builtin _ (by decide +kernel)) entry_typeCall (check_slot tc_kind tc_split typ (tc_args _ _ _) ?_)
  unfold Builtin.«type.__call__»
  have hm : Looks (model prog w) h (mroOf (.ref C)) cd.mro := ((Looks.ld (part := none) hC).andThen .now).andThen .now
  repeat (first | simp only [e4, Bool.false_eq_true, if_false] | with_reducible refine wpAny_call ?_ | lk)
  refine new_os Y' hi ?_
  have k : ∀ b o, h.get? b = some o → ((h.push (tupObj [])).push (blankObj C h.objs.size)).get? b = some o := fun b o e => Heap.get?_push_of_some _ (Heap.get?_push_of_some _ e)
  have hx : ((h.push (tupObj [])).push (blankObj C h.objs.size)).get? (h.objs.size + 1) = some (blankObj C h.objs.size) := by
    have z := Heap.get?_push_size (h.push (tupObj [])) (o := blankObj C h.objs.size) rfl
    rwa [Heap.size_push] at z
  have t1 : Looks (model prog w) ((h.push (tupObj [])).push (blankObj C h.objs.size)) (typeOf (.ref (h.objs.size + 1))) (.ref C) := (Looks.ld hx).andThen .now
  have s1 := self.keeps k
  have i1 := hi.keeps k
  have b1 := (hb (.ref (h.objs.size + 1))).keeps k
  unfold isInstance callSpecial? specialOf
  repeat (first | with_reducible refine wpAny_call ?_ | lk)
  refine codeAny_mono hq fun r s' z => ?_
  rcases r with e | (v | _ | _ | _) <;> first | exact z | exact z.elim | skip
  obtain ⟨rfl, z⟩ := z
  exact wpAny_pure (wpAny_pure z)
end
section
variable {prog : Program} {w : World} {A : Around} {K : Frag} {C L : Addr} {s : Shared} {h₀ : Heap} {m : Str → Option Value} {news : List (Addr × Obj)} {E : Value → Shared → Prop} {Q : Value → Shared → Prop}
theorem make_err {rest : List Value} {fI : Addr} (F : Fr h₀ L s.heap m) (N : News h₀ L s.heap news) (X₀ : K.In h₀) (hm : errMakes K C = true) (hi : findIn K (.ref C) "__init__" = some (some (.ref fI))) (hf : typeIn K (.ref fI) = some (.type "function"))
    (h : ∀ e t h', Fr h₀ L h' m → News h₀ L h' ((e, blankObj C t) :: (t, tupObj []) :: news) → (∀ p ∈ news, p.1 < t) → t < e → (∀ b o, s.heap.get? b = some o → h'.get? b = some o) →
      codeAny (model prog w) (A.under (.builtin "type.__call__" ⟨.ref C :: rest, []⟩)) (.call (.ref fI) ⟨.ref e :: rest, []⟩)
        (InitBack e (fun r s' => match r with | .ok (.ret v) => Q v s' | .ok _ => False | .error e => E e s')) { s with heap := h' }) :
    wpAny (model prog w) A (call (.ref C) rest) Q E s := by
  obtain ⟨hh, g, d, t, os⟩ := s
  have X := X₀.keeps F.keep
  refine wpAny_call (err_core (errMakes_of X hm) (looks_findIn X hi) (fun self => bind_fn X self hf) (h _ hh.objs.size _ ((F.push _).push _) ?_ (fun p hp => Heap.lt_size (N p hp).1) (Nat.lt_succ_self _) (fun b o e => Heap.get?_push_of_some _ (Heap.get?_push_of_some _ e))))
  have := (N.push F (tupObj [])).push (F.push _) (blankObj C hh.objs.size)
  rwa [Heap.size_push] at this
end
end Mine

end

/-! XW -/
section
open PySem PySem.W PySem.Calls PyProof.Rows PyProof.V PySem.Spec Builtin
namespace Mine
def errSetB (K : Frag) (C : Addr) (rs : List Addr) : Bool :=
  (match clsIn K C with | some cd => cd.hasDict && cd.mro == rs.map Value.ref ++ errTail | none => false) && findIn K (.ref C) "__setattr__" == some (some (.builtin "object.__setattr__")) && mroIn K C (.type "object") == some true && mroIn K C (.type "BaseException") == some true &&
  errNames.all (fun n => takerIn K C n == some none) && takerIn K C "args" == some (some (.builtin "BaseException.args"))
theorem errSet_of {K : Frag} {C : Addr} (rs : List Addr) (h : errSetB K C rs = true) : ErrSet K C := by
  simp only [errSetB, Bool.and_eq_true, beq_iff_eq, List.all_eq_true] at h
  obtain ⟨⟨⟨⟨⟨h1, h2⟩, h3⟩, h4⟩, h5⟩, h6⟩ := h
  refine ⟨?_, h2, h3, h4, h5, h6⟩
  split at h1
  · rename_i cd hcd
    simp only [Bool.and_eq_true, beq_iff_eq] at h1
    exact ⟨cd, rs, hcd, h1.1, h1.2⟩
  · cases h1
theorem kind_off {h₀ h : Heap} {L : Addr} {led : List (Addr × Obj)} {p q : Addr × Obj} (N : News h₀ L h led) (hp : p ∈ led) (hq : q ∈ led) (hk : p.2.cls ≠ q.2.cls) : p.1 ≠ q.1 := fun e => by
  have z := (N p hp).1
  rw [e, (N q hq).1] at z
  injection z with z
  exact hk (by rw [z])
section
variable {prog : Program} {w : World} {A : Around} {E : Value → Shared → Prop} {K : Frag} {C e d t L : Addr} {s : Shared} {h₀ : Heap} {m mA : Str → Option Value} {news : List (Addr × Obj)} {oe od : Obj} {vs : Array Value} {Q : Unit → Shared → Prop}
theorem set_args_K {ts : List Value} (F : Fr h₀ L s.heap m) (X₀ : K.In h₀) (N : News h₀ L s.heap ((t, tupObj ts) :: (d, od) :: (e, oe) :: news)) (hC : ErrSet K C) (hcl : oe.cls = .ref C) (hdat : oe.data = .fields vs) {old : Value} (h0 : vs[0]? = some old) (hdi : oe.dict = some d) (hne : e ≠ d) (off : ∀ p ∈ news, p.1 ≠ e)
    (k : ∀ h' tk, Fr h₀ L h' m → News h₀ L h' ((t, tupObj ts) :: (d, od) :: (e, Obj.mapFields (·.setIfInBounds 0 (.ref t)) oe) :: news) → Q () { s with heap := h', toks := tk }) :
    wpAny (model prog w) A (setAttr (.ref e) "args" (.ref t)) Q E s := by
  have hte : t ≠ e := kind_off N (.head _) (.tail _ (.tail _ (.head _))) (by rw [hcl]; exact fun z => nomatch z)
  refine set_args F X₀ N (.tail _ (.tail _ (.head _))) hC hcl hdat h0 (fun d' q => ⟨od, ?_⟩) ⟨_, (N _ (.head _)).1, rfl, 0, rfl⟩ fun h' tk hs he F' => k h' tk F' fun p hp => ?_
  · rw [hdi] at q; injection q with q; subst q; exact .tail _ (.head _)
  · rcases List.mem_cons.mp hp with rfl | hp
    · have z := N _ (.head _); exact ⟨(hs.2 _ hte).trans z.1, z.2⟩
    rcases List.mem_cons.mp hp with rfl | hp
    · have z := N _ (.tail _ (.head _)); exact ⟨(hs.2 _ (Ne.symm hne)).trans z.1, z.2⟩
    rcases List.mem_cons.mp hp with rfl | hp
    · exact ⟨he, (N _ (.tail _ (.tail _ (.head _)))).2⟩
    · have z := N p (.tail _ (.tail _ (.tail _ hp))); exact ⟨(hs.2 _ (off p hp)).trans z.1, z.2⟩
end
theorem within_1 {n : Str} {v : Value} : Within (fun y => if y = n then some v else none) [n] := Within.cons n v Within.nil
theorem within_2 {n n' : Str} {v v' : Value} : Within (fun y => if y = n then some v else if y = n' then some v' else none) [n, n'] := Within.cons n v within_1
/-! a call that binds no things -/
section
variable {prog : Program} {w : World} {A : Around} {K : Frag} {f L : Addr} {s : Shared} {h₀ : Heap} {m : Str → Option Value} {news : List (Addr × Obj)} {R : Result → Shared → Prop} {p : Program} {loose : List Str} {mean : ExcName → Option Value} {mg mb : Str → Option Value}
end
end Mine

end

/-! XV -/
section
open PySem PySem.W PySem.Calls PyProof.Rows PyProof.V PySem.Spec
namespace Mine
/-! for x in list: a base that may turn from turn to turn -/
section
variable {prog : Program} {w : World} {A : Around} {E : Value → Shared → Prop} {s : Shared} {env : Env} {h₀ : Heap} {body : List Stmt} {Q : Flow → Shared → Prop}
def EndB (G : Heap → Prop) (L : Addr) (J : (Str → Option Value) → List (Addr × Obj) → Prop) (own : List (Addr × Obj)) (s₁ s₂ : Shared) : Prop :=
  ∃ h₀ h' tk m' nx, G h₀ ∧ s₂ = { s₁ with heap := h', toks := tk } ∧ Fr h₀ L h' m' ∧ News h₀ L h' nx ∧ News h₀ L h' own ∧ (∀ p ∈ nx, ∀ q ∈ own, p.1 ≠ q.1) ∧ J m' nx
def PostB (G : Heap → Prop) (L : Addr) (J : (Str → Option Value) → List (Addr × Obj) → Prop) (own : List (Addr × Obj)) (s₁ : Shared) (Q : Flow → Shared → Prop) (f : Flow) (s₂ : Shared) : Prop :=
  match f with
  | .ret v => Q (.ret v) s₂
  | .brk => Q .next s₂
  | _ => EndB G L J own s₁ s₂
end
/-! the TypeError of a refused call, caught in the law's own frame; the base turns -/
section
variable {prog : Program} {w : World} {A₀ : Around} {E : Value → Shared → Prop} {s' : Shared} {h₀ h : Heap} {L a e : Addr} {m : Str → Option Value} {name : Str} {scope : Scope} {cd : Value}
  {b₀ : Stmt} {suite : List Stmt} {pos np : Pos} {rest : List ExceptHandler} {Q : Flow → Shared → Prop} {news : List (Addr × Obj)} {KF : Frag} {p : Program} {loose : List Str} {mean : ExcName → Option Value} {mg mb : Str → Option Value}
theorem isExc_TypeError : isSubtype (.type "TypeError") (.type "BaseException") = pure true := by rw [isSubtype_type]; kernel_rfl
theorem notTuple_TypeError : isSubtype (.type ((Manifest.find? "TypeError").elim "type" fun y => y.metatype)) (.type "tuple") = pure false := by
  have e : ((Manifest.find? "TypeError").elim "type" fun y => y.metatype) = "type" := by decide +kernel
  rw [e, isSubtype_type]; kernel_rfl
theorem boot_TypeError : bootBuiltins "TypeError" = some (.type "TypeError") := by decide +kernel
theorem sub_TypeError' : isSubtype (.type "TypeError") (.type "TypeError") = pure true := by rw [isSubtype_type]; kernel_rfl
end
end Mine

end

/-! ON -/
section
open PySem PySem.W PySem.Calls PyProof.Rows PyProof.V PySem.Spec
open Sem (wp)
namespace Mine
/-! a logic for the stacks that hold the claim's caller -/
def CIn (l : List (Code × Pos)) : Prop := (l.map (·.1)).any Code.isCaller = true
theorem CIn.cons {l : List (Code × Pos)} (c : Code) (p : Pos) (h : CIn l) : CIn ((c, p) :: l) := by
  unfold CIn at h ⊢
  rw [List.map_cons, List.any_cons, h, Bool.or_true]
def Ctx.Called (Γ : PySem.Ctx) : Prop := ∀ p, CIn ((Γ.code, p) :: Γ.below)
def wpOn {α : Type} (M : Model) (A : Around) (t : Sem α) (Q : α → Shared → Prop) (E : Value → Shared → Prop) (s : Shared) : Prop :=
  ∀ (Γ : PySem.Ctx) p, Γ.In A → Ctx.Called Γ → wp M Γ t (fun a _ s' => Q a s') (fun e _ s' => E e s') p s
def codeOn (M : Model) (A : Around) (c : Code) (R : Result → Shared → Prop) (s : Shared) : Prop :=
  ∀ (Γ : PySem.Ctx) p, Γ.code = c → Γ.Below A → CIn Γ.below → wpCode M Γ R p s
section
variable {α β : Type} {M : Model} {A : Around} {E : Value → Shared → Prop} {s : Shared}
theorem on_any {t : Sem α} {Q : α → Shared → Prop} (h : wpAny M A t Q E s) : wpOn M A t Q E s := fun Γ p hΓ _ => h Γ p hΓ
theorem codeOn_any {c : Code} {R : Result → Shared → Prop} (h : codeAny M A c R s) : codeOn M A c R s := fun Γ p hc hΓ _ => h Γ p hc hΓ
theorem on_pure {a : α} {Q : α → Shared → Prop} (h : Q a s) : wpOn M A (pure a) Q E s := on_any (wpAny_pure h)
theorem on_mono {t : Sem α} {Q Q' : α → Shared → Prop} {E' : Value → Shared → Prop} (h : wpOn M A t Q E s) (hQ : ∀ a s, Q a s → Q' a s) (hE : ∀ e s, E e s → E' e s) : wpOn M A t Q' E' s :=
  fun Γ p hΓ hc => Sem.wp_mono M Γ t (fun a _ s => hQ a s) (fun e _ s => hE e s) p s (h Γ p hΓ hc)
theorem on_bind {m : Sem α} {f : α → Sem β} {Q : β → Shared → Prop} (h : wpOn M A m (fun a s' => wpOn M A (f a) Q E s') E s) : wpOn M A (m >>= f) Q E s := fun Γ p hΓ hc => by
  rw [Sem.wp_bind']
  exact Sem.wp_mono M Γ m (fun a p' s' h' => h' Γ p' hΓ hc) (fun _ _ _ h' => h') p s (h Γ p hΓ hc)
theorem on_onRaise {m : Sem α} {k : Value → Sem Unit} {Q : α → Shared → Prop}
    (h : wpOn M A m Q (fun e s' => wpAny M A (k e) (fun _ s'' => E e s'') E s') s) : wpOn M A (m.onRaise k) Q E s := fun Γ p hΓ hc => by
  rw [Sem.wp_onRaise]
  exact Sem.wp_mono M Γ m (fun _ _ _ h' => h') (fun e p' s' h' => h' Γ p' hΓ) p s (h Γ p hΓ hc)
theorem on_attempt {m : Sem α} {Q : Except Value α → Shared → Prop} (h : wpOn M A m (fun a => Q (.ok a)) (fun e => Q (.error e)) s) :
    wpOn M A m.attempt Q E s := fun Γ p hΓ hc => by rw [Sem.wp_attempt]; exact h Γ p hΓ hc
theorem on_holding {vs : List Value} {m : Sem α} {Q : α → Shared → Prop} (h : wpOn M A m Q E s) : wpOn M A (holding vs m) Q E s :=
  fun Γ p hΓ hc => by rw [Sem.wp_holding]; exact h Γ p hΓ hc
theorem codeOn_mono {c : Code} {R R' : Result → Shared → Prop} (h : codeOn M A c R s) (hR : ∀ r s, R r s → R' r s) : codeOn M A c R' s :=
  fun Γ p hc hΓ hb => wpCode_mono hR (h Γ p hc hΓ hb)
theorem on_run {c : Code} {h : Option Value} {Q : Flow → Shared → Prop}
    (hc : codeOn M (A.mark h) c (fun r s' => match r with | .ok f => Q f s' | .error e => E e s') s) (hnb : h ≠ some byPass := by intro x; cases x) :
    wpOn M A (run c h) Q E s :=
  fun Γ p hΓ hb => by rw [Sem.wp_run]; exact hc _ p rfl (hΓ.enter c h p hnb) (hb p)
theorem on_runValue {c : Code} {Q : Value → Shared → Prop}
    (hc : codeOn M A c (fun r s' => match r with | .ok (.ret v) => Q v s' | .ok _ => False | .error e => E e s') s) :
    wpOn M A (runValue c) Q E s := fun Γ p hΓ hb => by rw [Sem.wp_runValue]; exact hc _ p rfl (hΓ.enter c none p (by intro x; cases x)) (hb p)
theorem on_call {f : Value} {pos : List Value} {kw : List (Str × Value)} {Q : Value → Shared → Prop}
    (hc : codeOn M A (.call f ⟨pos, kw⟩) (fun r s' => match r with | .ok (.ret v) => Q v s' | .ok _ => False | .error e => E e s') s) :
    wpOn M A (call f pos kw) Q E s := on_runValue hc
theorem codeOn_of_tree {c : Code} {R : Result → Shared → Prop}
    (h : wpOn M (A.under c) (M.den c) (fun fin s' => match fin with | .done f => R (.ok f) s' | .again c' => c'.quiet = true ∧ codeOn M A c' R s')
      (fun e s' => R (.error e) s') s) : codeOn M A c R s := fun Γ p hc hΓ hb => by
  rw [wpCode_iff_wp, hc]
  refine Sem.wp_mono M Γ _ (fun fin p' s' h' => ?_) (fun _ _ _ h' => h') p s (h Γ p (hc ▸ hΓ.in) fun p => hb.cons _ p)
  cases fin with
  | done f => exact h'
  | again c' => exact ⟨h'.1, h'.2 (Γ.goto c') p' rfl (hΓ.goto c') hb⟩
theorem codeOn_loop {c : Code} {R : Result → Shared → Prop} (hq : c.quiet = true) (I : Nat → Shared → Prop)
    (turn : ∀ n s, I n s → wpOn M (A.under c) (M.den c)
      (fun fin s' => match fin with
        | .done f => R (.ok f) s'
        | .again c' => (c' = c ∧ ∃ m, m < n ∧ I m s') ∨ (c'.quiet = true ∧ codeOn M A c' R s')) (fun e s' => R (.error e) s') s)
    (n : Nat) (h : I n s) : codeOn M A c R s := by
  induction n using Nat.strongRecOn generalizing s with
  | ind n ih =>
    refine codeOn_of_tree (on_mono (turn n s h) (fun fin s' hf => ?_) fun _ _ h' => h')
    cases fin with
    | done f => exact hf
    | again c' =>
      rcases hf with ⟨rfl, m, hm, hI⟩ | hf
      · exact ⟨hq, ih m hm hI⟩
      · exact hf
theorem on_noted {env : Env} {m : Sem α} {Q : α → Shared → Prop} (h : wpOn M A m Q (notedBy M A env E) s) : wpOn M A (m.onRaise fun x => do noteFrame x env; theTreesLotGoes x) Q E s :=
  on_onRaise (on_mono h (fun _ _ q => q) fun _ _ hx => wpAny_bind (wpAny_mono hx (fun _ _ e => wpAny_theTreesLotGoes e) fun _ _ e => e))
theorem on_tryStmt {body orelse : Sem Flow} {env : Env} {h₀ : ExceptHandler} {hs : List ExceptHandler} {Q : Flow → Shared → Prop}
    (h : wpOn M A body (fun f s₁ => match f with | .next => wpOn M A orelse Q E s₁ | f => Q f s₁)
      (fun e s₁ => wpAny M A (noteFrame e env) (fun _ s₂ => wpAny M A (setFlight e none) (fun _ s₃ => wpAny M A (handleBy e env (h₀ :: hs)) Q E s₃) E s₂) E s₁) s) :
    wpOn M A (tryStmt false body (h₀ :: hs) orelse [] env) Q E s := by
  unfold tryStmt
  simp only [List.isEmpty_nil, if_true, List.isEmpty_cons, Bool.false_and, Bool.false_eq_true, if_false]
  refine on_bind (on_attempt (on_mono h (fun f s₁ h₁ => ?_) fun e s₁ h₁ => ?_))
  · cases f <;> first | exact h₁ | exact on_pure h₁
  · exact on_any (wpAny_bind (wpAny_mono h₁ (fun _ _ h₂ => wpAny_bind h₂) fun _ _ x => x))
/-- a refusal marks nothing there -/
theorem on_mark {own : List String} {e : Value} {Q : Unit → Shared → Prop} (h : Q () s) : wpOn M A (markTheRefusal own e) Q E s := fun Γ p hΓ hc => by
  unfold markTheRefusal
  rw [Sem.wp_bind']
  unfold stack
  rw [Sem.wp_stack]
  have z : pythonCodeMadeTheCall own (((Γ.code, p) :: Γ.below).map (·.1)) = false := by
    have gen : ∀ b c d : Bool, b = true → ((!b && c) && d) = false := fun b c d e => by rw [e]; rfl
    exact gen _ _ _ (hc p)
  show wp M Γ (if pythonCodeMadeTheCall own (((Γ.code, p) :: Γ.below).map (·.1)) = true then _ else _) _ _ p s
  rw [if_neg (by rw [z]; exact Bool.false_ne_true)]
  exact h
end
end Mine

end

/-! GO -/
section
open PySem PySem.W PySem.Calls PyProof.Rows PyProof.V PySem.Spec
open Sem (wp)
namespace Mine
end Mine

end

/-! HO -/
section
open PySem PySem.W PySem.Calls PyProof.Rows PyProof.V PySem.Spec
open Sem (wp)
namespace Mine
theorem done_on {M : Model} {t : Sem Fin} {R : Result → Shared → Prop} {s : Shared}
    (h : wpOn M callerA t (fun fin s' => ∃ f, fin = .done f ∧ R (.ok f) s') (fun e s' => R (.error e) s') s) (p : Pos) :
    wp M ⟨.builtin "claim.caller" {}, none, none, [], none⟩ t (Sem.finPost M ⟨.builtin "claim.caller" {}, none, none, [], none⟩ R) (fun e _ s' => R (.error e) s') p s := by
  refine Sem.wp_mono M _ t (fun fin p' s' h' => ?_) (fun _ _ _ h' => h') p s (h _ p caller_in fun _ => rfl)
  obtain ⟨f, rfl, hf⟩ := h'
  exact hf
theorem ends_on {prog : Program} {w : World} {t : Sem Fin} {s : Shared} {R : Result → Shared → Prop} (hreg : s.asleep)
    (h : wpOn (model prog w) callerA t (fun fin s' => ∃ f, fin = .done f ∧ (R (.ok f) s' ∧ leftWithCleanup s'.gens = false)) (fun e s' => R (.error e) s' ∧ leftWithCleanup s'.gens = false) s) :
    ∃ n r s' s'', runN (denote table) prog w n s ⟨t, .builtin "claim.caller" {}, default, []⟩ = .halted (outcomeOf r) s' ∧
      schedN (denote table) prog w n (.single s ⟨t, .builtin "claim.caller" {}, default, []⟩) = .halted (outcomeOf r) s' ∧ s'.forget = s''.forget ∧ R r s'' := by
  obtain ⟨n, r, s₁, s₂, hs, hn, hfo, hR⟩ := wp_halts_full (M := model prog w) (R := R) hreg (done_on (R := fun r s' => R r s' ∧ leftWithCleanup s'.gens = false) h default)
  exact ⟨n, r, s₂, s₁, hn, hs, hfo, hR⟩
end Mine

end

/-! HP -/
section
open PySem PySem.W PySem.Calls PyProof.Rows PyProof.V PySem.Spec
namespace Mine
/-- a call by the claim's caller, from wpOn -/
theorem callFrom_on {c : ClaimW} {tree : List Value → Sem Fin} {w : World} {s : Shared} {free : Addr → Prop} {gens : Prop} {kept : Heap → Prop} (hz : s.asleep) (hgens : s.gens = #[])
    (spec : ∀ args, c.pre args = true → WData.layableAll args = true → ∀ ord : List DictEntry → List DictEntry, (∀ l, (ord l).Perm l) →
      ∃ vs s₁, layAllW c.records (classAt s.heap) w.params ord args s = some (vs, s₁) ∧
        wpOn (model c.prog w) callerA (tree vs) (fun fin s' => ∃ f, fin = .done f ∧ (c.Ends s args vs s₁ (.ok f) s' ∧ s'.os = s.os ∧ AllBare s'.gens ∧ kept s'.heap))
          (fun e s' => c.Ends s args vs s₁ (.error e) s' ∧ s'.os = s.os ∧ AllBare s'.gens ∧ kept s'.heap) s₁) :
    c.CallFrom (fun vs => ⟨tree vs, .builtin "claim.caller" {}, default, []⟩) w free gens kept s := by
  intro args hp hl ord ho
  obtain ⟨vs, s₁, laid, walk⟩ := spec args hp hl ord ho
  have rest := layAllW_rest _ _ _ laid
  have walk' := on_mono walk (Q' := fun fin s' => ∃ f, fin = .done f ∧ ((c.Ends s args vs s₁ (.ok f) s' ∧ s'.os = s.os ∧ kept s'.heap) ∧ leftWithCleanup s'.gens = false)) (E' := fun e s' => (c.Ends s args vs s₁ (.error e) s' ∧ s'.os = s.os ∧ kept s'.heap) ∧ leftWithCleanup s'.gens = false)
    (fun fin s' ⟨f, e, a, b, d, k⟩ => ⟨f, e, ⟨a, b, k⟩, leftWithCleanup_false_of_bare d⟩) (fun e s' ⟨a, b, d, k⟩ => ⟨⟨a, b, k⟩, leftWithCleanup_false_of_bare d⟩)
  obtain ⟨n, r, s', s'', ran, sched, same, ⟨ends, os, kp⟩⟩ := ends_on (R := fun r s' => c.Ends s args vs s₁ r s' ∧ s'.os = s.os ∧ kept s'.heap) (Shared.asleep_of_life rest.2.2.2 hz) walk'
  obtain ⟨eh, _, _, eo, _⟩ := Shared.forget_eq same
  have ends' := ends.congr eh
  have life : s'.heap.life = s.heap.life := (runN_life _ _ _ ran).trans rest.2.2.2
  refine ⟨vs, s₁, laid, n, _, s', sched, ?_, (fun _ i x hx => by rw [hgens] at hx; simp at hx), eh ▸ kp, by rw [life], Shared.rest_eq (eo ▸ os)⟩
  rcases ends' with ⟨v, rfl, d1, d2, d3, d4, d5⟩ | ⟨e, ob, cls, rfl, d1, d2, d3, d4, d5⟩
  · exact .inl ⟨v, rfl, d1, d2, d3, fun b o y _ => d4 b o y, d5⟩
  · exact .inr ⟨e, ob, cls, rfl, d1, d2, d3, d4, fun b o y _ => d5 b o y⟩
end Mine

end

/-! HQ -/
section
open PySem PySem.W PySem.Calls PyProof.Rows PyProof.V PySem.Spec
namespace Mine
/-- what an open row asks, from a walk for the stacks that hold the caller -/
theorem open_on {r : RowW} {run : Value → List Value → Sem Value} {tree : List Value → Sem Fin} {q : Program} {loose defs kps : List Str} {writes : Bool} {Xt : Shared → Bool} {XP : (Str → Option Value) → Heap → Prop} {α : Type} {Yf : Shared → α} {Ya : World → α} {YP : World → Heap → Prop} {N : Nat}
    (left : LeftO r.prog q loose Xt Yf Ya N) (hY : ∀ w s, Yf s = Ya w → YP w s.heap) (hYk : ∀ w h h', YP w h → (∀ b o, h.get? b = some o → h'.get? b = some o) → YP w h') (hX : ∀ s, Xt s = true → XP (s.heap.nsMap mainGlobals) s.heap) (hXk : ∀ mg h h', XP mg h → (∀ b o, h.get? b = some o → h'.get? b = some o) → XP mg h')
    (hRf : ∀ s, Xt s = true → RecFacts r.records s.heap) (hwr : (!writes || r.records.isEmpty) = true) (ok : (chainsOk q && opensWell r.prog && (frees r && r.within.isEmpty)) = true) (hb : r.prog.bare) (hw : r.promised)
    (ht : ∀ vs (w : World) (s : Shared) mg f (Q : Fin → Shared → Prop) (E : Value → Shared → Prop), s.heap.Ns mainGlobals mg → mg r.name = some f → wpOn (model r.prog w) callerA (run f vs) (fun v s' => Q (.done (.ret v)) s') E s → wpOn (model r.prog w) callerA (tree vs) Q E s)
    (pin : ∀ w s, s.heap.isNs mainGlobals = true → Ground q loose [] XP w s (s.heap.nsMap mainGlobals) (s.heap.nsMap builtinsNs) s.heap → ∀ n ∈ defs, isTheDefsW r.prog s.heap n)
    (call : ∀ (w : World) (s₀ s₁ : Shared) (mg mb : Str → Option Value), Ground q loose r.records XP w s₀ mg mb s₁.heap → YP w s₁.heap → ∀ (args : List WData) (vs : List Value) (as : List Addr),
      r.claim.pre args = true → WData.layableAll args = true → Laid r.records w s₀ s₁ args vs as → sysModules < s₀.heap.objs.size → ∃ f, mg r.name = some f ∧
        wpOn (model r.prog w) callerA (run f vs) (fun v s' => GoodWG r.claim (classAt s₀.heap) (ExcName.means s₀.heap) args s₁ (.ok (.ret v)) s')
          (fun e s' => GoodWG r.claim (classAt s₀.heap) (ExcName.means s₀.heap) args s₁ (.error e) s') s₁) : r.claim.HoldsOpenBy (fun vs => ⟨tree vs, .builtin "claim.caller" {}, default, []⟩) defs kps writes := by
  simp only [Bool.and_eq_true] at ok
  obtain ⟨⟨hch, o1⟩, k5, k6⟩ := ok
  obtain ⟨hsame, hu, ha, hap, hm⟩ := frees_parts k5
  refine ⟨⟨hb, o1, by show r.makers.map _ = []; rw [hm]; rfl⟩, hw.witness, fun w => ⟨(left.behind hX hch w).1, fun t ran => ?_⟩⟩
  obtain ⟨s₀, fence, g0, s, top, sleeps, nogens, names, G, y⟩ := (left.behind (XP := fun mg h => XP mg h ∧ RecFacts r.records h) (fun s hs => ⟨hX s hs, hRf s hs⟩) hch w).2 t ran
  have RF := G.X.2
  have G' : Ground q loose [] XP w s (s.heap.nsMap mainGlobals) (s.heap.nsMap builtinsNs) s.heap := { G with X := G.X.1 }
  have none : s.gens = #[] := Array.eq_empty_of_size_eq_zero (beq_iff_eq.mp nogens)
  have GR : Ground q loose r.records XP w s _ _ s.heap := RF.ground G'
  refine ⟨s₀, fence, g0, s, top, pin w s names G', RF.1, RF.2.1, callFrom_on (c := r.claim) sleeps none fun args hp hl ord ho => ?_⟩
  obtain ⟨⟨vs, s₁⟩, laid⟩ := Option.isSome_iff_exists.mp (layAllW_isSome (P := w.params) (ord := ord) GR.has args r.args s (pre_splitW hp).1)
  have keeps := layAllW_keeps _ _ _ laid
  have rest := layAllW_rest _ _ _ laid
  obtain ⟨as, rd, inn, old⟩ := reads_layAllW ho _ _ _ laid hl s₁.heap (fun _ _ e => e)
  have L : Laid r.records w s s₁ args vs as := ⟨⟨ord, ho, laid⟩, rd, inn, old, keeps, rest.1.trans none, rest.2.2.1⟩
  have G₁ := GR.keeps hXk keeps
  obtain ⟨f, hf, walk⟩ := call w s s₁ _ _ G₁ (hYk _ _ _ (hY w s y) keeps) args vs as hp hl L GR.low
  have fit : ∀ res s', GoodWG r.claim (classAt s.heap) (ExcName.means s.heap) args s₁ res s' → _ := fun res s' g => g.laid (c := r.claim) hsame (List.isEmpty_iff.mp k6) (ident_freeW hu ha hap) L
  exact ⟨vs, s₁, laid, ht vs w s₁ _ f _ _ G₁.T.g hf (on_mono walk
    (fun v s' g => ⟨_, rfl, (fit _ _ g).1, (fit _ _ g).2.1, (fit _ _ g).2.2, fun z => ⟨namesKept_of top names kps keeps g.2.1.old, noTable hwr z⟩⟩)
    (fun e s' g => ⟨(fit _ _ g).1, (fit _ _ g).2.1, (fit _ _ g).2.2, fun z => ⟨namesKept_of top names kps keeps g.2.1.old, noTable hwr z⟩⟩))⟩
end Mine

end

/-! HR -/
section
open PySem PySem.W PySem.Calls PyProof.Rows PyProof.V PySem.Spec
namespace Mine
/-! the head of an open row, its walk asked for the stacks that hold the claim's caller -/
abbrev WalkOn (q : Program) (loose : List Str) (XP : (Str → Option Value) → Heap → Prop) (YP : World → Heap → Prop) (r : RowW) (d : DefRec) (kwd : List (Str × Expr)) (run : Value → List Value → Sem Value) : Prop :=
  ∀ (w : World) (s₀ s₁ : Shared) (mg mb : Str → Option Value), Ground q loose r.records XP w s₀ mg mb s₁.heap → YP w s₁.heap → ∀ (a : Addr) (o : Obj) (pm cd doc dV kV : Value), s₁.heap.get? a = some o →
    o.data = .func { docDef d.name d.params d.body d.scope pm cd doc with defaults := dV, kwdefaults := kV } → s₁.heap.CodeRec cd d.name → Dflts mg s₁.heap d.params kwd dV kV → mg d.name = some (.ref a) → s₁.gens = #[] →
    ∀ (args : List WData) (vals : List Value) (as : List Addr), r.claim.pre args = true → WData.layableAll args = true → ReadsAllW r.records (classAt s₀.heap) s₁.heap vals args as → WellAll w.params s₁.heap vals args → (∀ a ∈ as, (a == sysModules) = false) →
      wpOn (model r.prog w) callerA (run (.ref a) vals) (fun v s' => GoodWG r.claim (classAt s₀.heap) (ExcName.means s₀.heap) args s₁ (.ok (.ret v)) s')
        (fun e s' => GoodWG r.claim (classAt s₀.heap) (ExcName.means s₀.heap) args s₁ (.error e) s') s₁
theorem PySem.W.holds_open {r : OpenRow} {q : Program} {loose : List Str} {Xt : Shared → Bool} {XP : (Str → Option Value) → Heap → Prop} {α : Type} {Yf : Shared → α} {Ya : World → α} {YP : World → Heap → Prop} {d : DefRec} {kwd : List (Str × Expr)} {N : Nat}
    (left : LeftO r.prog q loose Xt Yf Ya N) (hY : ∀ w s, Yf s = Ya w → YP w s.heap) (hYk : ∀ w h h', YP w h → (∀ b o, h.get? b = some o → h'.get? b = some o) → YP w h')
    (hX : ∀ s, Xt s = true → XP (s.heap.nsMap mainGlobals) s.heap) (hXk : ∀ mg h h', XP mg h → (∀ b o, h.get? b = some o → h'.get? b = some o) → XP mg h')
    (hdef : defOf q r.name = some (d, kwd)) (hp : r.prog.theDef r.name = some (d.params, d.body, d.scope)) (hk : kwWritten? d.params.kwonlyargs d.params.kw_defaults = some kwd) (hRf : ∀ s, Xt s = true → RecFacts r.records s.heap) (hwr : (!r.writes || r.records.isEmpty) = true)
    (k1 : r.wellSaid = true) (ok : (chainsOk q && opensWell r.prog && (frees r.toRowW && r.within.isEmpty)) = true) (hb : r.prog.bare) (hw : r.toRowW.promised)
    (call : WalkOn q loose XP YP r.toRowW d kwd fun f vs => PySem.call f vs) : r.Holds := by
  refine ⟨k1, hw, open_on (r := r.toRowW) (run := fun f vs => PySem.call f vs) (tree := fun vs => do match ← nsGet mainNs r.name with
      | some f => do ret (← PySem.call f vs)
      | none => unsupported "claim.caller:no-such-global") left hY hYk hX hXk hRf hwr ok hb hw
    (fun vs w s mg f Q E hg hf h => on_bind (on_any (wpAny_nsGet hg (by rw [hf]; exact on_bind (on_mono h (fun _ _ x => on_pure x) fun _ _ x => x)))))
    (fun w s hg G n hn => ?_) fun w s₀ s₁ mg mb G Y args vs as hpre hlay L low => ?_⟩
  · obtain rfl : n = r.name := by split at hn <;> simp_all
    exact pinned_of_view hg G hdef hp hk
  · obtain ⟨a, o, pm, cd, doc, dV, kV, h1, h2, h3, h4, h5⟩ := G.fn hdef
    exact ⟨.ref a, h1, call w s₀ s₁ mg mb G Y a o pm cd doc dV kV h2 h3 h4 h5 (defOf_name hdef ▸ h1) L.gens args vs as hpre hlay L.reads L.well (L.low low)⟩
section
variable {prog : Program} {w : World} {A : Around} {s : Shared} {R : Result → Shared → Prop}
theorem codeOn_func {body : List Stmt} {env : Env}
    (h : wpOn (model prog w) (A.deeper env) (execs body env) (fun f s' => R (.ok (.ret (match f with | .ret v => v | _ => .none))) s')
      (fun e s' => wpAny (model prog w) (A.deeper env) (leaving env e) (fun _ s'' => R (.error e) s'') (fun e' s'' => R (.error e') s'') s') s) :
    codeOn (model prog w) A (.func body env) R s := by
  refine codeOn_of_tree ?_
  show wpOn _ (A.deeper env) (do point; match ← (execs body env).onRaise (leaving env) with | .ret v => ret v | _ => ret .none) _ _ s
  refine on_bind (on_any (wpAny_point (on_bind (on_onRaise (on_mono h (fun f s' h' => ?_) fun _ _ h' => h')))))
  cases f <;> exact on_pure h'
theorem call_fullO {name : Str} {params : Arguments} {body : List Stmt} {scope : Scope} {dV kV pm cd doc : Value} {a : Addr} {o : Obj} {args : Args} {binds : List (Str × Value)}
    (hroom : A.depth < recursionLimit) (ho : s.heap.get? a = some o) (hdata : o.data = .func { docDef name params body scope pm cd doc with defaults := dV, kwdefaults := kV }) (hlim : s.heap.NoLimit) (hcd : s.heap.CodeRec cd name)
    (hbind : BindsTo s { docDef name params body scope pm cd doc with defaults := dV, kwdefaults := kV } args binds)
    (hloc : ∀ x ∈ binds, scope.names.lookup x.1 = some .local)
    (h : ∀ h₁, Fr s.heap s.heap.objs.size h₁ (fun x => binds.reverse.lookup x) →
      wpOn (model prog w) (A.deeper (envOf name scope s.heap.objs.size a cd)) (execs body (envOf name scope s.heap.objs.size a cd))
        (fun f s' => R (.ok (.ret (match f with | .ret v => v | _ => .none))) s')
        (fun e s' => wpAny (model prog w) (A.deeper (envOf name scope s.heap.objs.size a cd)) (leaving (envOf name scope s.heap.objs.size a cd) e)
          (fun _ s'' => R (.error e) s'') (fun e' s'' => R (.error e') s'') s')
        { s with heap := h₁, toks := s.toks + binds.length })
    (hco : scope.isCoroutine = false := by rfl) (hgen : scope.isGenerator = false := by rfl) (hk : scope.kind = .function := by rfl)
    (hcell : ∀ x ∈ scope.names, x.2 ≠ .cell := by decide) :
    codeOn (model prog w) A (.call (.ref a) args) R s := by
  refine codeOn_of_tree ?_
  show wpOn _ A.in1 (callAny (.ref a) args) _ _ s
  simp only [callAny]
  refine on_bind (on_any (wpAny_load ho ?_))
  obtain ⟨c, oc, vs, tq, hc, hoc, hdc, hq⟩ := hcd
  simp only [hdata, callFunction]
  obtain rfl : cd = .ref c := hc
  have e1 : (docDef name params body scope pm (.ref c) doc).scope.isCoroutine = false := hco
  have e2 : (docDef name params body scope pm (.ref c) doc).scope.isGenerator = false := hgen
  have e3 : (docDef name params body scope pm (.ref c) doc).body = .stmts body := rfl
  have e4 : (docDef name params body scope pm (.ref c) doc).code = .ref c := rfl
  simp only [e1, e2, e3, e4]
  refine on_bind (m := field (.ref c) 1) (on_any (wpAny_field hoc hdc hq (on_bind (on_pure ?_))))
  refine on_bind (on_any (hbind _ _ _ _ (on_bind (on_any ?_))))
  refine wpAny_newFunctionEnv hcell hloc (fun h₀ hns₀ hsb₀ => ?_) hk
  have keep : ∀ b o, s.heap.get? b = some o → h₀.get? b = some o := fun b o e => hsb₀.extBut b o (Nat.ne_of_lt (Heap.lt_size e)) (Heap.get?_push_of_some _ e)
  refine on_bind (on_any (wpAny_enterFrame (hlim.fresh _ hsb₀) hroom (on_pure (And.intro rfl (codeOn_func ?_)))))
  exact h h₀ ⟨hns₀, keep, Nat.le_refl _⟩
theorem enter_callO {M : Model} {f : Value} {pos : List Value} {kw : List (Str × Value)} {c : ClaimW} {cl : Str → Option Addr} {mean : ExcName → Option Value} {args : List WData} {s₁ : Shared}
    (h : codeOn M A (.call f ⟨pos, kw⟩) (GoodWG c cl mean args s₁) s) : wpOn M A (PySem.call f pos kw) (fun v s' => GoodWG c cl mean args s₁ (.ok (.ret v)) s') (fun e s' => GoodWG c cl mean args s₁ (.error e) s') s :=
  on_call (codeOn_mono h fun res s' g => by rcases g.1 with ⟨v, _, _, rfl, _⟩ | ⟨e, _, _, rfl, _⟩ <;> exact g)
end
end Mine

end

/-! the head -/
namespace Mine
set_option maxHeartbeats 8000000 in
open_top hd for PySem.Challenge.rw_dn0159_08
end Mine

/-! H8 -/
section
open PySem PySem.W PyProof.Rows
namespace Mine
/-! 08: the fragment without the statics -/
noncomputable def K8 : Params → Frag := by
  intro P
  refine' (fun (K : Frag) (_ : hd.heap_39 P = _ :: K) => K) _ _
  all_goals try (delta hd.heap_39; exact rfl)
theorem k8_tail (P : Params) : K8 P = (hd.heap_39 P).tail := by rfl
theorem k8_no (P : Params) : (K8 P).lookup cStatics = none := by kernel_rfl
theorem tail_in {K : Frag} {h : Heap} (X : K.In h) (h2 : K.tail.lookup cStatics = none) (h1 : K.head?.map (·.1) = some cStatics) : Frag.In K.tail h := fun a o e => X a o (by
  cases K with
  | nil => cases h1
  | cons p r =>
    obtain ⟨b, x⟩ := p
    have hb : b = cStatics := by simpa using h1
    subst hb
    have e' : List.lookup a r = some o := e
    have h2' : List.lookup cStatics r = none := h2
    rw [List.lookup_cons]
    by_cases q : a = cStatics
    · rw [q, h2'] at e'; cases e'
    · rw [show (a == cStatics) = false from beq_false_of_ne q]
      exact e')
theorem k8_in {P : Params} {h : Heap} (X : (hd.heap_39 P).In h) : (K8 P).In h := by
  rw [k8_tail]
  exact tail_in X (by rw [← k8_tail]; exact k8_no P) (by kernel_rfl)
end Mine

end

/-! W08 -/
section
open PySem PySem.W PyProof.Rows
set_option maxHeartbeats 3000000
namespace Mine
theorem init_end {h₀ h : Heap} {L L' e d t t0 : Addr} {m m' : Str → Option Value} {oe oe0 od ot o0 oL : Obj} {news : List (Addr × Obj)} (Cl : TI.Caller h₀ L m' oL) (F : Fr h₀ L' h m) (N : News h₀ L' h ((t, ot) :: (d, od) :: (e, oe) :: (t0, o0) :: (L, oL) :: news))
    (l1 : d < t ∧ e < t ∧ t0 < t ∧ L < t ∧ AllLt t news) (of' : ∀ p ∈ (t0, o0) :: (L, oL) :: news, p.1 ≠ d) (tiE : ∀ p ∈ (e, oe0) :: (t0, o0) :: news, p.1 ≠ L) :
    (∀ p ∈ news, p.1 ≠ d) ∧ Fr h₀ L h m' ∧ News h₀ L h ((t, ot) :: (d, od) :: (e, oe) :: (t0, o0) :: news) := by
  refine ⟨fun p hp => of' p (.tail _ (.tail _ hp)), ?_⟩
  refine leave_any (sl := oL.slots) Cl F N (.tail _ (.tail _ (.tail _ (.tail _ (.head _))))) fun p hp => ?_
  rcases List.mem_cons.mp hp with rfl | hp
  · exact ⟨.head _, Nat.ne_of_gt l1.2.2.2.1⟩
  rcases List.mem_cons.mp hp with rfl | hp
  · exact ⟨.tail _ (.head _), Ne.symm (of' _ (.tail _ (.head _)))⟩
  rcases List.mem_cons.mp hp with rfl | hp
  · exact ⟨.tail _ (.tail _ (.head _)), tiE (e, oe0) (.head _)⟩
  rcases List.mem_cons.mp hp with rfl | hp
  · exact ⟨.tail _ (.tail _ (.tail _ (.head _))), tiE _ (.tail _ (.head _))⟩
  · exact ⟨.tail _ (.tail _ (.tail _ (.tail _ (.tail _ hp)))), tiE _ (.tail _ (.tail _ hp))⟩
theorem w_tc (C : Addr) (rest : List Value) (kw : List (Str × Value)) : (Code.builtin "type.__call__" ⟨.ref C :: rest, kw⟩).weight = 1 := by kernel_rfl
theorem tc_room {dp un : Nat} {gd : Option (List Code)} {cn : Str} {cs : Scope} {L a C : Addr} {ccd : Value} {rest : List Value} (h : dp + 1 < 800) : ((ktrTop dp un gd cn cs L a ccd [] []).under (.builtin "type.__call__" ⟨.ref C :: rest, []⟩)).depth < recursionLimit := by
  show dp + (Code.builtin "type.__call__" ⟨.ref C :: rest, []⟩).weight < 1000
  rw [w_tc]; omega
theorem attrs_reply {od : Obj} {v1 v2 : Value} (ho : NsObj od (fun y => if y = Str.ofString "smtp_error" then some v2 else if y = Str.ofString "smtp_code" then some v1 else none)) : Attrs od (some v1) (some v2) none none := ⟨by rw [ho.look]; rw [if_neg (by decide)]; rw [if_pos rfl], by rw [ho.look]; rw [if_pos rfl], by rw [ho.look]; rw [if_neg (by decide)]; rw [if_neg (by decide)], by rw [ho.look]; rw [if_neg (by decide)]; rw [if_neg (by decide)]⟩
theorem init_reply (w : World) (mean : ExcName → Option Value) (mg mb : Str → Option Value) (loose : List Str) (C e t0 : Addr) (v1 v2 : Value) (news : List (Addr × Obj)) (dp un : Nat) (gd : Option (List Code)) (cn : Str) (cs : Scope) (a : Addr) (ccd : Value) (h₀ : Heap) (L : Addr) (m : Str → Option Value) (s : Shared) (R : Result → Shared → Prop)
    (F : Fr h₀ L s.heap m) (X : (K8 w.params).In h₀) (N : News h₀ L s.heap ((e, blankObj C t0) :: (t0, tupObj []) :: news)) (T : Top hd.view_39 loose mean mg mb h₀) (hk : cs.kind = .function) (hdp : dp + 1 < 800)
    (hS : ErrSet (K8 w.params) C) (off : ∀ p ∈ (t0, tupObj []) :: news, p.1 ≠ e)
    (hret : ∀ d t oe od h' tk, ErrObj C d t oe → TbNone oe → Attrs od (some v1) (some v2) none none → Fr h₀ L h' m → News h₀ L h' ((t, tupObj [v1, v2]) :: (d, od) :: (e, oe) :: (t0, tupObj []) :: news) → d < t → e < t → e ≠ d → (∀ p ∈ news, p.1 ≠ d) → AllLt t news → R (.ok (.ret .none)) { s with heap := h', toks := tk }) :
    codeAny (model PySem.Challenge.rw_dn0159_08.row.prog w) ((ktrTop dp un gd cn cs L a ccd [] []).under (.builtin "type.__call__" ⟨.ref C :: [v1, v2], []⟩)) (.call (.ref 41) ⟨[.ref e, v1, v2], []⟩) R s := by
  w_top off
  revert X hS; k_fill; intro X hS
  have kMark : KstMark := kstMark
  refine TLgL.code_def F X N T (by rfl) (by k_is) (by k_is) (tc_room hdp) (by first | exact binds_K (by k_in) rfl (by k_is) rfl rfl rfl | exact BindsTo.of_eq rfl) (locs rfl) ?_ hk
  intro oL h₁ tiC tiF tiE F' N'
  have N'' : News h₀ s.heap.objs.size h₁ ((e, blankObj C t0) :: (t0, tupObj []) :: (L, oL) :: news) := fun p hp => N' p (by
    rcases List.mem_cons.mp hp with rfl | hp
    · exact .head _
    rcases List.mem_cons.mp hp with rfl | hp
    · exact .tail _ (.head _)
    rcases List.mem_cons.mp hp with rfl | hp
    · exact List.mem_append.mpr (.inr (.head _))
    · exact List.mem_append.mpr (.inl (.tail _ (.tail _ hp))))
  have off' : ∀ p ∈ (t0, tupObj []) :: (L, oL) :: news, p.1 ≠ e := fun p hp => by
    rcases List.mem_cons.mp hp with rfl | hp
    · exact off _ (.head _)
    rcases List.mem_cons.mp hp with rfl | hp
    · exact Ne.symm (tiE _ (.head _))
    · exact off _ (.tail _ hp)
  clear N' N F
  repeat' (first
    | (k_unfold; (try dsimp only))
    | (k_here; (with_reducible show wpAny _ _ (setAttr (Value.ref _) _ _) _ _ _); (rename Fr _ _ _ _ => lF'); (rename News _ _ _ _ => lN'); (with_reducible rename ErrSet _ _ => hS); k_dflt (first | ((with_reducible show wpAny _ _ (setAttr (Value.ref _) (Str.ofString "args") (Value.ref _)) _ _ _); refine' set_args_K lF' ?x0_kX lN' hS rfl rfl rfl rfl ?x0_ne ?x0_off ?_; (case x0_kX => k_asm); (case x0_ne => assumption); (case x0_off => assumption); clear lF' lN'; intro h' tk' F' N') | (refine' set_first lF' ?x0_kX lN' hS rfl rfl rfl ?x0_off ?x0_nm ?_; (case x0_kX => k_asm); (case x0_off => assumption); (case x0_nm => first | exact en1 | exact en2 | exact en3 | exact en4); clear lF' lN'; intro h' d' od' tk' ho' F' N' ne' of') | ((with_reducible rename NsObj _ _ => hNs); refine' set_next lF' ?x0_kX lN' hS rfl rfl rfl ?x0_ne ?x0_off hNs ?x0_wi ?x0_sz ?x0_nm ?_; (case x0_kX => k_asm); (case x0_ne => assumption); (case x0_off => assumption); (case x0_wi => first | exact within_1 | exact within_2); (case x0_sz => exact Nat.le_of_ble_eq_true rfl); (case x0_nm => first | exact en1 | exact en2 | exact en3 | exact en4); clear hNs lF' lN'; intro h' od' tk' ho' F' N')))
    | (k_end; kc_close) | walk1 | (dsimp only; walk1) | (leave1; (try dsimp only)) | fail "no step")
  rename (_ < _ ∧ _ < _ ∧ _ < _ ∧ _ < _ ∧ AllLt _ _) => l1
  rename NsObj _ _ => hNs
  rename (_ ≠ _) => hne
  obtain ⟨nd, F2, N2⟩ := init_end tiC (by assumption) (by assumption) l1 (by assumption) tiE
  exact hret _ _ _ _ _ _ ⟨rfl, rfl, _, rfl, rfl⟩ ⟨_, rfl, rfl⟩ (attrs_reply hNs) F2 N2 l1.1 l1.2.1 hne nd l1.2.2.2.2
theorem attrs_sender {od : Obj} {v1 v2 v3 : Value} (ho : NsObj od (fun y => if y = Str.ofString "sender" then some v3 else if y = Str.ofString "smtp_error" then some v2 else if y = Str.ofString "smtp_code" then some v1 else none)) : Attrs od (some v1) (some v2) (some v3) none := ⟨by rw [ho.look]; rw [if_neg (by decide)]; rw [if_neg (by decide)]; rw [if_pos rfl], by rw [ho.look]; rw [if_neg (by decide)]; rw [if_pos rfl], by rw [ho.look]; rw [if_pos rfl], by rw [ho.look]; rw [if_neg (by decide)]; rw [if_neg (by decide)]; rw [if_neg (by decide)]⟩
theorem init_sender (w : World) (mean : ExcName → Option Value) (mg mb : Str → Option Value) (loose : List Str) (C e t0 : Addr) (v1 v2 v3 : Value) (news : List (Addr × Obj)) (dp un : Nat) (gd : Option (List Code)) (cn : Str) (cs : Scope) (a : Addr) (ccd : Value) (h₀ : Heap) (L : Addr) (m : Str → Option Value) (s : Shared) (R : Result → Shared → Prop)
    (F : Fr h₀ L s.heap m) (X : (K8 w.params).In h₀) (N : News h₀ L s.heap ((e, blankObj C t0) :: (t0, tupObj []) :: news)) (T : Top hd.view_39 loose mean mg mb h₀) (hk : cs.kind = .function) (hdp : dp + 1 < 800)
    (hS : ErrSet (K8 w.params) C) (off : ∀ p ∈ (t0, tupObj []) :: news, p.1 ≠ e)
    (hret : ∀ d t oe od h' tk, ErrObj C d t oe → TbNone oe → Attrs od (some v1) (some v2) (some v3) none → Fr h₀ L h' m → News h₀ L h' ((t, tupObj [v1, v2, v3]) :: (d, od) :: (e, oe) :: (t0, tupObj []) :: news) → d < t → e < t → e ≠ d → (∀ p ∈ news, p.1 ≠ d) → AllLt t news → R (.ok (.ret .none)) { s with heap := h', toks := tk }) :
    codeAny (model PySem.Challenge.rw_dn0159_08.row.prog w) ((ktrTop dp un gd cn cs L a ccd [] []).under (.builtin "type.__call__" ⟨.ref C :: [v1, v2, v3], []⟩)) (.call (.ref 60) ⟨[.ref e, v1, v2, v3], []⟩) R s := by
  w_top off
  revert X hS; k_fill; intro X hS
  have kMark : KstMark := kstMark
  refine TLgL.code_def F X N T (by rfl) (by k_is) (by k_is) (tc_room hdp) (by first | exact binds_K (by k_in) rfl (by k_is) rfl rfl rfl | exact BindsTo.of_eq rfl) (locs rfl) ?_ hk
  intro oL h₁ tiC tiF tiE F' N'
  have N'' : News h₀ s.heap.objs.size h₁ ((e, blankObj C t0) :: (t0, tupObj []) :: (L, oL) :: news) := fun p hp => N' p (by
    rcases List.mem_cons.mp hp with rfl | hp
    · exact .head _
    rcases List.mem_cons.mp hp with rfl | hp
    · exact .tail _ (.head _)
    rcases List.mem_cons.mp hp with rfl | hp
    · exact List.mem_append.mpr (.inr (.head _))
    · exact List.mem_append.mpr (.inl (.tail _ (.tail _ hp))))
  have off' : ∀ p ∈ (t0, tupObj []) :: (L, oL) :: news, p.1 ≠ e := fun p hp => by
    rcases List.mem_cons.mp hp with rfl | hp
    · exact off _ (.head _)
    rcases List.mem_cons.mp hp with rfl | hp
    · exact Ne.symm (tiE _ (.head _))
    · exact off _ (.tail _ hp)
  clear N' N F
  repeat' (first
    | (k_unfold; (try dsimp only))
    | (k_here; (with_reducible show wpAny _ _ (setAttr (Value.ref _) _ _) _ _ _); (rename Fr _ _ _ _ => lF'); (rename News _ _ _ _ => lN'); (with_reducible rename ErrSet _ _ => hS); k_dflt (first | ((with_reducible show wpAny _ _ (setAttr (Value.ref _) (Str.ofString "args") (Value.ref _)) _ _ _); refine' set_args_K lF' ?x0_kX lN' hS rfl rfl rfl rfl ?x0_ne ?x0_off ?_; (case x0_kX => k_asm); (case x0_ne => assumption); (case x0_off => assumption); clear lF' lN'; intro h' tk' F' N') | (refine' set_first lF' ?x0_kX lN' hS rfl rfl rfl ?x0_off ?x0_nm ?_; (case x0_kX => k_asm); (case x0_off => assumption); (case x0_nm => first | exact en1 | exact en2 | exact en3 | exact en4); clear lF' lN'; intro h' d' od' tk' ho' F' N' ne' of') | ((with_reducible rename NsObj _ _ => hNs); refine' set_next lF' ?x0_kX lN' hS rfl rfl rfl ?x0_ne ?x0_off hNs ?x0_wi ?x0_sz ?x0_nm ?_; (case x0_kX => k_asm); (case x0_ne => assumption); (case x0_off => assumption); (case x0_wi => first | exact within_1 | exact within_2); (case x0_sz => exact Nat.le_of_ble_eq_true rfl); (case x0_nm => first | exact en1 | exact en2 | exact en3 | exact en4); clear hNs lF' lN'; intro h' od' tk' ho' F' N')))
    | (k_end; kc_close) | walk1 | (dsimp only; walk1) | (leave1; (try dsimp only)) | fail "no step")
  rename (_ < _ ∧ _ < _ ∧ _ < _ ∧ _ < _ ∧ AllLt _ _) => l1
  rename NsObj _ _ => hNs
  rename (_ ≠ _) => hne
  obtain ⟨nd, F2, N2⟩ := init_end tiC (by assumption) (by assumption) l1 (by assumption) tiE
  exact hret _ _ _ _ _ _ ⟨rfl, rfl, _, rfl, rfl⟩ ⟨_, rfl, rfl⟩ (attrs_sender hNs) F2 N2 l1.1 l1.2.1 hne nd l1.2.2.2.2
theorem attrs_rcpt {od : Obj} {v1 : Value} (ho : NsObj od (fun y => if y = Str.ofString "recipients" then some v1 else none)) : Attrs od none none none (some v1) := ⟨by rw [ho.look]; rw [if_neg (by decide)], by rw [ho.look]; rw [if_neg (by decide)], by rw [ho.look]; rw [if_neg (by decide)], by rw [ho.look]; rw [if_pos rfl]⟩
theorem init_rcpt (w : World) (mean : ExcName → Option Value) (mg mb : Str → Option Value) (loose : List Str) (C e t0 : Addr) (v1 : Value) (news : List (Addr × Obj)) (dp un : Nat) (gd : Option (List Code)) (cn : Str) (cs : Scope) (a : Addr) (ccd : Value) (h₀ : Heap) (L : Addr) (m : Str → Option Value) (s : Shared) (R : Result → Shared → Prop)
    (F : Fr h₀ L s.heap m) (X : (K8 w.params).In h₀) (N : News h₀ L s.heap ((e, blankObj C t0) :: (t0, tupObj []) :: news)) (T : Top hd.view_39 loose mean mg mb h₀) (hk : cs.kind = .function) (hdp : dp + 1 < 800)
    (hS : ErrSet (K8 w.params) C) (off : ∀ p ∈ (t0, tupObj []) :: news, p.1 ≠ e)
    (hret : ∀ d t oe od h' tk, ErrObj C d t oe → TbNone oe → Attrs od none none none (some v1) → Fr h₀ L h' m → News h₀ L h' ((t, tupObj [v1]) :: (d, od) :: (e, oe) :: (t0, tupObj []) :: news) → d < t → e < t → e ≠ d → (∀ p ∈ news, p.1 ≠ d) → AllLt t news → R (.ok (.ret .none)) { s with heap := h', toks := tk }) :
    codeAny (model PySem.Challenge.rw_dn0159_08.row.prog w) ((ktrTop dp un gd cn cs L a ccd [] []).under (.builtin "type.__call__" ⟨.ref C :: [v1], []⟩)) (.call (.ref 79) ⟨[.ref e, v1], []⟩) R s := by
  w_top off
  revert X hS; k_fill; intro X hS
  have kMark : KstMark := kstMark
  refine TLgL.code_def F X N T (by rfl) (by k_is) (by k_is) (tc_room hdp) (by first | exact binds_K (by k_in) rfl (by k_is) rfl rfl rfl | exact BindsTo.of_eq rfl) (locs rfl) ?_ hk
  intro oL h₁ tiC tiF tiE F' N'
  have N'' : News h₀ s.heap.objs.size h₁ ((e, blankObj C t0) :: (t0, tupObj []) :: (L, oL) :: news) := fun p hp => N' p (by
    rcases List.mem_cons.mp hp with rfl | hp
    · exact .head _
    rcases List.mem_cons.mp hp with rfl | hp
    · exact .tail _ (.head _)
    rcases List.mem_cons.mp hp with rfl | hp
    · exact List.mem_append.mpr (.inr (.head _))
    · exact List.mem_append.mpr (.inl (.tail _ (.tail _ hp))))
  have off' : ∀ p ∈ (t0, tupObj []) :: (L, oL) :: news, p.1 ≠ e := fun p hp => by
    rcases List.mem_cons.mp hp with rfl | hp
    · exact off _ (.head _)
    rcases List.mem_cons.mp hp with rfl | hp
    · exact Ne.symm (tiE _ (.head _))
    · exact off _ (.tail _ hp)
  clear N' N F
  repeat' (first
    | (k_unfold; (try dsimp only))
    | (k_here; (with_reducible show wpAny _ _ (setAttr (Value.ref _) _ _) _ _ _); (rename Fr _ _ _ _ => lF'); (rename News _ _ _ _ => lN'); (with_reducible rename ErrSet _ _ => hS); k_dflt (first | ((with_reducible show wpAny _ _ (setAttr (Value.ref _) (Str.ofString "args") (Value.ref _)) _ _ _); refine' set_args_K lF' ?x0_kX lN' hS rfl rfl rfl rfl ?x0_ne ?x0_off ?_; (case x0_kX => k_asm); (case x0_ne => assumption); (case x0_off => assumption); clear lF' lN'; intro h' tk' F' N') | (refine' set_first lF' ?x0_kX lN' hS rfl rfl rfl ?x0_off ?x0_nm ?_; (case x0_kX => k_asm); (case x0_off => assumption); (case x0_nm => first | exact en1 | exact en2 | exact en3 | exact en4); clear lF' lN'; intro h' d' od' tk' ho' F' N' ne' of') | ((with_reducible rename NsObj _ _ => hNs); refine' set_next lF' ?x0_kX lN' hS rfl rfl rfl ?x0_ne ?x0_off hNs ?x0_wi ?x0_sz ?x0_nm ?_; (case x0_kX => k_asm); (case x0_ne => assumption); (case x0_off => assumption); (case x0_wi => first | exact within_1 | exact within_2); (case x0_sz => exact Nat.le_of_ble_eq_true rfl); (case x0_nm => first | exact en1 | exact en2 | exact en3 | exact en4); clear hNs lF' lN'; intro h' od' tk' ho' F' N')))
    | (k_end; kc_close) | walk1 | (dsimp only; walk1) | (leave1; (try dsimp only)) | fail "no step")
  rename (_ < _ ∧ _ < _ ∧ _ < _ ∧ _ < _ ∧ AllLt _ _) => l1
  rename NsObj _ _ => hNs
  rename (_ ≠ _) => hne
  obtain ⟨nd, F2, N2⟩ := init_end tiC (by assumption) (by assumption) l1 (by assumption) tiE
  exact hret _ _ _ _ _ _ ⟨rfl, rfl, _, rfl, rfl⟩ ⟨_, rfl, rfl⟩ (attrs_rcpt hNs) F2 N2 l1.1 l1.2.1 hne nd l1.2.2.2.2
end Mine

end

/-! M8 -/
section
open PySem PySem.W PyProof.Rows
namespace Mine
/-! 08: a class called with things of any count -/
theorem fn41 (P : Params) : typeIn (K8 P) (.ref 41) = some (.type "function") := by kernel_rfl
theorem fn60 (P : Params) : typeIn (K8 P) (.ref 60) = some (.type "function") := by kernel_rfl
theorem fn79 (P : Params) : typeIn (K8 P) (.ref 79) = some (.type "function") := by kernel_rfl
theorem set44 (P : Params) : ErrSet (K8 P) 44 := errSet_of [44, 24] (by kernel_rfl)
theorem mk44 (P : Params) : errMakes (K8 P) 44 = true := by kernel_rfl
theorem in44 (P : Params) : findIn (K8 P) (.ref 44) "__init__" = some (some (.ref 41)) := by kernel_rfl
theorem ec44 (P : Params) : ErrCls (K8 P) 44 := errCls_of (by kernel_rfl)
theorem set94 (P : Params) : ErrSet (K8 P) 94 := errSet_of [94, 44, 24] (by kernel_rfl)
theorem mk94 (P : Params) : errMakes (K8 P) 94 = true := by kernel_rfl
theorem in94 (P : Params) : findIn (K8 P) (.ref 94) "__init__" = some (some (.ref 41)) := by kernel_rfl
theorem ec94 (P : Params) : ErrCls (K8 P) 94 := errCls_of (by kernel_rfl)
theorem set106 (P : Params) : ErrSet (K8 P) 106 := errSet_of [106, 44, 24] (by kernel_rfl)
theorem mk106 (P : Params) : errMakes (K8 P) 106 = true := by kernel_rfl
theorem in106 (P : Params) : findIn (K8 P) (.ref 106) "__init__" = some (some (.ref 41)) := by kernel_rfl
theorem ec106 (P : Params) : ErrCls (K8 P) 106 := errCls_of (by kernel_rfl)
theorem set118 (P : Params) : ErrSet (K8 P) 118 := errSet_of [118, 44, 24] (by kernel_rfl)
theorem mk118 (P : Params) : errMakes (K8 P) 118 = true := by kernel_rfl
theorem in118 (P : Params) : findIn (K8 P) (.ref 118) "__init__" = some (some (.ref 41)) := by kernel_rfl
theorem ec118 (P : Params) : ErrCls (K8 P) 118 := errCls_of (by kernel_rfl)
theorem set130 (P : Params) : ErrSet (K8 P) 130 := errSet_of [130, 44, 24] (by kernel_rfl)
theorem mk130 (P : Params) : errMakes (K8 P) 130 = true := by kernel_rfl
theorem in130 (P : Params) : findIn (K8 P) (.ref 130) "__init__" = some (some (.ref 41)) := by kernel_rfl
theorem ec130 (P : Params) : ErrCls (K8 P) 130 := errCls_of (by kernel_rfl)
theorem set63 (P : Params) : ErrSet (K8 P) 63 := errSet_of [63, 44, 24] (by kernel_rfl)
theorem mk63 (P : Params) : errMakes (K8 P) 63 = true := by kernel_rfl
theorem in63 (P : Params) : findIn (K8 P) (.ref 63) "__init__" = some (some (.ref 60)) := by kernel_rfl
theorem ec63 (P : Params) : ErrCls (K8 P) 63 := errCls_of (by kernel_rfl)
theorem set82 (P : Params) : ErrSet (K8 P) 82 := errSet_of [82, 24] (by kernel_rfl)
theorem mk82 (P : Params) : errMakes (K8 P) 82 = true := by kernel_rfl
theorem in82 (P : Params) : findIn (K8 P) (.ref 82) "__init__" = some (some (.ref 79)) := by kernel_rfl
theorem ec82 (P : Params) : ErrCls (K8 P) 82 := errCls_of (by kernel_rfl)
section
variable (w : World) (mean : ExcName → Option Value) (mg mb : Str → Option Value) (loose : List Str) (C : Addr) (news : List (Addr × Obj)) (dp un : Nat) (gd : Option (List Code)) (cn : Str) (cs : Scope) (a : Addr) (ccd : Value) (h₀ : Heap) (L : Addr) (m : Str → Option Value) (s : Shared) (Q E : Value → Shared → Prop)
theorem make_reply (v1 v2 : Value) (F : Fr h₀ L s.heap m) (X : (K8 w.params).In h₀) (N : News h₀ L s.heap news) (T : Top hd.view_39 loose mean mg mb h₀) (hk : cs.kind = .function) (hdp : dp + 1 < 800) (hm : errMakes (K8 w.params) C = true) (hi : findIn (K8 w.params) (.ref C) "__init__" = some (some (.ref 41))) (hS : ErrSet (K8 w.params) C)
    (hret : ∀ e d t oe od h' tk, ErrObj C d t oe → TbNone oe → Attrs od (some v1) (some v2) none none → Fr h₀ L h' m → News h₀ L h' ((t, tupObj [v1, v2]) :: (d, od) :: (e, oe) :: news) → Apart3 e d t news → Q (.ref e) { s with heap := h', toks := tk }) :
    wpAny (model PySem.Challenge.rw_dn0159_08.row.prog w) (ktrTop dp un gd cn cs L a ccd [] []) (call (.ref C) [v1, v2]) Q E s := by
  refine make_err F N X hm hi (fn41 _) fun e t0 h' F' N' l0 le _ => ?_
  have offe : ∀ p ∈ news, p.1 ≠ e := fun p hp => Nat.ne_of_lt (Nat.lt_trans (l0 p hp) le)
  refine init_reply w mean mg mb loose C e t0 v1 v2 news dp un gd cn cs a ccd h₀ L m { s with heap := h' } _ F' X N' T hk hdp hS (fun p hp => ?_) fun d t oe od h'' tk o1 o2 o3 F2 N2 ldt let_ hne nd lt => ⟨rfl, hret e d t oe od h'' tk o1 o2 o3 F2 (fun p hp => N2 p ?_) ⟨Nat.ne_of_gt ldt, Nat.ne_of_gt let_, Ne.symm hne, offe, nd, fun p hp => Nat.ne_of_lt (allLt_off lt p hp)⟩⟩
  · rcases List.mem_cons.mp hp with rfl | hp
    · exact Nat.ne_of_lt le
    · exact offe p hp
  · rcases List.mem_cons.mp hp with rfl | hp
    · exact .head _
    rcases List.mem_cons.mp hp with rfl | hp
    · exact .tail _ (.head _)
    rcases List.mem_cons.mp hp with rfl | hp
    · exact .tail _ (.tail _ (.head _))
    · exact .tail _ (.tail _ (.tail _ (.tail _ hp)))
theorem make_sender (v1 v2 v3 : Value) (F : Fr h₀ L s.heap m) (X : (K8 w.params).In h₀) (N : News h₀ L s.heap news) (T : Top hd.view_39 loose mean mg mb h₀) (hk : cs.kind = .function) (hdp : dp + 1 < 800) (hm : errMakes (K8 w.params) C = true) (hi : findIn (K8 w.params) (.ref C) "__init__" = some (some (.ref 60))) (hS : ErrSet (K8 w.params) C)
    (hret : ∀ e d t oe od h' tk, ErrObj C d t oe → TbNone oe → Attrs od (some v1) (some v2) (some v3) none → Fr h₀ L h' m → News h₀ L h' ((t, tupObj [v1, v2, v3]) :: (d, od) :: (e, oe) :: news) → Apart3 e d t news → Q (.ref e) { s with heap := h', toks := tk }) :
    wpAny (model PySem.Challenge.rw_dn0159_08.row.prog w) (ktrTop dp un gd cn cs L a ccd [] []) (call (.ref C) [v1, v2, v3]) Q E s := by
  refine make_err F N X hm hi (fn60 _) fun e t0 h' F' N' l0 le _ => ?_
  have offe : ∀ p ∈ news, p.1 ≠ e := fun p hp => Nat.ne_of_lt (Nat.lt_trans (l0 p hp) le)
  refine init_sender w mean mg mb loose C e t0 v1 v2 v3 news dp un gd cn cs a ccd h₀ L m { s with heap := h' } _ F' X N' T hk hdp hS (fun p hp => ?_) fun d t oe od h'' tk o1 o2 o3 F2 N2 ldt let_ hne nd lt => ⟨rfl, hret e d t oe od h'' tk o1 o2 o3 F2 (fun p hp => N2 p ?_) ⟨Nat.ne_of_gt ldt, Nat.ne_of_gt let_, Ne.symm hne, offe, nd, fun p hp => Nat.ne_of_lt (allLt_off lt p hp)⟩⟩
  · rcases List.mem_cons.mp hp with rfl | hp
    · exact Nat.ne_of_lt le
    · exact offe p hp
  · rcases List.mem_cons.mp hp with rfl | hp
    · exact .head _
    rcases List.mem_cons.mp hp with rfl | hp
    · exact .tail _ (.head _)
    rcases List.mem_cons.mp hp with rfl | hp
    · exact .tail _ (.tail _ (.head _))
    · exact .tail _ (.tail _ (.tail _ (.tail _ hp)))
theorem make_rcpt (v1 : Value) (F : Fr h₀ L s.heap m) (X : (K8 w.params).In h₀) (N : News h₀ L s.heap news) (T : Top hd.view_39 loose mean mg mb h₀) (hk : cs.kind = .function) (hdp : dp + 1 < 800) (hm : errMakes (K8 w.params) C = true) (hi : findIn (K8 w.params) (.ref C) "__init__" = some (some (.ref 79))) (hS : ErrSet (K8 w.params) C)
    (hret : ∀ e d t oe od h' tk, ErrObj C d t oe → TbNone oe → Attrs od none none none (some v1) → Fr h₀ L h' m → News h₀ L h' ((t, tupObj [v1]) :: (d, od) :: (e, oe) :: news) → Apart3 e d t news → Q (.ref e) { s with heap := h', toks := tk }) :
    wpAny (model PySem.Challenge.rw_dn0159_08.row.prog w) (ktrTop dp un gd cn cs L a ccd [] []) (call (.ref C) [v1]) Q E s := by
  refine make_err F N X hm hi (fn79 _) fun e t0 h' F' N' l0 le _ => ?_
  have offe : ∀ p ∈ news, p.1 ≠ e := fun p hp => Nat.ne_of_lt (Nat.lt_trans (l0 p hp) le)
  refine init_rcpt w mean mg mb loose C e t0 v1 news dp un gd cn cs a ccd h₀ L m { s with heap := h' } _ F' X N' T hk hdp hS (fun p hp => ?_) fun d t oe od h'' tk o1 o2 o3 F2 N2 ldt let_ hne nd lt => ⟨rfl, hret e d t oe od h'' tk o1 o2 o3 F2 (fun p hp => N2 p ?_) ⟨Nat.ne_of_gt ldt, Nat.ne_of_gt let_, Ne.symm hne, offe, nd, fun p hp => Nat.ne_of_lt (allLt_off lt p hp)⟩⟩
  · rcases List.mem_cons.mp hp with rfl | hp
    · exact Nat.ne_of_lt le
    · exact offe p hp
  · rcases List.mem_cons.mp hp with rfl | hp
    · exact .head _
    rcases List.mem_cons.mp hp with rfl | hp
    · exact .tail _ (.head _)
    rcases List.mem_cons.mp hp with rfl | hp
    · exact .tail _ (.tail _ (.head _))
    · exact .tail _ (.tail _ (.tail _ (.tail _ hp)))
/-- the class of kind k, the count that it takes, what its error bears -/
def KindC (k : Int) (C : Addr) : Prop := (k = 0 ∧ C = 44) ∨ (k = 1 ∧ C = 63) ∨ (k = 2 ∧ C = 82) ∨ (k = 3 ∧ C = 94) ∨ (k = 4 ∧ C = 106) ∨ (k = 5 ∧ C = 118) ∨ (k = 6 ∧ C = 130)
def ar (k : Int) : Nat := if k = 1 then 3 else if k = 2 then 1 else 2
def AttrsK (k : Int) (od : Obj) (vs : List Value) : Prop :=
  (∃ v1 v2, vs = [v1, v2] ∧ k ≠ 1 ∧ k ≠ 2 ∧ Attrs od (some v1) (some v2) none none) ∨ (∃ v1 v2 v3, vs = [v1, v2, v3] ∧ k = 1 ∧ Attrs od (some v1) (some v2) (some v3) none) ∨ (∃ v1, vs = [v1] ∧ k = 2 ∧ Attrs od none none none (some v1))
theorem kind_cls (P : Params) {k : Int} {C : Addr} (h : KindC k C) : ErrCls (K8 P) C := by
  rcases h with ⟨_, rfl⟩ | ⟨_, rfl⟩ | ⟨_, rfl⟩ | ⟨_, rfl⟩ | ⟨_, rfl⟩ | ⟨_, rfl⟩ | ⟨_, rfl⟩
  · exact ec44 P
  · exact ec63 P
  · exact ec82 P
  · exact ec94 P
  · exact ec106 P
  · exact ec118 P
  · exact ec130 P
end
end Mine

end

/-! R08 -/
section
open PySem PySem.W PyProof.Rows
set_option maxHeartbeats 3000000
namespace Mine
theorem read_reply (w : World) (mean : ExcName → Option Value) (mg mb : Str → Option Value) (loose : List Str) (ns : List Int) (C e d t : Addr) (oe od ot : Obj) (v1 v2 : Value) (news : List (Addr × Obj)) (dp un : Nat) (gd : Option (List Code)) (cn : Str) (cs : Scope) (a : Addr) (ccd : Value) (h₀ : Heap) (L : Addr) (m : Str → Option Value) (s : Shared) (Q E : Value → Shared → Prop)
    (F : Fr h₀ L s.heap m) (X : (K8 w.params).In h₀) (N : News h₀ L s.heap ((e, oe) :: (d, od) :: (t, ot) :: news)) (T : Top hd.view_39 loose mean mg mb h₀) (hk : cs.kind = .function) (hdp : dp + 1 < recursionLimit) (hun : un + 8 < cLine)
    (hC : ErrCls (K8 w.params) C) (ho : ErrObj C d t oe) (hl1 : lookIn (Str.ofString "smtp_code") od = some (some v1)) (hl2 : lookIn (Str.ofString "smtp_error") od = some (some v2)) (hl3 : lookIn (Str.ofString "sender") od = some (none)) (hl4 : lookIn (Str.ofString "recipients") od = some (none)) (hv1 : handedIn v1 = true) (hv2 : handedIn v2 = true)
    (hret : ∀ D oD h' tk, (D == sysModules) = false → Obj.IsDictOf (PySem.strKind PySem.Challenge.rw_dn0159_08.row.prog w) oD [(Str.ofString "args", Value.ref t), (Str.ofString "code", v1), (Str.ofString "msg", v2)] → Fr h₀ L h' m → News h₀ L h' ((D, oD) :: (e, oe) :: (d, od) :: (t, ot) :: news) → (e < D ∧ d < D ∧ t < D ∧ AllLt D news) → Q (.ref D) { s with heap := h', toks := tk }) :
    wpAny (model PySem.Challenge.rw_dn0159_08.row.prog w) (ktrTop dp un gd cn cs L a ccd [] []) (call (.ref 139) [.ref e]) Q E s := by
  w_top off
  revert X hC; k_fill; intro X hC
  have kMark : KstMark := kstMark
  refine wpAny_call ?_
  refine TLgL.code_def F X N T (by rfl) (by k_is) (by k_is) (by ktr_room) (by first | exact binds_K (by k_in) rfl (by k_is) rfl rfl rfl | exact BindsTo.of_eq rfl) (locs rfl) ?_ hk
  intro oL h₁ tiC tiF tiE F' N'
  have N'' : News h₀ s.heap.objs.size h₁ ((L, oL) :: (e, oe) :: (d, od) :: (t, ot) :: news) := fun p hp => N' p (by
    rcases List.mem_cons.mp hp with rfl | hp
    · exact List.mem_append.mpr (.inr (.head _))
    · exact List.mem_append.mpr (.inl hp))
  clear N' N F
  repeat' (first
    | (k_unfold; (try dsimp only))
    | (k_here; (with_reducible show wpAny _ _ (noteFrame (Value.ref _) _) _ _ _); k_dflt (refine' caught_attr rfl rfl ?y5_kk ?y5_kc ?y5_klt ?y5_knl ?y5_khx ?y5_kF ?y5_kN ?y5_kX ?y5_kT ?y5_kex ?_ rfl rfl ?y5_kE; (case y5_khx => assumption); (case y5_kF => assumption); (case y5_kN => assumption); (case y5_kc => assumption); (case y5_knl => assumption); (case y5_klt => first | assumption | exact And.left (by assumption)); (case y5_kk => assumption); (case y5_kX => assumption); (case y5_kT => assumption); (case y5_kex => k_is); (case y5_kE => passes_own)); intro h' sl' F' N')
    | (k_here; (with_reducible show wpAny _ _ (getAttr (Value.ref _) (Str.ofString "recipients") _) _ _ _); k_dflt (first | (refine get_own (by k_asm) (by k_asm) (by k_asm) (by assumption) (by assumption) (by k_mem) (by k_mem) en4 (by with_reducible assumption) (by with_reducible assumption) ?_) | (refine get_miss (by k_asm) (by k_asm) (by k_asm) (by assumption) (by assumption) (by k_mem) (by k_mem) en4 (by with_reducible assumption) rfl ?_; intro h' tk' e' hx')))
    | (k_here; (with_reducible show wpAny _ _ (getAttr (Value.ref _) (Str.ofString "sender") _) _ _ _); k_dflt (first | (refine get_own (by k_asm) (by k_asm) (by k_asm) (by assumption) (by assumption) (by k_mem) (by k_mem) en3 (by with_reducible assumption) (by with_reducible assumption) ?_) | (refine get_miss (by k_asm) (by k_asm) (by k_asm) (by assumption) (by assumption) (by k_mem) (by k_mem) en3 (by with_reducible assumption) rfl ?_; intro h' tk' e' hx')))
    | (k_here; (with_reducible show wpAny _ _ (getAttr (Value.ref _) (Str.ofString "smtp_error") _) _ _ _); k_dflt (first | (refine get_own (by k_asm) (by k_asm) (by k_asm) (by assumption) (by assumption) (by k_mem) (by k_mem) en2 (by with_reducible assumption) (by with_reducible assumption) ?_) | (refine get_miss (by k_asm) (by k_asm) (by k_asm) (by assumption) (by assumption) (by k_mem) (by k_mem) en2 (by with_reducible assumption) rfl ?_; intro h' tk' e' hx')))
    | (k_here; (with_reducible show wpAny _ _ (getAttr (Value.ref _) (Str.ofString "smtp_code") _) _ _ _); k_dflt (first | (refine get_own (by k_asm) (by k_asm) (by k_asm) (by assumption) (by assumption) (by k_mem) (by k_mem) en1 (by with_reducible assumption) (by with_reducible assumption) ?_) | (refine get_miss (by k_asm) (by k_asm) (by k_asm) (by assumption) (by assumption) (by k_mem) (by k_mem) en1 (by with_reducible assumption) rfl ?_; intro h' tk' e' hx')))
    | (k_here; (with_reducible show wpAny _ _ (getAttr (Value.ref _) (Str.ofString "args") _) _ _ _); k_dflt (refine get_args (by k_asm) (by k_asm) (by k_asm) (by assumption) (by assumption) (by k_mem) (by k_mem) ?_))
    | (k_end; kc_close) | walk1 | (dsimp only; walk1) | (leave1; (try dsimp only)) | fail "no step")
  rename_i FF NN
  rename (_ < _ ∧ _ < _ ∧ _ < _ ∧ _ < _ ∧ AllLt _ _) => l1
  obtain ⟨F2, N2⟩ := leave_in tiC (by assumption) (by assumption) l1.1 tiE
  exact hret _ _ _ _ (by assumption) (by assumption) F2 N2 l1.2
theorem read_sender (w : World) (mean : ExcName → Option Value) (mg mb : Str → Option Value) (loose : List Str) (ns : List Int) (C e d t : Addr) (oe od ot : Obj) (v1 v2 v3 : Value) (news : List (Addr × Obj)) (dp un : Nat) (gd : Option (List Code)) (cn : Str) (cs : Scope) (a : Addr) (ccd : Value) (h₀ : Heap) (L : Addr) (m : Str → Option Value) (s : Shared) (Q E : Value → Shared → Prop)
    (F : Fr h₀ L s.heap m) (X : (K8 w.params).In h₀) (N : News h₀ L s.heap ((e, oe) :: (d, od) :: (t, ot) :: news)) (T : Top hd.view_39 loose mean mg mb h₀) (hk : cs.kind = .function) (hdp : dp + 1 < recursionLimit) (hun : un + 8 < cLine)
    (hC : ErrCls (K8 w.params) C) (ho : ErrObj C d t oe) (hl1 : lookIn (Str.ofString "smtp_code") od = some (some v1)) (hl2 : lookIn (Str.ofString "smtp_error") od = some (some v2)) (hl3 : lookIn (Str.ofString "sender") od = some (some v3)) (hl4 : lookIn (Str.ofString "recipients") od = some (none)) (hv1 : handedIn v1 = true) (hv2 : handedIn v2 = true) (hv3 : handedIn v3 = true)
    (hret : ∀ D oD h' tk, (D == sysModules) = false → Obj.IsDictOf (PySem.strKind PySem.Challenge.rw_dn0159_08.row.prog w) oD [(Str.ofString "args", Value.ref t), (Str.ofString "code", v1), (Str.ofString "msg", v2), (Str.ofString "sender", v3)] → Fr h₀ L h' m → News h₀ L h' ((D, oD) :: (e, oe) :: (d, od) :: (t, ot) :: news) → (e < D ∧ d < D ∧ t < D ∧ AllLt D news) → Q (.ref D) { s with heap := h', toks := tk }) :
    wpAny (model PySem.Challenge.rw_dn0159_08.row.prog w) (ktrTop dp un gd cn cs L a ccd [] []) (call (.ref 139) [.ref e]) Q E s := by
  w_top off
  revert X hC; k_fill; intro X hC
  have kMark : KstMark := kstMark
  refine wpAny_call ?_
  refine TLgL.code_def F X N T (by rfl) (by k_is) (by k_is) (by ktr_room) (by first | exact binds_K (by k_in) rfl (by k_is) rfl rfl rfl | exact BindsTo.of_eq rfl) (locs rfl) ?_ hk
  intro oL h₁ tiC tiF tiE F' N'
  have N'' : News h₀ s.heap.objs.size h₁ ((L, oL) :: (e, oe) :: (d, od) :: (t, ot) :: news) := fun p hp => N' p (by
    rcases List.mem_cons.mp hp with rfl | hp
    · exact List.mem_append.mpr (.inr (.head _))
    · exact List.mem_append.mpr (.inl hp))
  clear N' N F
  repeat' (first
    | (k_unfold; (try dsimp only))
    | (k_here; (with_reducible show wpAny _ _ (noteFrame (Value.ref _) _) _ _ _); k_dflt (refine' caught_attr rfl rfl ?y5_kk ?y5_kc ?y5_klt ?y5_knl ?y5_khx ?y5_kF ?y5_kN ?y5_kX ?y5_kT ?y5_kex ?_ rfl rfl ?y5_kE; (case y5_khx => assumption); (case y5_kF => assumption); (case y5_kN => assumption); (case y5_kc => assumption); (case y5_knl => assumption); (case y5_klt => first | assumption | exact And.left (by assumption)); (case y5_kk => assumption); (case y5_kX => assumption); (case y5_kT => assumption); (case y5_kex => k_is); (case y5_kE => passes_own)); intro h' sl' F' N')
    | (k_here; (with_reducible show wpAny _ _ (getAttr (Value.ref _) (Str.ofString "recipients") _) _ _ _); k_dflt (first | (refine get_own (by k_asm) (by k_asm) (by k_asm) (by assumption) (by assumption) (by k_mem) (by k_mem) en4 (by with_reducible assumption) (by with_reducible assumption) ?_) | (refine get_miss (by k_asm) (by k_asm) (by k_asm) (by assumption) (by assumption) (by k_mem) (by k_mem) en4 (by with_reducible assumption) rfl ?_; intro h' tk' e' hx')))
    | (k_here; (with_reducible show wpAny _ _ (getAttr (Value.ref _) (Str.ofString "sender") _) _ _ _); k_dflt (first | (refine get_own (by k_asm) (by k_asm) (by k_asm) (by assumption) (by assumption) (by k_mem) (by k_mem) en3 (by with_reducible assumption) (by with_reducible assumption) ?_) | (refine get_miss (by k_asm) (by k_asm) (by k_asm) (by assumption) (by assumption) (by k_mem) (by k_mem) en3 (by with_reducible assumption) rfl ?_; intro h' tk' e' hx')))
    | (k_here; (with_reducible show wpAny _ _ (getAttr (Value.ref _) (Str.ofString "smtp_error") _) _ _ _); k_dflt (first | (refine get_own (by k_asm) (by k_asm) (by k_asm) (by assumption) (by assumption) (by k_mem) (by k_mem) en2 (by with_reducible assumption) (by with_reducible assumption) ?_) | (refine get_miss (by k_asm) (by k_asm) (by k_asm) (by assumption) (by assumption) (by k_mem) (by k_mem) en2 (by with_reducible assumption) rfl ?_; intro h' tk' e' hx')))
    | (k_here; (with_reducible show wpAny _ _ (getAttr (Value.ref _) (Str.ofString "smtp_code") _) _ _ _); k_dflt (first | (refine get_own (by k_asm) (by k_asm) (by k_asm) (by assumption) (by assumption) (by k_mem) (by k_mem) en1 (by with_reducible assumption) (by with_reducible assumption) ?_) | (refine get_miss (by k_asm) (by k_asm) (by k_asm) (by assumption) (by assumption) (by k_mem) (by k_mem) en1 (by with_reducible assumption) rfl ?_; intro h' tk' e' hx')))
    | (k_here; (with_reducible show wpAny _ _ (getAttr (Value.ref _) (Str.ofString "args") _) _ _ _); k_dflt (refine get_args (by k_asm) (by k_asm) (by k_asm) (by assumption) (by assumption) (by k_mem) (by k_mem) ?_))
    | (k_end; kc_close) | walk1 | (dsimp only; walk1) | (leave1; (try dsimp only)) | fail "no step")
  rename_i FF NN
  rename (_ < _ ∧ _ < _ ∧ _ < _ ∧ _ < _ ∧ AllLt _ _) => l1
  obtain ⟨F2, N2⟩ := leave_in tiC (by assumption) (by assumption) l1.1 tiE
  exact hret _ _ _ _ (by assumption) (by assumption) F2 N2 l1.2
theorem read_rcpt (w : World) (mean : ExcName → Option Value) (mg mb : Str → Option Value) (loose : List Str) (ns : List Int) (C e d t : Addr) (oe od ot : Obj) (v4 : Value) (news : List (Addr × Obj)) (dp un : Nat) (gd : Option (List Code)) (cn : Str) (cs : Scope) (a : Addr) (ccd : Value) (h₀ : Heap) (L : Addr) (m : Str → Option Value) (s : Shared) (Q E : Value → Shared → Prop)
    (F : Fr h₀ L s.heap m) (X : (K8 w.params).In h₀) (N : News h₀ L s.heap ((e, oe) :: (d, od) :: (t, ot) :: news)) (T : Top hd.view_39 loose mean mg mb h₀) (hk : cs.kind = .function) (hdp : dp + 1 < recursionLimit) (hun : un + 8 < cLine)
    (hC : ErrCls (K8 w.params) C) (ho : ErrObj C d t oe) (hl1 : lookIn (Str.ofString "smtp_code") od = some (none)) (hl2 : lookIn (Str.ofString "smtp_error") od = some (none)) (hl3 : lookIn (Str.ofString "sender") od = some (none)) (hl4 : lookIn (Str.ofString "recipients") od = some (some v4)) (hv4 : handedIn v4 = true)
    (hret : ∀ D oD h' tk, (D == sysModules) = false → Obj.IsDictOf (PySem.strKind PySem.Challenge.rw_dn0159_08.row.prog w) oD [(Str.ofString "args", Value.ref t), (Str.ofString "recipients", v4)] → Fr h₀ L h' m → News h₀ L h' ((D, oD) :: (e, oe) :: (d, od) :: (t, ot) :: news) → (e < D ∧ d < D ∧ t < D ∧ AllLt D news) → Q (.ref D) { s with heap := h', toks := tk }) :
    wpAny (model PySem.Challenge.rw_dn0159_08.row.prog w) (ktrTop dp un gd cn cs L a ccd [] []) (call (.ref 139) [.ref e]) Q E s := by
  w_top off
  revert X hC; k_fill; intro X hC
  have kMark : KstMark := kstMark
  refine wpAny_call ?_
  refine TLgL.code_def F X N T (by rfl) (by k_is) (by k_is) (by ktr_room) (by first | exact binds_K (by k_in) rfl (by k_is) rfl rfl rfl | exact BindsTo.of_eq rfl) (locs rfl) ?_ hk
  intro oL h₁ tiC tiF tiE F' N'
  have N'' : News h₀ s.heap.objs.size h₁ ((L, oL) :: (e, oe) :: (d, od) :: (t, ot) :: news) := fun p hp => N' p (by
    rcases List.mem_cons.mp hp with rfl | hp
    · exact List.mem_append.mpr (.inr (.head _))
    · exact List.mem_append.mpr (.inl hp))
  clear N' N F
  repeat' (first
    | (k_unfold; (try dsimp only))
    | (k_here; (with_reducible show wpAny _ _ (noteFrame (Value.ref _) _) _ _ _); k_dflt (refine' caught_attr rfl rfl ?y5_kk ?y5_kc ?y5_klt ?y5_knl ?y5_khx ?y5_kF ?y5_kN ?y5_kX ?y5_kT ?y5_kex ?_ rfl rfl ?y5_kE; (case y5_khx => assumption); (case y5_kF => assumption); (case y5_kN => assumption); (case y5_kc => assumption); (case y5_knl => assumption); (case y5_klt => first | assumption | exact And.left (by assumption)); (case y5_kk => assumption); (case y5_kX => assumption); (case y5_kT => assumption); (case y5_kex => k_is); (case y5_kE => passes_own)); intro h' sl' F' N')
    | (k_here; (with_reducible show wpAny _ _ (getAttr (Value.ref _) (Str.ofString "recipients") _) _ _ _); k_dflt (first | (refine get_own (by k_asm) (by k_asm) (by k_asm) (by assumption) (by assumption) (by k_mem) (by k_mem) en4 (by with_reducible assumption) (by with_reducible assumption) ?_) | (refine get_miss (by k_asm) (by k_asm) (by k_asm) (by assumption) (by assumption) (by k_mem) (by k_mem) en4 (by with_reducible assumption) rfl ?_; intro h' tk' e' hx')))
    | (k_here; (with_reducible show wpAny _ _ (getAttr (Value.ref _) (Str.ofString "sender") _) _ _ _); k_dflt (first | (refine get_own (by k_asm) (by k_asm) (by k_asm) (by assumption) (by assumption) (by k_mem) (by k_mem) en3 (by with_reducible assumption) (by with_reducible assumption) ?_) | (refine get_miss (by k_asm) (by k_asm) (by k_asm) (by assumption) (by assumption) (by k_mem) (by k_mem) en3 (by with_reducible assumption) rfl ?_; intro h' tk' e' hx')))
    | (k_here; (with_reducible show wpAny _ _ (getAttr (Value.ref _) (Str.ofString "smtp_error") _) _ _ _); k_dflt (first | (refine get_own (by k_asm) (by k_asm) (by k_asm) (by assumption) (by assumption) (by k_mem) (by k_mem) en2 (by with_reducible assumption) (by with_reducible assumption) ?_) | (refine get_miss (by k_asm) (by k_asm) (by k_asm) (by assumption) (by assumption) (by k_mem) (by k_mem) en2 (by with_reducible assumption) rfl ?_; intro h' tk' e' hx')))
    | (k_here; (with_reducible show wpAny _ _ (getAttr (Value.ref _) (Str.ofString "smtp_code") _) _ _ _); k_dflt (first | (refine get_own (by k_asm) (by k_asm) (by k_asm) (by assumption) (by assumption) (by k_mem) (by k_mem) en1 (by with_reducible assumption) (by with_reducible assumption) ?_) | (refine get_miss (by k_asm) (by k_asm) (by k_asm) (by assumption) (by assumption) (by k_mem) (by k_mem) en1 (by with_reducible assumption) rfl ?_; intro h' tk' e' hx')))
    | (k_here; (with_reducible show wpAny _ _ (getAttr (Value.ref _) (Str.ofString "args") _) _ _ _); k_dflt (refine get_args (by k_asm) (by k_asm) (by k_asm) (by assumption) (by assumption) (by k_mem) (by k_mem) ?_))
    | (k_end; kc_close) | walk1 | (dsimp only; walk1) | (leave1; (try dsimp only)) | fail "no step")
  rename_i FF NN
  rename (_ < _ ∧ _ < _ ∧ _ < _ ∧ _ < _ ∧ AllLt _ _) => l1
  obtain ⟨F2, N2⟩ := leave_in tiC (by assumption) (by assumption) l1.1 tiE
  exact hret _ _ _ _ (by assumption) (by assumption) F2 N2 l1.2
end Mine

end

/-! L08 -/
section
open PySem PySem.W PySem.Calls PyProof.Rows PyProof.V PySem.Spec
namespace Mine
/-! 08: what is kept; the first loop -/
def Fl (v v' : Value) : Prop := (∃ n t t', v = .int n t ∧ v' = .int n t') ∨ (∃ s k k', v = .str s k ∧ v' = .str s k')
def Fls : List Value → List Value → Prop
  | [], [] => True
  | v :: l, v' :: l' => Fl v v' ∧ Fls l l'
  | _, _ => False
theorem Fls.length : ∀ {l l' : List Value}, Fls l l' → l.length = l'.length
  | [], [], _ => rfl
  | _ :: _, _ :: _, h => by simp [Fls.length h.2]
  | [], _ :: _, h => h.elim
  | _ :: _, [], h => h.elim
theorem Fl.int (n : Int) (t t' : Tok) : Fl (.int n t) (.int n t') := .inl ⟨n, t, t', rfl, rfl⟩
theorem Fl.handed {v v' : Value} (h : Fl v v') : handedIn v = true ∧ handedIn v' = true := by
  rcases h with ⟨_, _, _, rfl, rfl⟩ | ⟨_, _, _, rfl, rfl⟩ <;> exact ⟨rfl, rfl⟩
def NamesK (k : Int) (xs : List Value) : Prop :=
  (∃ t1 t2, xs = [.str (Str.ofString "code") t1, .str (Str.ofString "msg") t2] ∧ k ≠ 1 ∧ k ≠ 2) ∨ (∃ t1 t2 t3, xs = [.str (Str.ofString "code") t1, .str (Str.ofString "msg") t2, .str (Str.ofString "sender") t3] ∧ k = 1) ∨ (∃ t1, xs = [.str (Str.ofString "recipients") t1] ∧ k = 2)
theorem NamesK.length {k : Int} {xs : List Value} (h : NamesK k xs) : xs.length = ar k := by
  unfold ar
  rcases h with ⟨t1, t2, rfl, h1, h2⟩ | ⟨t1, t2, t3, rfl, rfl⟩ | ⟨t1, rfl, rfl⟩
  · rw [if_neg h1, if_neg h2]; rfl
  · rfl
  · rfl
def kindsV : List Value := [.ref 44, .ref 63, .ref 82, .ref 94, .ref 106, .ref 118, .ref 130]
structure Const8 (kinds names D : Addr) (ws nv : List Value) (B : List (Addr × Obj)) : Prop where
  kin : (kinds, PySem.W.listOf kindsV.toArray 0) ∈ B
  nin : (names, PySem.W.listOf nv.toArray 0) ∈ B
  nlen : nv.length = 7
  each : ∀ (i : Nat) v, nv[i]? = some v → ∃ nm xs c, v = .ref nm ∧ (nm, PySem.W.listOf xs.toArray c) ∈ B ∧ NamesK (i : Int) xs
  din : (D, PySem.W.listOf ws.toArray 0) ∈ B
def Item8 (B T : List (Addr × Obj)) (v : Value) : Prop :=
  ∃ u e d t t' nm k C oe od vs vs' xs c, v = .ref u ∧ (u, tupObj [.ref e, .ref t', .ref nm]) ∈ T ∧ (e, oe) ∈ T ∧ (d, od) ∈ T ∧ (t, tupObj vs) ∈ T ∧ (t', tupObj vs') ∈ T ∧ (nm, PySem.W.listOf xs.toArray c) ∈ B ∧ ErrObj C d t oe ∧ KindC k C ∧ AttrsK k od vs ∧ Fls vs vs' ∧ NamesK k xs
def Cur8 (T : List (Addr × Obj)) (e t' : Addr) : Prop :=
  ∃ d t k C oe od vs vs', (e, oe) ∈ T ∧ (d, od) ∈ T ∧ (t, tupObj vs) ∈ T ∧ (t', tupObj vs') ∈ T ∧ ErrObj C d t oe ∧ KindC k C ∧ AttrsK k od vs ∧ Fls vs vs'
theorem Item8.mono {B T T' : List (Addr × Obj)} {v : Value} (h : Item8 B T v) (k : ∀ p ∈ T, p ∈ T') : Item8 B T' v := by
  obtain ⟨u, e, d, t, t', nm, kk, C, oe, od, vs, vs', xs, c, h1, h2, h3, h4, h5, h6, r⟩ := h
  exact ⟨u, e, d, t, t', nm, kk, C, oe, od, vs, vs', xs, c, h1, k _ h2, k _ h3, k _ h4, k _ h5, k _ h6, r⟩
structure St8 (made : Addr) (B : List (Addr × Obj)) (us : List Value) (cn : Nat) (T own : List (Addr × Obj)) (e t' : Addr) (led : List (Addr × Obj)) : Prop where
  sub : ∀ p ∈ (made, PySem.W.listOf us.toArray cn) :: (B ++ (T ++ own)), p ∈ led
  items : ∀ v ∈ us, Item8 B T v
  cur : Cur8 T e t'
  offm : ∀ p ∈ B ++ (T ++ own), p.1 ≠ made
  apart : ∀ p ∈ B ++ T, ∀ q ∈ own, p.1 ≠ q.1
  cls : ∀ q ∈ own, q.2.cls = .type "list_iterator"
theorem St8.more {made : Addr} {B : List (Addr × Obj)} {us : List Value} {cn : Nat} {T own : List (Addr × Obj)} {e t' : Addr} {led led' : List (Addr × Obj)} (S : St8 made B us cn T own e t' led) (k : ∀ p ∈ (made, PySem.W.listOf us.toArray cn) :: (B ++ (T ++ own)), p ∈ led') : St8 made B us cn T own e t' led' := ⟨k, S.items, S.cur, S.offm, S.apart, S.cls⟩
abbrev turn08 : List Str := [Str.ofString "kind", Str.ofString "way", Str.ofString "thing", Str.ofString "things", Str.ofString "wanted", Str.ofString "fits", Str.ofString "error", Str.ofString "due"]
def Kept8 (made : Addr) (B : List (Addr × Obj)) (m₀ : Str → Option Value) (i : Nat) (m : Str → Option Value) (nx : List (Addr × Obj)) : Prop :=
  ∃ (us : List Value) (cn : Nat) (T : List (Addr × Obj)) (e t' : Addr), nx = (made, PySem.W.listOf us.toArray cn) :: (B ++ T) ∧ us.length ≤ i + 1 ∧ (∀ v ∈ us, Item8 B T v) ∧ Cur8 T e t' ∧ (∀ p ∈ B ++ T, p.1 ≠ made) ∧
    m (Str.ofString "error") = some (.ref e) ∧ m (Str.ofString "due") = some (.ref t') ∧ ∀ z, z ≠ Str.ofString "n" → turn08.contains z = false → m z = m₀ z
theorem frame8 {m m₀ : Str → Option Value} {e t' : Addr} (h1 : m (Str.ofString "error") = some (.ref e)) (h2 : m (Str.ofString "due") = some (.ref t')) (h : ∀ z, z ≠ Str.ofString "n" → turn08.contains z = false → m z = m₀ z) (v : Option Value) :
    ∀ y, (if y = Str.ofString "n" then v else m y) = (if y = Str.ofString "n" then v else if y = Str.ofString "error" then some (.ref e) else if y = Str.ofString "due" then some (.ref t') else if turn08.contains y then m y else m₀ y) := fun y => by
  by_cases y1 : y = Str.ofString "n"
  · simp [y1]
  · by_cases y2 : y = Str.ofString "error"
    · rw [if_neg y1, if_neg y1, if_pos y2, y2, h1]
    · by_cases y3 : y = Str.ofString "due"
      · rw [if_neg y1, if_neg y1, if_neg y2, if_pos y3, y3, h2]
      · rw [if_neg y1, if_neg y1, if_neg y2, if_neg y3]
        cases y4 : turn08.contains y with
        | true => simp
        | false => simpa using h y y1 y4
section
variable {prog : Program} {w w' : World} {A : Around} {E : Value → Shared → Prop} {s : Shared} {env : Env} {h₀ : Heap} {body : List Stmt} {Q : Flow → Shared → Prop} {loose : List Str} {mean : ExcName → Option Value} {mg mb : Str → Option Value}
end
theorem names8_ne {z : Str} (h : turn08.contains z = false) : z ≠ Str.ofString "kind" ∧ z ≠ Str.ofString "way" ∧ z ≠ Str.ofString "thing" ∧ z ≠ Str.ofString "things" ∧ z ≠ Str.ofString "wanted" ∧ z ≠ Str.ofString "fits" ∧ z ≠ Str.ofString "error" ∧ z ≠ Str.ofString "due" := by
  have hn : z ∉ turn08 := by
    intro hm
    rw [List.contains_iff_mem.mpr hm] at h
    cases h
  refine ⟨?_, ?_, ?_, ?_, ?_, ?_, ?_, ?_⟩ <;> (rintro rfl; exact hn (by k_mem))
end Mine

end

/-! L08b -/
section
open PySem PySem.W PySem.Calls PyProof.Rows PyProof.V PySem.Spec
namespace Mine
theorem Fls.get : ∀ {l l' : List Value}, Fls l l' → ∀ (i : Nat) v v', l[i]? = some v → l'[i]? = some v' → Fl v v'
  | [], [], _, i, v, v', h, _ => by simp at h
  | a :: l, a' :: l', h, 0, v, v', h1, h2 => by
    simp only [List.getElem?_cons_zero, Option.some.injEq] at h1 h2
    subst h1 h2
    exact h.1
  | a :: l, a' :: l', h, i + 1, v, v', h1, h2 => Fls.get h.2 i v v' (by simpa using h1) (by simpa using h2)
  | [], _ :: _, h, _, _, _, _, _ => h.elim
  | _ :: _, [], h, _, _, _, _, _ => h.elim
section
variable {prog : Program} {w : World} {A : Around} {E : Value → Shared → Prop} {s : Shared} {h₀ : Heap} {L : Addr} {led : List (Addr × Obj)} {Q : Value → Shared → Prop}
theorem Fl.eqAt {v v' : Value} (h : Fl v v') : SeqAt.EqAt A s v v' true := by
  rcases h with ⟨n, t, t', rfl, rfl⟩ | ⟨x, k, k', rfl, rfl⟩
  · have z := SeqAt.EqAt.int_int (A := A) (s := s) n t n t'; simpa using z
  · have z := SeqAt.EqAt.str_str (A := A) (s := s) x k x k'; simpa using z
theorem Fl.eqW {v v' : Value} (h : Fl v v') : EqW prog w s 1 v v' := EqW.of_at fun A _ => h.eqAt
theorem fls_tuple {t t' : Addr} {vs vs' : List Value} (N : News h₀ L s.heap led) (m1 : (t, tupObj vs) ∈ led) (m2 : (t', tupObj vs') ∈ led) (h : Fls vs vs') : EqW prog w s 1 (.ref t) (.ref t') := EqW.of_at fun A hu => by
  by_cases q : t = t'
  · subst q; exact SeqAt.EqAt.same _
  · have h1 : s.heap.IsTuple t vs.toArray := ⟨_, (N _ m1).1, rfl, 0, rfl⟩
    have h2 : s.heap.IsTuple t' vs'.toArray := ⟨_, (N _ m2).1, rfl, 0, rfl⟩
    have z := SeqAt.RcAt.tuples (A := A) (e := fun _ => true) h1 h2 (by omega) (fun j a b => Fl.eqAt (h.get j _ _ (by simp at a ⊢) (by simp at b ⊢)))
    have e : ((List.range (min vs.toArray.size vs'.toArray.size)).all (fun _ => true) && vs.toArray.size == vs'.toArray.size) = true := by
      have := h.length
      simp [this]
    rw [e] at z
    exact SeqAt.EqAt.of_refs q z
variable {D D' t t' : Addr} {oD oD' : Obj}
theorem ne8_reply {a b a' b' : Value} (N : News h₀ L s.heap led) (d1 : (D, oD) ∈ led) (d2 : (D', oD') ∈ led) (i1 : oD.IsDictOf (PySem.strKind prog w) [(Str.ofString "args", .ref t), (Str.ofString "code", a), (Str.ofString "msg", b)])
    (i2 : oD'.IsDictOf (PySem.strKind prog w) [(Str.ofString "args", .ref t'), (Str.ofString "code", a'), (Str.ofString "msg", b')]) (l1 : (D == sysModules) = false) (l2 : (D' == sysModules) = false)
    (m1 : (t, tupObj [a, b]) ∈ led) (m2 : (t', tupObj [a', b']) ∈ led) (f1 : Fl a a') (f2 : Fl b b') (hu : A.units + 4 < cLine) (h : Q (.bool false) s) : wpAny (model prog w) A (compareOp .NotEq (.ref D) (.ref D')) Q E s := by
  have z1 : s.heap.DictOf (PySem.strKind prog w) D _ := Heap.dictOf_iff.mpr ⟨oD, (N _ d1).1, i1⟩
  have z2 : s.heap.DictOf (PySem.strKind prog w) D' _ := Heap.dictOf_iff.mpr ⟨oD', (N _ d2).1, i2⟩
  refine dicts_ne (k := 1) l1 l2 z1 z2 rfl (by omega) (fun i c v hv => ?_) h
  match i, hv with
  | 0, hv =>
    simp only [List.getElem?_cons_zero, Option.some.injEq, Prod.mk.injEq] at hv
    obtain ⟨rfl, rfl⟩ := hv
    exact ⟨.ref t', by rfl, fls_tuple N m1 m2 ⟨f1, f2, trivial⟩⟩
  | 1, hv =>
    simp only [List.getElem?_cons_succ, List.getElem?_cons_zero, Option.some.injEq, Prod.mk.injEq] at hv
    obtain ⟨rfl, rfl⟩ := hv
    exact ⟨a', by rfl, f1.eqW⟩
  | 2, hv =>
    simp only [List.getElem?_cons_succ, List.getElem?_cons_zero, Option.some.injEq, Prod.mk.injEq] at hv
    obtain ⟨rfl, rfl⟩ := hv
    exact ⟨b', by rfl, f2.eqW⟩
  | i + 3, hv => simp at hv
theorem ne8_sender {a b x a' b' x' : Value} (N : News h₀ L s.heap led) (d1 : (D, oD) ∈ led) (d2 : (D', oD') ∈ led) (i1 : oD.IsDictOf (PySem.strKind prog w) [(Str.ofString "args", .ref t), (Str.ofString "code", a), (Str.ofString "msg", b), (Str.ofString "sender", x)])
    (i2 : oD'.IsDictOf (PySem.strKind prog w) [(Str.ofString "args", .ref t'), (Str.ofString "code", a'), (Str.ofString "msg", b'), (Str.ofString "sender", x')]) (l1 : (D == sysModules) = false) (l2 : (D' == sysModules) = false)
    (m1 : (t, tupObj [a, b, x]) ∈ led) (m2 : (t', tupObj [a', b', x']) ∈ led) (f1 : Fl a a') (f2 : Fl b b') (f3 : Fl x x') (hu : A.units + 4 < cLine) (h : Q (.bool false) s) : wpAny (model prog w) A (compareOp .NotEq (.ref D) (.ref D')) Q E s := by
  have z1 : s.heap.DictOf (PySem.strKind prog w) D _ := Heap.dictOf_iff.mpr ⟨oD, (N _ d1).1, i1⟩
  have z2 : s.heap.DictOf (PySem.strKind prog w) D' _ := Heap.dictOf_iff.mpr ⟨oD', (N _ d2).1, i2⟩
  refine dicts_ne (k := 1) l1 l2 z1 z2 rfl (by omega) (fun i c v hv => ?_) h
  match i, hv with
  | 0, hv =>
    simp only [List.getElem?_cons_zero, Option.some.injEq, Prod.mk.injEq] at hv
    obtain ⟨rfl, rfl⟩ := hv
    exact ⟨.ref t', by rfl, fls_tuple N m1 m2 ⟨f1, f2, f3, trivial⟩⟩
  | 1, hv =>
    simp only [List.getElem?_cons_succ, List.getElem?_cons_zero, Option.some.injEq, Prod.mk.injEq] at hv
    obtain ⟨rfl, rfl⟩ := hv
    exact ⟨a', by rfl, f1.eqW⟩
  | 2, hv =>
    simp only [List.getElem?_cons_succ, List.getElem?_cons_zero, Option.some.injEq, Prod.mk.injEq] at hv
    obtain ⟨rfl, rfl⟩ := hv
    exact ⟨b', by rfl, f2.eqW⟩
  | 3, hv =>
    simp only [List.getElem?_cons_succ, List.getElem?_cons_zero, Option.some.injEq, Prod.mk.injEq] at hv
    obtain ⟨rfl, rfl⟩ := hv
    exact ⟨x', by rfl, f3.eqW⟩
  | i + 4, hv => simp at hv
theorem ne8_rcpt {a a' : Value} (N : News h₀ L s.heap led) (d1 : (D, oD) ∈ led) (d2 : (D', oD') ∈ led) (i1 : oD.IsDictOf (PySem.strKind prog w) [(Str.ofString "args", .ref t), (Str.ofString "recipients", a)])
    (i2 : oD'.IsDictOf (PySem.strKind prog w) [(Str.ofString "args", .ref t'), (Str.ofString "recipients", a')]) (l1 : (D == sysModules) = false) (l2 : (D' == sysModules) = false)
    (m1 : (t, tupObj [a]) ∈ led) (m2 : (t', tupObj [a']) ∈ led) (f1 : Fl a a') (hu : A.units + 4 < cLine) (h : Q (.bool false) s) : wpAny (model prog w) A (compareOp .NotEq (.ref D) (.ref D')) Q E s := by
  have z1 : s.heap.DictOf (PySem.strKind prog w) D _ := Heap.dictOf_iff.mpr ⟨oD, (N _ d1).1, i1⟩
  have z2 : s.heap.DictOf (PySem.strKind prog w) D' _ := Heap.dictOf_iff.mpr ⟨oD', (N _ d2).1, i2⟩
  refine dicts_ne (k := 1) l1 l2 z1 z2 rfl (by omega) (fun i c v hv => ?_) h
  match i, hv with
  | 0, hv =>
    simp only [List.getElem?_cons_zero, Option.some.injEq, Prod.mk.injEq] at hv
    obtain ⟨rfl, rfl⟩ := hv
    exact ⟨.ref t', by rfl, fls_tuple N m1 m2 ⟨f1, trivial⟩⟩
  | 1, hv =>
    simp only [List.getElem?_cons_succ, List.getElem?_cons_zero, Option.some.injEq, Prod.mk.injEq] at hv
    obtain ⟨rfl, rfl⟩ := hv
    exact ⟨a', by rfl, f1.eqW⟩
  | i + 2, hv => simp at hv
end
section
variable {prog : Program} {w : World} {A : Around} {E : Value → Shared → Prop} {s : Shared} {h₀ : Heap} {L made kinds names D e₀ t₀' : Addr} {m : Str → Option Value} {B T own led : List (Addr × Obj)} {us ws nv : List Value} {cn : Nat} {Q : Value → Shared → Prop}
theorem pick_kind {value slice : PySem.Expr} {k : Int} {u : Tok} (N : News h₀ L s.heap led) (S : St8 made B us cn T own e₀ t₀' led) (hB : Const8 kinds names D ws nv B) (h0 : 0 ≤ k) (h7 : k < 7) (h : ∀ C, KindC k C → Q (.ref C) s)
    (hs : subscripted slice false (.ref kinds) (.int k u) = operate [.ref kinds, .int k u] (getItem (.ref kinds) (.int k u))) (hg : ∀ r, letTemporaryGo value (.ref kinds) r = pure ()) :
    wpAny (model prog w) A (subscriptTail value slice (.ref kinds) (.int k u)) Q E s := by
  have hl : s.heap.IsList kinds kindsV.toArray := ⟨_, (N _ (S.sub _ (.tail _ (List.mem_append.mpr (.inl hB.kin))))).1, rfl, 0, rfl⟩
  have e63 : (2 : Int) ^ 63 = 9223372036854775808 := by decide
  have hc : k = 0 ∨ k = 1 ∨ k = 2 ∨ k = 3 ∨ k = 4 ∨ k = 5 ∨ k = 6 := by omega
  rcases hc with rfl | rfl | rfl | rfl | rfl | rfl | rfl
  · exact item_list (x := .ref 44) hl (by omega) (by omega) rfl (h 44 (.inl ⟨rfl, rfl⟩)) hs hg
  · exact item_list (x := .ref 63) hl (by omega) (by omega) rfl (h 63 (.inr (.inl ⟨rfl, rfl⟩))) hs hg
  · exact item_list (x := .ref 82) hl (by omega) (by omega) rfl (h 82 (.inr (.inr (.inl ⟨rfl, rfl⟩)))) hs hg
  · exact item_list (x := .ref 94) hl (by omega) (by omega) rfl (h 94 (.inr (.inr (.inr (.inl ⟨rfl, rfl⟩))))) hs hg
  · exact item_list (x := .ref 106) hl (by omega) (by omega) rfl (h 106 (.inr (.inr (.inr (.inr (.inl ⟨rfl, rfl⟩)))))) hs hg
  · exact item_list (x := .ref 118) hl (by omega) (by omega) rfl (h 118 (.inr (.inr (.inr (.inr (.inr (.inl ⟨rfl, rfl⟩))))))) hs hg
  · exact item_list (x := .ref 130) hl (by omega) (by omega) rfl (h 130 (.inr (.inr (.inr (.inr (.inr (.inr ⟨rfl, rfl⟩))))))) hs hg
theorem pick_names {value slice : PySem.Expr} {k : Int} {u : Tok} (N : News h₀ L s.heap led) (S : St8 made B us cn T own e₀ t₀' led) (hB : Const8 kinds names D ws nv B) (h0 : 0 ≤ k) (h7 : k < 7)
    (h : ∀ nm xs c, NamesK k xs → xs.length = ar k → (nm, PySem.W.listOf xs.toArray c) ∈ B → Q (.ref nm) s)
    (hs : subscripted slice false (.ref names) (.int k u) = operate [.ref names, .int k u] (getItem (.ref names) (.int k u))) (hg : ∀ r, letTemporaryGo value (.ref names) r = pure ()) :
    wpAny (model prog w) A (subscriptTail value slice (.ref names) (.int k u)) Q E s := by
  have hl : s.heap.IsList names nv.toArray := ⟨_, (N _ (S.sub _ (.tail _ (List.mem_append.mpr (.inl hB.nin))))).1, rfl, 0, rfl⟩
  have e63 : (2 : Int) ^ 63 = 9223372036854775808 := by decide
  have hlt : k.toNat < nv.length := by rw [hB.nlen]; omega
  obtain ⟨nm, xs, c, hv, hm, hn⟩ := hB.each k.toNat nv[k.toNat] (by simp [hlt])
  have hk : ((k.toNat : Nat) : Int) = k := Int.toNat_of_nonneg h0
  rw [hk] at hn
  exact item_list (x := .ref nm) hl h0 (by omega) (by rw [← hv]; simp [hlt]) (h nm xs c hn hn.length hm) hs hg
theorem len_names {nm : Addr} {xs : List Value} {c : Nat} (N : News h₀ L s.heap led) (S : St8 made B us cn T own e₀ t₀' led) (hm : (nm, PySem.W.listOf xs.toArray c) ∈ B) {k : Int} (hn : xs.length = ar k) (h : Q (.int ((ar k : Nat) : Int) (s.toks + 1)) { s with toks := s.toks + 1 + 1 }) :
    wpAny (model prog w) A (call (.builtin "len") [.ref nm]) Q E s := by
  have hls : s.heap.IsList nm xs.toArray := ⟨_, (N _ (S.sub _ (.tail _ (List.mem_append.mpr (.inl hm))))).1, rfl, c, rfl⟩
  have h3 : ar k ≤ 3 := by unfold ar; split <;> first | omega | (split <;> omega)
  refine len_list hls (by rw [List.size_toArray]; omega) ?_
  rw [List.size_toArray, hn]; exact h
/-- another error is kept -/
theorem append8 {tup e d t w' nm C : Addr} {oe od : Obj} {vs vs' xs : List Value} {c : Nat} {k : Int} {nw : List (Addr × Obj)} (F : Fr h₀ L s.heap m) (N : News h₀ L s.heap led) (S : St8 made B us cn T own e₀ t₀' led) (mt : (tup, tupObj [.ref e, .ref w', .ref nm]) ∈ led) (me : (e, oe) ∈ led) (mk : (t, tupObj vs) ∈ led) (md : (d, od) ∈ led) (mw : (w', tupObj vs') ∈ led)
    (mB : (nm, PySem.W.listOf xs.toArray c) ∈ B) (ho : ErrObj C d t oe) (hK : KindC k C) (hA : AttrsK k od vs) (hF : Fls vs vs') (hn : NamesK k xs) (ap : Apart3 e d t nw) (hnw : ∀ p ∈ (made, PySem.W.listOf us.toArray cn) :: (B ++ (T ++ own)), p ∈ nw) (hz : us.length ≤ 100)
    (h : ∀ h', Fr h₀ L h' m → News h₀ L h' ((made, PySem.W.listOf (us ++ [Value.ref tup]).toArray (cn + 1)) :: (B ++ (((tup, tupObj [.ref e, .ref w', .ref nm]) :: (e, oe) :: (t, tupObj vs) :: (d, od) :: (w', tupObj vs') :: T) ++ own))) →
      St8 made B (us ++ [.ref tup]) (cn + 1) ((tup, tupObj [.ref e, .ref w', .ref nm]) :: (e, oe) :: (t, tupObj vs) :: (d, od) :: (w', tupObj vs') :: T) own e w' ((made, PySem.W.listOf (us ++ [Value.ref tup]).toArray (cn + 1)) :: (B ++ (((tup, tupObj [.ref e, .ref w', .ref nm]) :: (e, oe) :: (t, tupObj vs) :: (d, od) :: (w', tupObj vs') :: T) ++ own))) → Q .none { s with heap := h' }) :
    wpAny (model prog w) A (call (.builtin "list.append") [.ref made, .ref tup]) Q E s := by
  have e1 : (made, PySem.W.listOf us.toArray cn) ∈ led := S.sub _ (.head _)
  have z := N _ e1
  have c3 : oe.cls = .ref C := ho.cls
  have kl : ∀ p ∈ led, p.2.cls ≠ .type "list" → p.1 ≠ made := fun p hp hk => kind_off N hp e1 hk
  have ino : ∀ q ∈ own, q ∈ (made, PySem.W.listOf us.toArray cn) :: (B ++ (T ++ own)) := fun q hq => .tail _ (List.mem_append.mpr (.inr (List.mem_append.mpr (.inr hq))))
  have ko : ∀ p ∈ led, p.2.cls ≠ .type "list_iterator" → ∀ q ∈ own, p.1 ≠ q.1 := fun p hp hk q hq => kind_off N hp (S.sub q (ino q hq)) (by rw [S.cls q hq]; exact hk)
  have inB : ∀ p ∈ B, p ∈ led := fun p hp => S.sub p (.tail _ (List.mem_append.mpr (.inl hp)))
  have inT : ∀ p ∈ T, p ∈ led := fun p hp => S.sub p (.tail _ (List.mem_append.mpr (.inr (List.mem_append.mpr (.inl hp)))))
  have tup_l : ∀ (x : Addr) (l : List Value), (x, tupObj l) ∈ led → x ≠ made ∧ ∀ q ∈ own, x ≠ q.1 := fun x l hx => ⟨kl _ hx (by show Value.type "tuple" ≠ _; decide), ko _ hx (by show Value.type "tuple" ≠ _; decide)⟩
  have newp : ∀ p ∈ [(tup, tupObj [.ref e, .ref w', .ref nm]), (e, oe), (t, tupObj vs), (d, od), (w', tupObj vs')], p ∈ led ∧ p.1 ≠ made ∧ ∀ q ∈ own, p.1 ≠ q.1 := fun p hp => by
    simp only [List.mem_cons, List.not_mem_nil, or_false] at hp
    rcases hp with rfl | rfl | rfl | rfl | rfl
    · exact ⟨mt, tup_l _ _ mt⟩
    · exact ⟨me, kl _ me (by rw [c3]; exact fun z => nomatch z), ko _ me (by rw [c3]; exact fun z => nomatch z)⟩
    · exact ⟨mk, tup_l _ _ mk⟩
    · exact ⟨md, Ne.symm (ap.d _ (hnw _ (.head _))), fun q hq => Ne.symm (ap.d _ (hnw q (ino q hq)))⟩
    · exact ⟨mw, tup_l _ _ mw⟩
  have spl : ∀ p ∈ ((tup, tupObj [.ref e, .ref w', .ref nm]) :: (e, oe) :: (t, tupObj vs) :: (d, od) :: (w', tupObj vs') :: T), p ∈ [(tup, tupObj [.ref e, .ref w', .ref nm]), (e, oe), (t, tupObj vs), (d, od), (w', tupObj vs')] ∨ p ∈ T := fun p hp => by
    simp only [List.mem_cons, List.not_mem_nil, or_false] at hp ⊢
    rcases hp with h | h | h | h | h | h
    · exact .inl (.inl h)
    · exact .inl (.inr (.inl h))
    · exact .inl (.inr (.inr (.inl h)))
    · exact .inl (.inr (.inr (.inr (.inl h))))
    · exact .inl (.inr (.inr (.inr (.inr h))))
    · exact .inr h
  have up : ∀ p ∈ T, p ∈ ((tup, tupObj [.ref e, .ref w', .ref nm]) :: (e, oe) :: (t, tupObj vs) :: (d, od) :: (w', tupObj vs') :: T) := fun p hp => .tail _ (.tail _ (.tail _ (.tail _ (.tail _ hp))))
  have all : ∀ p ∈ B ++ (((tup, tupObj [.ref e, .ref w', .ref nm]) :: (e, oe) :: (t, tupObj vs) :: (d, od) :: (w', tupObj vs') :: T) ++ own), p ∈ led ∧ p.1 ≠ made := fun p hp => by
    rcases List.mem_append.mp hp with hp | hp
    · exact ⟨inB p hp, S.offm p (List.mem_append.mpr (.inl hp))⟩
    rcases List.mem_append.mp hp with hp | hp
    · rcases spl p hp with q | q
      · exact ⟨(newp p q).1, (newp p q).2.1⟩
      · exact ⟨inT p q, S.offm p (List.mem_append.mpr (.inr (List.mem_append.mpr (.inl q))))⟩
    · exact ⟨S.sub p (ino p hp), S.offm p (List.mem_append.mpr (.inr (List.mem_append.mpr (.inr hp))))⟩
  refine append_at (hsz := by rw [List.size_toArray]; show _ ≤ 2 ^ 24; omega) z.1 fun h' hsb ho' => ?_
  refine h h' (F.change hsb z.2.1 z.2.2) (fun p hp => ?_) ⟨fun _ z => z, fun v hv => ?_, ⟨d, t, k, C, oe, od, vs, vs', .tail _ (.head _), .tail _ (.tail _ (.tail _ (.head _))), .tail _ (.tail _ (.head _)), .tail _ (.tail _ (.tail _ (.tail _ (.head _)))), ho, hK, hA, hF⟩, fun p hp => (all p hp).2, fun p hp q hq => ?_, S.cls⟩
  · rcases List.mem_cons.mp hp with rfl | hp
    · refine ⟨?_, z.2⟩
      rw [ho']
      simp [PySem.W.listOf]
    · obtain ⟨q1, q2⟩ := all p hp
      exact ⟨(hsb.2 _ q2).trans (N p q1).1, (N p q1).2⟩
  · rcases List.mem_append.mp hv with hv | hv
    · exact (S.items v hv).mono up
    · rw [List.mem_singleton.mp hv]
      exact ⟨tup, e, d, t, w', nm, k, C, oe, od, vs, vs', xs, c, rfl, .head _, .tail _ (.head _), .tail _ (.tail _ (.tail _ (.head _))), .tail _ (.tail _ (.head _)), .tail _ (.tail _ (.tail _ (.tail _ (.head _)))), mB, ho, hK, hA, hF, hn⟩
  · rcases List.mem_append.mp hp with hp | hp
    · exact S.apart p (List.mem_append.mpr (.inl hp)) q hq
    · rcases spl p hp with y | y
      · exact (newp p y).2.2 q hq
      · exact S.apart p (List.mem_append.mpr (.inr y)) q hq
end
end Mine

end

/-! L08c -/
section
open PySem PySem.W PySem.Calls PyProof.Rows PyProof.V PySem.Spec
namespace Mine
theorem nk2 {k : Int} {t1 t2 : Tok} (h1 : k ≠ 1) (h2 : k ≠ 2) : NamesK k [.str (Str.ofString "code") t1, .str (Str.ofString "msg") t2] := .inl ⟨t1, t2, rfl, h1, h2⟩
theorem nk3 {t1 t2 t3 : Tok} : NamesK 1 [.str (Str.ofString "code") t1, .str (Str.ofString "msg") t2, .str (Str.ofString "sender") t3] := .inr (.inl ⟨t1, t2, t3, rfl, rfl⟩)
theorem nk1 {t1 : Tok} : NamesK 2 [.str (Str.ofString "recipients") t1] := .inr (.inr ⟨t1, rfl, rfl⟩)
theorem const8 {kinds names D n0 n1 n2 n3 n4 n5 n6 : Addr} {ws x0 x1 x2 x3 x4 x5 x6 : List Value} {c0 c1 c2 c3 c4 c5 c6 : Nat} {B : List (Addr × Obj)} (m2 : (names, PySem.W.listOf [Value.ref n0, .ref n1, .ref n2, .ref n3, .ref n4, .ref n5, .ref n6].toArray 0) ∈ B)
    (h0 : (n0, PySem.W.listOf x0.toArray c0) ∈ B) (h1 : (n1, PySem.W.listOf x1.toArray c1) ∈ B) (h2 : (n2, PySem.W.listOf x2.toArray c2) ∈ B) (h3 : (n3, PySem.W.listOf x3.toArray c3) ∈ B) (h4 : (n4, PySem.W.listOf x4.toArray c4) ∈ B) (h5 : (n5, PySem.W.listOf x5.toArray c5) ∈ B) (h6 : (n6, PySem.W.listOf x6.toArray c6) ∈ B)
    (m1 : (kinds, PySem.W.listOf kindsV.toArray 0) ∈ B) (mD : (D, PySem.W.listOf ws.toArray 0) ∈ B) (k0 : NamesK 0 x0) (k1 : NamesK 1 x1) (k2 : NamesK 2 x2) (k3 : NamesK 3 x3) (k4 : NamesK 4 x4) (k5 : NamesK 5 x5) (k6 : NamesK 6 x6) :
    Const8 kinds names D ws [.ref n0, .ref n1, .ref n2, .ref n3, .ref n4, .ref n5, .ref n6] B := by
  refine ⟨m1, m2, rfl, fun i v hv => ?_, mD⟩
  match i, hv with
  | 0, hv => simp only [List.getElem?_cons_zero, Option.some.injEq] at hv; exact ⟨n0, x0, c0, hv.symm, h0, k0⟩
  | 1, hv => simp only [List.getElem?_cons_succ, List.getElem?_cons_zero, Option.some.injEq] at hv; exact ⟨n1, x1, c1, hv.symm, h1, k1⟩
  | 2, hv => simp only [List.getElem?_cons_succ, List.getElem?_cons_zero, Option.some.injEq] at hv; exact ⟨n2, x2, c2, hv.symm, h2, k2⟩
  | 3, hv => simp only [List.getElem?_cons_succ, List.getElem?_cons_zero, Option.some.injEq] at hv; exact ⟨n3, x3, c3, hv.symm, h3, k3⟩
  | 4, hv => simp only [List.getElem?_cons_succ, List.getElem?_cons_zero, Option.some.injEq] at hv; exact ⟨n4, x4, c4, hv.symm, h4, k4⟩
  | 5, hv => simp only [List.getElem?_cons_succ, List.getElem?_cons_zero, Option.some.injEq] at hv; exact ⟨n5, x5, c5, hv.symm, h5, k5⟩
  | 6, hv => simp only [List.getElem?_cons_succ, List.getElem?_cons_zero, Option.some.injEq] at hv; exact ⟨n6, x6, c6, hv.symm, h6, k6⟩
  | i + 7, hv => simp at hv
section
variable {prog : Program} {w' : World} {w : World} {A : Around} {E : Value → Shared → Prop} {s : Shared} {env : Env} {h₀ : Heap} {body : List Stmt} {Q : Flow → Shared → Prop} {loose : List Str} {mean : ExcName → Option Value} {mg mb : Str → Option Value}
theorem start8 {h : Heap} {L made u₀ e₀ d₀ t₀ t₀' names n0 kinds D : Addr} {oe od : Obj} {a b a' b' : Value} {x0 ws nv : List Value} {c0 cn₀ : Nat} {B : List (Addr × Obj)}
    (N : News h₀ L h ((made, PySem.W.listOf [Value.ref u₀].toArray cn₀) :: (u₀, tupObj [.ref e₀, .ref t₀', .ref n0]) :: (t₀', tupObj [a', b']) :: (t₀, tupObj [a, b]) :: (d₀, od) :: (e₀, oe) :: B)) (hB : Const8 kinds names D ws nv B) (h0 : (n0, PySem.W.listOf x0.toArray c0) ∈ B) (k0 : NamesK 0 x0)
    (ho : ErrObj 44 d₀ t₀ oe) (ha : Attrs od (some a) (some b) none none) (hfl : Fls [a, b] [a', b']) (lt : AllLt made ((d₀, od) :: B)) :
    St8 made B [.ref u₀] cn₀ [(u₀, tupObj [.ref e₀, .ref t₀', .ref n0]), (t₀', tupObj [a', b']), (t₀, tupObj [a, b]), (d₀, od), (e₀, oe)] [] e₀ t₀' ((made, PySem.W.listOf [Value.ref u₀].toArray cn₀) :: (u₀, tupObj [.ref e₀, .ref t₀', .ref n0]) :: (t₀', tupObj [a', b']) :: (t₀, tupObj [a, b]) :: (d₀, od) :: (e₀, oe) :: B) := by
  have c63 : oe.cls = .ref 44 := ho.cls
  have off := allLt_off lt
  have aK : AttrsK 0 od [a, b] := .inl ⟨a, b, rfl, by decide, by decide, ha⟩
  refine ⟨fun p hp => ?_, fun v hv => ?_, ⟨d₀, t₀, 0, 44, oe, od, [a, b], [a', b'], by simp, by simp, by simp, by simp, ho, .inl ⟨rfl, rfl⟩, aK, hfl⟩, fun p hp => ?_, fun p _ q hq => (nomatch hq), fun q hq => (nomatch hq)⟩
  · simp only [List.mem_cons, List.mem_append, List.not_mem_nil, or_false] at hp ⊢
    rcases hp with h | h | h
    · exact .inl h
    · exact .inr (.inr (.inr (.inr (.inr (.inr h)))))
    · rcases h with h | h | h | h | h
      · exact .inr (.inl h)
      · exact .inr (.inr (.inl h))
      · exact .inr (.inr (.inr (.inl h)))
      · exact .inr (.inr (.inr (.inr (.inl h))))
      · exact .inr (.inr (.inr (.inr (.inr (.inl h)))))
  · rw [List.mem_singleton.mp hv]
    exact ⟨u₀, e₀, d₀, t₀, t₀', n0, 0, 44, oe, od, [a, b], [a', b'], x0, c0, rfl, by simp, by simp, by simp, by simp, by simp, h0, ho, .inl ⟨rfl, rfl⟩, aK, hfl, k0⟩
  · rcases List.mem_append.mp hp with hp | hp
    · exact Nat.ne_of_lt (off p (.tail _ hp))
    · simp only [List.append_nil, List.mem_cons, List.not_mem_nil, or_false] at hp
      rcases hp with rfl | rfl | rfl | rfl | rfl
      · exact kind_off N (.tail _ (.head _)) (.head _) (by show Value.type "tuple" ≠ Value.type "list"; decide)
      · exact kind_off N (.tail _ (.tail _ (.head _))) (.head _) (by show Value.type "tuple" ≠ Value.type "list"; decide)
      · exact kind_off N (.tail _ (.tail _ (.tail _ (.head _)))) (.head _) (by show Value.type "tuple" ≠ Value.type "list"; decide)
      · exact Nat.ne_of_lt (off _ (.head _))
      · exact kind_off N (.tail _ (.tail _ (.tail _ (.tail _ (.tail _ (.head _)))))) (.head _) (by rw [c63]; exact fun z => nomatch z)
/-! the second loop -/
abbrev look8 : List Str := [Str.ofString "error", Str.ofString "due", Str.ofString "own", Str.ofString "whole", Str.ofString "name", Str.ofString "thing"]
def Look8J (led : List (Addr × Obj)) (m₀ : Str → Option Value) (_ : Nat) (m : Str → Option Value) (nx : List (Addr × Obj)) : Prop := nx = led ∧ ∀ z, look8.contains z = false → m z = m₀ z
theorem iter8_2 {elts : List Expr} {pt : Pos} {x1 : Nat} {made : Addr} {us : List Value} {cn : Nat} {B T : List (Addr × Obj)} {m₀ : Str → Option Value} {P : Params} (_ : (K8 P).In h₀)
    (hh : A.handled = none) (hI : ∀ v ∈ us, Item8 B T v) (F : Fr h₀ env.locals s.heap m₀) (N : News h₀ env.locals s.heap ((made, PySem.W.listOf us.toArray cn) :: (B ++ T))) (hE : PassesOwn (model prog w) A env E)
    (turnR : ∀ (i : Nat) (u' e d t t' nm C : Addr) (oe od oI : Obj) (a b a' b' : Value) (k1 k2 : Tok) (c : Nat) (u : Str → Option Value) (h : Heap) (tk : Nat) (I : Addr), KstMark → ErrCls (K8 P) C → ErrObj C d t oe → Attrs od (some a) (some b) none none → Fl a a' → Fl b b' → handedIn a = true → handedIn b = true → (∀ p ∈ (made, PySem.W.listOf us.toArray cn) :: (B ++ T), p.1 ≠ I) →
      Fr h₀ env.locals h (fun y => if look8.contains y then u y else m₀ y) →
      News h₀ env.locals h ((u', tupObj [.ref e, .ref t', .ref nm]) :: (e, oe) :: (d, od) :: (t, tupObj [a, b]) :: (t', tupObj [a', b']) :: (nm, PySem.W.listOf [Value.str (Str.ofString "code") k1, Value.str (Str.ofString "msg") k2].toArray c) :: (((made, PySem.W.listOf us.toArray cn) :: (B ++ T)) ++ [(I, oI)])) →
      wpAny (model prog w) A (assign (.Tuple elts x1 pt) env (.ref u')) (fun _ s₂ => wpAny (model prog w) A (execs body env) (PostT h₀ env.locals (Look8J ((made, PySem.W.listOf us.toArray cn) :: (B ++ T)) m₀ (i + 1)) [(I, oI)] { s with heap := h, toks := tk } Q) E s₂) E { s with heap := h, toks := tk })
    (turnS : ∀ (i : Nat) (u' e d t t' nm C : Addr) (oe od oI : Obj) (a b x a' b' x' : Value) (k1 k2 k3 : Tok) (c : Nat) (u : Str → Option Value) (h : Heap) (tk : Nat) (I : Addr), KstMark → ErrCls (K8 P) C → ErrObj C d t oe → Attrs od (some a) (some b) (some x) none → Fl a a' → Fl b b' → Fl x x' → handedIn a = true → handedIn b = true → handedIn x = true → (∀ p ∈ (made, PySem.W.listOf us.toArray cn) :: (B ++ T), p.1 ≠ I) →
      Fr h₀ env.locals h (fun y => if look8.contains y then u y else m₀ y) →
      News h₀ env.locals h ((u', tupObj [.ref e, .ref t', .ref nm]) :: (e, oe) :: (d, od) :: (t, tupObj [a, b, x]) :: (t', tupObj [a', b', x']) :: (nm, PySem.W.listOf [Value.str (Str.ofString "code") k1, Value.str (Str.ofString "msg") k2, Value.str (Str.ofString "sender") k3].toArray c) :: (((made, PySem.W.listOf us.toArray cn) :: (B ++ T)) ++ [(I, oI)])) →
      wpAny (model prog w) A (assign (.Tuple elts x1 pt) env (.ref u')) (fun _ s₂ => wpAny (model prog w) A (execs body env) (PostT h₀ env.locals (Look8J ((made, PySem.W.listOf us.toArray cn) :: (B ++ T)) m₀ (i + 1)) [(I, oI)] { s with heap := h, toks := tk } Q) E s₂) E { s with heap := h, toks := tk })
    (turnC : ∀ (i : Nat) (u' e d t t' nm C : Addr) (oe od oI : Obj) (a a' : Value) (k1 : Tok) (c : Nat) (u : Str → Option Value) (h : Heap) (tk : Nat) (I : Addr), KstMark → ErrCls (K8 P) C → ErrObj C d t oe → Attrs od none none none (some a) → Fl a a' → handedIn a = true → (∀ p ∈ (made, PySem.W.listOf us.toArray cn) :: (B ++ T), p.1 ≠ I) →
      Fr h₀ env.locals h (fun y => if look8.contains y then u y else m₀ y) →
      News h₀ env.locals h ((u', tupObj [.ref e, .ref t', .ref nm]) :: (e, oe) :: (d, od) :: (t, tupObj [a]) :: (t', tupObj [a']) :: (nm, PySem.W.listOf [Value.str (Str.ofString "recipients") k1].toArray c) :: (((made, PySem.W.listOf us.toArray cn) :: (B ++ T)) ++ [(I, oI)])) →
      wpAny (model prog w) A (assign (.Tuple elts x1 pt) env (.ref u')) (fun _ s₂ => wpAny (model prog w) A (execs body env) (PostT h₀ env.locals (Look8J ((made, PySem.W.listOf us.toArray cn) :: (B ++ T)) m₀ (i + 1)) [(I, oI)] { s with heap := h, toks := tk } Q) E s₂) E { s with heap := h, toks := tk })
    (done : ∀ (u : Str → Option Value) (h : Heap) (tk : Nat), Fr h₀ env.locals h (fun y => if look8.contains y then u y else m₀ y) → News h₀ env.locals h ((made, PySem.W.listOf us.toArray cn) :: (B ++ T)) → Q .next { s with heap := h, toks := tk }) :
    wpAny (model prog w) A (pyIter (.ref made)) (fun it s₂ => ForAt prog w A env (.Tuple elts x1 pt) body Q E it s₂) E s := by
  have fx : ∀ {h m₁}, Fr h₀ env.locals h m₁ → (∀ z, look8.contains z = false → m₁ z = m₀ z) → Fr h₀ env.locals h (fun y => if look8.contains y then m₁ y else m₀ y) := fun F hm => fr_ext F fun y => by
    cases y3 : look8.contains y with
    | true => simp
    | false => simpa using hm y y3
  refine iter_tuples (l := made) (vs := us) (nn := cn) (Look8J ((made, PySem.W.listOf us.toArray cn) :: (B ++ T)) m₀) hh (.head _) F N ⟨rfl, fun _ _ => rfl⟩ ?_ ?_ hE ?_ ?_
  · rintro i m nx ⟨rfl, _⟩; exact .head _
  · intro v hv
    obtain ⟨u, _, _, _, _, _, _, _, _, _, _, _, _, _, h1, _⟩ := hI v hv
    exact ⟨u, h1⟩
  · rintro i v m₁ nx h tk It oI hv ⟨rfl, hm⟩ off F₁ N₁
    obtain ⟨u', e, d, t, t', nm, k, C, oe, od, vs, vs', xs, c, rfl, q1, q2, q3, q4, q5, q6, ho, hK, hA, hF, hn⟩ := hI v (List.mem_of_getElem? hv)
    have off' : ∀ p ∈ (made, PySem.W.listOf us.toArray cn) :: (B ++ T), p.1 ≠ It := fun p hp => off p hp _ (.head _)
    have up : ∀ p ∈ T, p ∈ (((made, PySem.W.listOf us.toArray cn) :: (B ++ T)) ++ [(It, oI)]) := fun p hp => List.mem_append.mpr (.inl (.tail _ (List.mem_append.mpr (.inr hp))))
    have N₂ : News h₀ env.locals h ((u', tupObj [.ref e, .ref t', .ref nm]) :: (e, oe) :: (d, od) :: (t, tupObj vs) :: (t', tupObj vs') :: (nm, PySem.W.listOf xs.toArray c) :: (((made, PySem.W.listOf us.toArray cn) :: (B ++ T)) ++ [(It, oI)])) := fun p hp => N₁ p (by
      rcases List.mem_cons.mp hp with rfl | hp
      · exact up _ q1
      rcases List.mem_cons.mp hp with rfl | hp
      · exact up _ q2
      rcases List.mem_cons.mp hp with rfl | hp
      · exact up _ q3
      rcases List.mem_cons.mp hp with rfl | hp
      · exact up _ q4
      rcases List.mem_cons.mp hp with rfl | hp
      · exact up _ q5
      rcases List.mem_cons.mp hp with rfl | hp
      · exact List.mem_append.mpr (.inl (.tail _ (List.mem_append.mpr (.inl q6))))
      · exact hp)
    have ec := kind_cls P hK
    rcases hA with ⟨a, b, rfl, k1, k2, ha⟩ | ⟨a, b, x, rfl, rfl, ha⟩ | ⟨a, rfl, rfl, ha⟩
    · obtain ⟨t1, t2, rfl⟩ : ∃ t1 t2, xs = [.str (Str.ofString "code") t1, .str (Str.ofString "msg") t2] := by
        rcases hn with ⟨t1, t2, rfl, _⟩ | ⟨_, _, _, _, z⟩ | ⟨_, _, z⟩
        · exact ⟨t1, t2, rfl⟩
        · exact absurd z k1
        · exact absurd z k2
      match vs', hF with
      | [a', b'], ⟨f1, f2, _⟩ => exact turnR i u' e d t t' nm C oe od oI a b a' b' t1 t2 c m₁ h tk It kstMark ec ho ha f1 f2 f1.handed.1 f2.handed.1 off' (fx F₁ hm) N₂
      | [], hF => exact hF.elim
      | [_], hF => exact hF.2.elim
      | _ :: _ :: _ :: _, hF => exact hF.2.2.elim
    · obtain ⟨t1, t2, t3, rfl⟩ : ∃ t1 t2 t3, xs = [.str (Str.ofString "code") t1, .str (Str.ofString "msg") t2, .str (Str.ofString "sender") t3] := by
        rcases hn with ⟨_, _, _, z, _⟩ | ⟨t1, t2, t3, rfl, _⟩ | ⟨_, _, z⟩
        · exact absurd rfl z
        · exact ⟨t1, t2, t3, rfl⟩
        · exact absurd z (by decide)
      match vs', hF with
      | [a', b', x'], ⟨f1, f2, f3, _⟩ => exact turnS i u' e d t t' nm C oe od oI a b x a' b' x' t1 t2 t3 c m₁ h tk It kstMark ec ho ha f1 f2 f3 f1.handed.1 f2.handed.1 f3.handed.1 off' (fx F₁ hm) N₂
      | [], hF => exact hF.elim
      | [_], hF => exact hF.2.elim
      | [_, _], hF => exact hF.2.2.elim
      | _ :: _ :: _ :: _ :: _, hF => exact hF.2.2.2.elim
    · obtain ⟨t1, rfl⟩ : ∃ t1, xs = [.str (Str.ofString "recipients") t1] := by
        rcases hn with ⟨_, _, _, _, z⟩ | ⟨_, _, _, _, z⟩ | ⟨t1, rfl, _⟩
        · exact absurd rfl z
        · exact absurd z (by decide)
        · exact ⟨t1, rfl⟩
      match vs', hF with
      | [a'], ⟨f1, _⟩ => exact turnC i u' e d t t' nm C oe od oI a a' t1 c m₁ h tk It kstMark ec ho ha f1 f1.handed.1 off' (fx F₁ hm) N₂
      | [], hF => exact hF.elim
      | _ :: _ :: _, hF => exact hF.2.elim
  · rintro m₁ nx h tk ⟨rfl, hm⟩ F₁ N₁
    exact done m₁ h tk (fx F₁ hm) N₁
theorem turn8b_end {bs led : List (Addr × Obj)} {I : Addr} {oI : Obj} {i : Nat} {m₀ mm : Str → Option Value} {h : Heap} {s₁ : Shared} {tk : Nat} (F : Fr h₀ env.locals h mm) (N : News h₀ env.locals h led) (hs : ∀ p ∈ bs ++ [(I, oI)], p ∈ led) (off : ∀ p ∈ bs, p.1 ≠ I)
    (hm : ∀ z, look8.contains z = false → mm z = m₀ z) : EndT h₀ env.locals (Look8J bs m₀ i) [(I, oI)] s₁ { s₁ with heap := h, toks := tk } :=
  ⟨h, tk, mm, bs, rfl, F, fun p hp => N p (hs p (List.mem_append.mpr (.inl hp))), fun p hp => N p (hs p (List.mem_append.mpr (.inr hp))), fun p hp q hq => by rw [List.mem_singleton.mp hq]; exact off p hp, rfl, hm⟩
end
theorem look8_ne {z : Str} (h : look8.contains z = false) : z ≠ Str.ofString "error" ∧ z ≠ Str.ofString "due" ∧ z ≠ Str.ofString "own" ∧ z ≠ Str.ofString "whole" ∧ z ≠ Str.ofString "name" ∧ z ≠ Str.ofString "thing" := by
  have hn : z ∉ look8 := by
    intro hm
    rw [List.contains_iff_mem.mpr hm] at h
    cases h
  refine ⟨?_, ?_, ?_, ?_, ?_, ?_⟩ <;> (rintro rfl; exact hn (by k_mem))
end Mine

end

/-! L08d -/
section
open PySem PySem.W PySem.Calls PyProof.Rows PyProof.V PySem.Spec
namespace Mine
section
variable {prog : Program} {w' : World} {w : World} {A : Around} {E : Value → Shared → Prop} {s : Shared} {env : Env} {h₀ : Heap} {body : List Stmt} {Q : Flow → Shared → Prop} {loose : List Str} {mean : ExcName → Option Value} {mg mb : Str → Option Value}
end
section
variable (w : World) (mean : ExcName → Option Value) (mg mb : Str → Option Value) (loose : List Str) (C e d t : Addr) (oe od : Obj) (led : List (Addr × Obj)) (dp un : Nat) (gd : Option (List Code)) (cn : Str) (cs : Scope) (a : Addr) (ccd : Value) (h₀ : Heap) (L : Addr) (m : Str → Option Value) (s : Shared) (Q E : Value → Shared → Prop)
theorem read8_reply (v1 v2 : Value) (F : Fr h₀ L s.heap m) (X : (K8 w.params).In h₀) (N : News h₀ L s.heap led) (T : Top hd.view_39 loose mean mg mb h₀) (hk : cs.kind = .function) (hdp : dp + 1 < recursionLimit) (hun : un + 8 < cLine)
    (hC : ErrCls (K8 w.params) C) (ho : ErrObj C d t oe) (ha : Attrs od (some v1) (some v2) none none) (hv1 : handedIn v1 = true) (hv2 : handedIn v2 = true) (me : (e, oe) ∈ led) (md : (d, od) ∈ led) (mt : (t, tupObj [v1, v2]) ∈ led)
    (hret : ∀ D oD h' tk, (D == sysModules) = false → Obj.IsDictOf (PySem.strKind PySem.Challenge.rw_dn0159_08.row.prog w) oD [(Str.ofString "args", Value.ref t), (Str.ofString "code", v1), (Str.ofString "msg", v2)] → Fr h₀ L h' m → News h₀ L h' ((D, oD) :: led) → Q (.ref D) { s with heap := h', toks := tk }) :
    wpAny (model PySem.Challenge.rw_dn0159_08.row.prog w) (ktrTop dp un gd cn cs L a ccd [] []) (call (.ref 139) [.ref e]) Q E s := by
  obtain ⟨a1, a2, a3, a4⟩ := ha
  refine read_reply w mean mg mb loose [] C e d t oe od (tupObj [v1, v2]) v1 v2 led dp un gd cn cs a ccd h₀ L m s Q E F X (fun p hp => N p ?_) T hk hdp hun hC ho a1 a2 a3 a4 hv1 hv2 fun D oD h' tk lo hdd F' N' _ => hret D oD h' tk lo hdd F' fun p hp => N' p ?_
  · rcases List.mem_cons.mp hp with rfl | hp
    · exact me
    rcases List.mem_cons.mp hp with rfl | hp
    · exact md
    rcases List.mem_cons.mp hp with rfl | hp
    · exact mt
    · exact hp
  · rcases List.mem_cons.mp hp with rfl | hp
    · exact .head _
    · exact .tail _ (.tail _ (.tail _ (.tail _ hp)))
theorem read8_sender (v1 v2 v3 : Value) (F : Fr h₀ L s.heap m) (X : (K8 w.params).In h₀) (N : News h₀ L s.heap led) (T : Top hd.view_39 loose mean mg mb h₀) (hk : cs.kind = .function) (hdp : dp + 1 < recursionLimit) (hun : un + 8 < cLine)
    (hC : ErrCls (K8 w.params) C) (ho : ErrObj C d t oe) (ha : Attrs od (some v1) (some v2) (some v3) none) (hv1 : handedIn v1 = true) (hv2 : handedIn v2 = true) (hv3 : handedIn v3 = true) (me : (e, oe) ∈ led) (md : (d, od) ∈ led) (mt : (t, tupObj [v1, v2, v3]) ∈ led)
    (hret : ∀ D oD h' tk, (D == sysModules) = false → Obj.IsDictOf (PySem.strKind PySem.Challenge.rw_dn0159_08.row.prog w) oD [(Str.ofString "args", Value.ref t), (Str.ofString "code", v1), (Str.ofString "msg", v2), (Str.ofString "sender", v3)] → Fr h₀ L h' m → News h₀ L h' ((D, oD) :: led) → Q (.ref D) { s with heap := h', toks := tk }) :
    wpAny (model PySem.Challenge.rw_dn0159_08.row.prog w) (ktrTop dp un gd cn cs L a ccd [] []) (call (.ref 139) [.ref e]) Q E s := by
  obtain ⟨a1, a2, a3, a4⟩ := ha
  refine read_sender w mean mg mb loose [] C e d t oe od (tupObj [v1, v2, v3]) v1 v2 v3 led dp un gd cn cs a ccd h₀ L m s Q E F X (fun p hp => N p ?_) T hk hdp hun hC ho a1 a2 a3 a4 hv1 hv2 hv3 fun D oD h' tk lo hdd F' N' _ => hret D oD h' tk lo hdd F' fun p hp => N' p ?_
  · rcases List.mem_cons.mp hp with rfl | hp
    · exact me
    rcases List.mem_cons.mp hp with rfl | hp
    · exact md
    rcases List.mem_cons.mp hp with rfl | hp
    · exact mt
    · exact hp
  · rcases List.mem_cons.mp hp with rfl | hp
    · exact .head _
    · exact .tail _ (.tail _ (.tail _ (.tail _ hp)))
theorem read8_rcpt (v4 : Value) (F : Fr h₀ L s.heap m) (X : (K8 w.params).In h₀) (N : News h₀ L s.heap led) (T : Top hd.view_39 loose mean mg mb h₀) (hk : cs.kind = .function) (hdp : dp + 1 < recursionLimit) (hun : un + 8 < cLine)
    (hC : ErrCls (K8 w.params) C) (ho : ErrObj C d t oe) (ha : Attrs od none none none (some v4)) (hv4 : handedIn v4 = true) (me : (e, oe) ∈ led) (md : (d, od) ∈ led) (mt : (t, tupObj [v4]) ∈ led)
    (hret : ∀ D oD h' tk, (D == sysModules) = false → Obj.IsDictOf (PySem.strKind PySem.Challenge.rw_dn0159_08.row.prog w) oD [(Str.ofString "args", Value.ref t), (Str.ofString "recipients", v4)] → Fr h₀ L h' m → News h₀ L h' ((D, oD) :: led) → Q (.ref D) { s with heap := h', toks := tk }) :
    wpAny (model PySem.Challenge.rw_dn0159_08.row.prog w) (ktrTop dp un gd cn cs L a ccd [] []) (call (.ref 139) [.ref e]) Q E s := by
  obtain ⟨a1, a2, a3, a4⟩ := ha
  refine read_rcpt w mean mg mb loose [] C e d t oe od (tupObj [v4]) v4 led dp un gd cn cs a ccd h₀ L m s Q E F X (fun p hp => N p ?_) T hk hdp hun hC ho a1 a2 a3 a4 hv4 fun D oD h' tk lo hdd F' N' _ => hret D oD h' tk lo hdd F' fun p hp => N' p ?_
  · rcases List.mem_cons.mp hp with rfl | hp
    · exact me
    rcases List.mem_cons.mp hp with rfl | hp
    · exact md
    rcases List.mem_cons.mp hp with rfl | hp
    · exact mt
    · exact hp
  · rcases List.mem_cons.mp hp with rfl | hp
    · exact .head _
    · exact .tail _ (.tail _ (.tail _ (.tail _ hp)))
end
end Mine

end

/-! S8 -/
section
open PySem PySem.W PySem.Calls PyProof.Rows PyProof.V PySem.Spec
namespace Mine
theorem adjust_to (n : Nat) (ha : 1 ≤ n) : Builtin.Slice.sliceAdjust none (some (-1)) 1 (n : Int) = ((0 : Int), ((n - 1 : Nat) : Int)) := by
  unfold Builtin.Slice.sliceAdjust
  have h1 : ¬ ((1 : Int) < 0) := by omega
  have h2 : ((-1 : Int) < 0) := by omega
  simp only [h1, h2, if_false, if_true]
  congr 1
  omega
theorem places_to (n : Nat) (ha : 1 ≤ n) : Builtin.Slice.slicePlaces (0 : Int) ((n - 1 : Nat) : Int) 1 = n - 1 := by
  unfold Builtin.Slice.slicePlaces
  have h1 : (1 : Int) > 0 := by omega
  simp only [h1, if_true, Int.ediv_one]
  split <;> omega
section
variable {prog : Program} {w : World} {A : Around} {E : Value → Shared → Prop} {s : Shared}
theorem sliceApplied_to {sl : Addr} {n : Nat} {u : Tok} {Q : Int × Int × Nat → Shared → Prop} (hs : s.heap.IsSliceOf sl .none (.int (-1) u) .none) (ha : 1 ≤ n) (h : Q ((0 : Int), 1, n - 1) s) :
    wpAny (model prog w) A (Builtin.Slice.sliceApplied (.ref sl) (pure (n : Int))) Q E s := by
  obtain ⟨os, hos, hcs, hds⟩ := id hs
  unfold Builtin.Slice.sliceApplied Builtin.Slice.sliceFields
  refine wpAny_bind (wpAny_bind (wpAny_field hos hds (x := .none) rfl (wpAny_bind (wpAny_field hos hds (x := .int (-1) u) rfl (wpAny_bind (wpAny_field hos hds (x := .none) rfl (wpAny_pure ?_)))))))
  refine wpAny_bind (slicePart_none ?_)
  show wpAny _ _ (if ((1 : Int) == 0) = true then _ else _) _ _ s
  rw [if_neg (by decide)]
  refine wpAny_bind (slicePart_none (wpAny_bind (slicePart_int (wpAny_bind (wpAny_pure ?_)))))
  show wpAny _ _ (match Builtin.Slice.sliceAdjust none (some (-1)) 1 (n : Int) with | (lo, hi) => pure (lo, (1 : Int), Builtin.Slice.slicePlaces lo hi 1)) _ _ s
  rw [adjust_to n ha]
  show wpAny _ _ (pure ((0 : Int), (1 : Int), Builtin.Slice.slicePlaces (0 : Int) ((n - 1 : Nat) : Int) 1)) _ _ s
  rw [places_to n ha]
  exact wpAny_pure h
theorem pick_to (xs : Array Value) : ((List.range (xs.size - 1)).filterMap fun (k : Nat) => xs[((0 : Int) + (k : Int) * 1).toNat]?).toArray = (xs.toList.take (xs.size - 1)).toArray := by
  have e : (fun (k : Nat) => xs[((0 : Int) + (k : Int) * 1).toNat]?) = fun k => xs[0 + k]? := by
    funext k
    have : ((0 : Int) + (k : Int) * 1).toNat = 0 + k := by omega
    rw [this]
  rw [e]
  have := pick_run xs 0 (xs.size - 1)
  rw [List.filterMap_map] at this
  have e2 : ((fun x => xs[x]?) ∘ fun x => 0 + x) = fun k => xs[0 + k]? := rfl
  rw [e2] at this
  rw [this, List.drop_zero]
theorem getItem_tuple_to {t sl : Addr} {items : Array Value} {u : Tok} {Q : Value → Shared → Prop} (ht : IsTup s.heap t items) (hs : s.heap.IsSliceOf sl .none (.int (-1) u) .none) (ha : 1 ≤ items.size)
    (h : Q (.ref s.heap.objs.size) { s with heap := s.heap.push { cls := .type "tuple", data := .seq (items.toList.take (items.size - 1)).toArray } })
    (hsz : items.size ≤ sizeLine) : wpAny (model prog w) A (getItem (.ref t) (.ref sl)) Q E s := by
  have hdrop : sizeOk (.seq (items.toList.take (items.size - 1)).toArray) := by
    show (items.toList.take (items.size - 1)).toArray.size ≤ sizeLine
    rw [List.size_toArray, List.length_take, Array.length_toList]
    omega
  obtain ⟨os, hos, hcs, hds⟩ := id hs
  have hTs : s.TypeIs (.ref sl) "slice" := ⟨os, hos, hcs⟩
  unfold getItem
  try with_reducible refine wpAny_holding ?_
  first | refine wpAny_bind (wpAny_pure ?_) | skip
  refine wpAny_bind (wpAny_sequenceKey ht.typeIs (by decide) ?_)
  refine wpAny_bind (wpAny_callSpecial?_slot (name := Str.ofString "__getitem__") ht.typeIs slot_tuple_getitem
    (wpAny_call_entry slot_tuple_getitem ht.typeIs entry_tuple_getitem ?_ (args_tuple_getitem _ _)))
  show wpAny _ _ (Builtin.Tuple.tupleItemsOf (.ref t) >>= _) _ _ s
  refine wpAny_bind (tupleItemsOf_ ht ?_)
  refine wpAny_bind (wpAny_typeOf hTs ?_)
  rw [if_pos (by decide)]
  refine wpAny_bind (sliceApplied_to hs ha ?_)
  have hno : ¬ (((0 : Int) == 0 && (1 : Int) == 1 && (items.size - 1) == items.size) = true) := by
    have : ((items.size - 1) == items.size) = false := by rw [beq_eq_false_iff_ne]; omega
    rw [this]; simp
  show wpAny _ _ (if ((0 : Int) == 0 && (1 : Int) == 1 && (items.size - 1) == items.size) = true then _ else _) _ _ s
  rw [if_neg hno, pick_to items]
  first
    | exact wpAny_bind (m := Builtin.Tuple.tupleExact _) (wpAny_newObj_type (wpAny_pure ⟨_, rfl, wpAny_pure h⟩) hdrop)
    | exact wpAny_bind (m := Builtin.Tuple.tupleExact _) (wpAny_newObj_type (wpAny_bind (wpAny_pure (wpAny_pure ⟨_, rfl, wpAny_pure h⟩))) hdrop)
    | exact wpAny_bind (wpAny_bind (m := Builtin.Tuple.tupleExact _) (wpAny_newObj_type (wpAny_pure (wpAny_pure ⟨_, rfl, wpAny_pure h⟩)) hdrop))
    | exact wpAny_bind (wpAny_bind (m := Builtin.Tuple.tupleExact _) (wpAny_newObj_type (wpAny_pure ⟨_, rfl, wpAny_pure h⟩) hdrop))
end
section
variable {prog : Program} {w : World} {A : Around} {E : Value → Shared → Prop} {s : Shared} {h₀ : Heap} {L : Addr} {m : Str → Option Value} {led : List (Addr × Obj)}
theorem cut_last {value slice : Expr} {t : Addr} {vs : List Value} {u : Tok} {Q : Value → Shared → Prop}
    (F : Fr h₀ L s.heap m) (N : News h₀ L s.heap led) (mt : (t, tupObj vs) ∈ led) (ha : 1 ≤ vs.length) (hz : vs.length ≤ 63) {zs : List Value} (e : vs.take (vs.length - 1) = zs)
    (h : ∀ D h', Fr h₀ L h' m → News h₀ L h' ((D, tupObj zs) :: led) → (∀ p ∈ led, p.1 < D) → Q (.ref D) { s with heap := h' })
    (hs : subscripted slice false (.ref t) (.ref s.heap.objs.size) = operate [.ref s.heap.objs.size, .ref t] (getItem (.ref t) (.ref s.heap.objs.size)))
    (hg : ∀ r, letTemporaryGo value (.ref t) r = pure ()) :
    wpAny (model prog w) A (subscriptTail value slice (.ref t) (.ref s.heap.objs.size)) Q E { s with heap := s.heap.push { cls := .type "slice", data := .fields #[.none, .int (-1) u, .none] } } := by
  subst e
  have ht : IsTup s.heap t vs.toArray := ⟨_, (N _ mt).1, rfl, _, rfl⟩
  have ht' : IsTup (s.heap.push { cls := .type "slice", data := .fields #[.none, .int (-1) u, .none] }) t vs.toArray := ht.keeps fun _ _ e => Heap.get?_push_of_some _ e
  refine subscriptTail_ops (s := { s with heap := s.heap.push { cls := .type "slice", data := .fields #[.none, .int (-1) u, .none] } }) ht'.typeIs slot_tuple_getitem.lookup
    (getItem_tuple_to ht' (Heap.IsSliceOf.new ..) (by rw [List.size_toArray]; exact ha) ?_ (by rw [List.size_toArray, sizeLine_eq]; omega)) hs hg
  have N1 := News.push (F.push { cls := .type "slice", data := .fields #[.none, .int (-1) u, .none] }) (N.grown fun _ _ e => Heap.get?_push_of_some _ e) (tupObj (vs.take (vs.length - 1)))
  exact h _ _ ((F.push _).push _) N1 fun p hp => Nat.lt_of_lt_of_le (Heap.lt_size (N p hp).1) (by rw [Heap.size_push]; exact Nat.le_succ _)
theorem cut_first {value slice : Expr} {t : Addr} {v : Value} {vs : List Value} {u : Tok} {Q : Value → Shared → Prop}
    (F : Fr h₀ L s.heap m) (N : News h₀ L s.heap led) (mt : (t, tupObj (v :: vs)) ∈ led) (hz : vs.length ≤ 62)
    (h : ∀ D h', Fr h₀ L h' m → News h₀ L h' ((D, tupObj vs) :: led) → (∀ p ∈ led, p.1 < D) → Q (.ref D) { s with heap := h' })
    (hs : subscripted slice false (.ref t) (.ref s.heap.objs.size) = operate [.ref s.heap.objs.size, .ref t] (getItem (.ref t) (.ref s.heap.objs.size)))
    (hg : ∀ r, letTemporaryGo value (.ref t) r = pure ()) :
    wpAny (model prog w) A (subscriptTail value slice (.ref t) (.ref s.heap.objs.size)) Q E { s with heap := s.heap.push { cls := .type "slice", data := .fields #[.int 1 u, .none, .none] } } := by
  have ht : IsTup s.heap t (v :: vs).toArray := ⟨_, (N _ mt).1, rfl, _, rfl⟩
  refine slice_tuple_from (a := 1) F N ht (by decide) (by simp) (fun h' F' N' => h _ h' F' N' fun p hp => Nat.lt_succ_of_lt (Heap.lt_size (N p hp).1)) hs hg (by rw [List.size_toArray, sizeLine_eq, List.length_cons]; omega)
theorem plus_tup {t b : Addr} {vs ws : List Value} {Q : Value → Shared → Prop} (F : Fr h₀ L s.heap m) (N : News h₀ L s.heap led) (mt : (t, tupObj vs) ∈ led) (mb : (b, tupObj ws) ∈ led) (hv : vs ≠ []) (hw : ws ≠ []) (hz : vs.length + ws.length ≤ 63) {zs : List Value} (e : vs ++ ws = zs)
    (h : ∀ D h', Fr h₀ L h' m → News h₀ L h' ((D, tupObj zs) :: led) → (∀ p ∈ led, p.1 < D) → Q (.ref D) { s with heap := h' }) : wpAny (model prog w) A (binaryOp .Add (.ref t) (.ref b)) Q E s := by
  have ht : IsTup s.heap t vs.toArray := ⟨_, (N _ mt).1, rfl, _, rfl⟩
  have hb : IsTup s.heap b ws.toArray := ⟨_, (N _ mb).1, rfl, _, rfl⟩
  exact kde_addT F N ht hb hv hw (by show vs.length + ws.length ≤ _; omega) e h
theorem plus_tup1 {t b : Addr} {vs : List Value} {Q : Value → Shared → Prop} (F : Fr h₀ L s.heap m) (N : News h₀ L s.heap led) (mt : (t, tupObj vs) ∈ led) (mb : (b, tupObj []) ∈ led) (hv : vs ≠ []) (hz : vs.length ≤ 63)
    (h : Q (.ref t) s) : wpAny (model prog w) A (binaryOp .Add (.ref t) (.ref b)) Q E s := by
  have ht : IsTup s.heap t vs.toArray := ⟨_, (N _ mt).1, rfl, _, rfl⟩
  have hb : IsTup s.heap b ([] : List Value).toArray := ⟨_, (N _ mb).1, rfl, _, rfl⟩
  exact kde_addT1 F N ht hb hv rfl (by show vs.length + 0 ≤ _; omega) h
end
theorem kind_keep {wp : Params} {k : Int} {C : Addr} (h : KindC k C) : keepIn (K8 wp) (.ref C) = true := by
  rcases h with ⟨_, rfl⟩ | ⟨_, rfl⟩ | ⟨_, rfl⟩ | ⟨_, rfl⟩ | ⟨_, rfl⟩ | ⟨_, rfl⟩ | ⟨_, rfl⟩
  all_goals kernel_rfl
theorem fls0 : Fls [] [] := trivial
theorem fls1 {a a' : Value} (h : Fl a a') : Fls [a] [a'] := ⟨h, trivial⟩
theorem fls2 {a a' b b' : Value} (h : Fl a a') (h2 : Fl b b') : Fls [a, b] [a', b'] := ⟨h, h2, trivial⟩
theorem fls3 {a a' b b' c c' : Value} (h : Fl a a') (h2 : Fl b b') (h3 : Fl c c') : Fls [a, b, c] [a', b', c'] := ⟨h, h2, h3, trivial⟩
theorem fl_int (n : Int) (t t' : Tok) : Fl (.int n t) (.int n t') := .inl ⟨n, t, t', rfl, rfl⟩
end Mine

end

/-! FO -/
section
open PySem PySem.W PySem.Calls PyProof.Rows PyProof.V PySem.Spec
namespace Mine
/-! the for loop under the claim's caller -/
section
variable {prog : Program} {w : World} {A : Around} {E : Value → Shared → Prop} {s : Shared} {env : Env}
theorem codeOn_forLoop {R : Result → Shared → Prop} {target it body env} (I : Nat → Shared → Prop)
    (turn : ∀ n s, I n s → wpAny (model prog w) A (pyNext it) (fun r s₁ => match r with
      | none => wpAny (model prog w) A (execs [] env) (fun f s₃ => R (.ok f) s₃) (notedBy (model prog w) A env fun e s' => R (.error e) s') s₁
      | some v => wpAny (model prog w) A (letOwnedTupleGo target it v) (fun _ s₁' =>
          wpAny (model prog w) A (assign target env v) (fun _ s₂ => wpOn (model prog w) A (execs body env) (fun f s₃ => match f with
            | .next | .cont => ∃ m, m < n ∧ I m s₃
            | .brk => R (.ok .next) s₃
            | .ret v => R (.ok (.ret v)) s₃) (notedBy (model prog w) A env fun e s' => R (.error e) s') s₂) (notedBy (model prog w) A env fun e s' => R (.error e) s') s₁') (notedBy (model prog w) A env fun e s' => R (.error e) s') s₁) (notedBy (model prog w) A env fun e s' => R (.error e) s') s)
    (n : Nat) (h : I n s) : codeOn (model prog w) A (.forLoop target it body [] env) R s := by
  refine codeOn_loop rfl I (fun n s hI => ?_) n h
  show wpOn _ A ((forTurn target it body [] env).onRaise (fun x => noteFrame x env >>= fun _ => theTreesLotGoes x)) _ _ s
  refine on_noted ?_
  simp only [forTurn]
  refine on_bind (on_any (wpAny_standAt (on_bind (on_any (wpAny_onRaise (wpAny_mono (turn n s hI) (fun r s₁ h₁ => ?_) fun _ _ h' => wpAny_standAt h'))))))
  cases r with
  | none => exact on_pure (.inr ⟨rfl, codeOn_any (codeAny_block h₁)⟩)
  | some v =>
    refine on_bind (on_any (wpAny_mono h₁ (fun _ s₁' h₁' => ?_) fun _ _ h' => h'))
    refine on_bind (on_any (wpAny_mono h₁' (fun _ s₂ h₂ => on_bind (on_mono h₂ (fun f s₃ h₃ => ?_) fun _ _ h' => h')) fun _ _ h' => h'))
    cases f with
    | next => exact on_pure (.inl ⟨rfl, h₃⟩)
    | cont => exact on_pure (.inl ⟨rfl, h₃⟩)
    | brk => exact on_pure h₃
    | ret v => exact on_pure h₃
theorem on_passesOwn {α : Type} {M : Model} {t : Sem α} {Q : α → Shared → Prop} (hE : PassesOwn M A env E) (h : wpOn M A t Q E s) : wpOn M A t Q (notedBy M A env (cameBackBy M A env E)) s := on_mono h (fun _ _ x => x) hE
def ForO (prog : Program) (w : World) (A : Around) (env : Env) (tgt : Expr) (body : List Stmt) (Q : Flow → Shared → Prop) (E : Value → Shared → Prop) (it : Value) (s₂ : Shared) : Prop :=
  codeOn (model prog w) A (.forLoop tgt it body [] env) (fun r s' => match r with | .ok f => Q f s' | .error e => cameBackBy (model prog w) A env E e s') s₂
theorem on_For {tgt iter : Expr} {body : List Stmt} {Q : Flow → Shared → Prop} {pos : Pos} (h : wpAny (model prog w) A (eval iter env) (fun xv s₁ => wpAny (model prog w) A (pyIter xv) (fun it s₂ => ForO prog w A env tgt body Q E it s₂) E s₁) E s)
    (hs : ∀ x, foldedSetIterable iter env x = pure x) : wpOn (model prog w) A (exec (.For tgt iter body [] pos) env) Q E s := by
  rw [arm_exec_For]
  refine on_bind (on_any (wpAny_standAt ?_))
  refine on_bind (on_any (wpAny_mono h (fun xv s₁ h₁ => ?_) fun _ _ x => x))
  rw [hs]
  refine on_bind (on_pure (on_bind (on_any (wpAny_standAt ?_))))
  refine on_bind (on_any (wpAny_holding (wpAny_mono h₁ (fun it s₂ h₂ => ?_) fun _ _ x => x)))
  unfold runOwn
  exact on_onRaise (on_run h₂)
theorem on_Try {body orelse : List Stmt} {h₀ : ExceptHandler} {hs : List ExceptHandler} {pos : Pos} {Q : Flow → Shared → Prop}
    (h : wpOn (model prog w) A (execs body env) (fun f s₁ => match f with | .next => wpOn (model prog w) A (execs orelse env) Q E s₁ | f => Q f s₁)
      (fun e s₁ => wpAny (model prog w) A (noteFrame e env) (fun _ s₂ => wpAny (model prog w) A (setFlight e none) (fun _ s₃ => wpAny (model prog w) A (handleBy e env (h₀ :: hs)) Q E s₃) E s₂) E s₁) s) :
    wpOn (model prog w) A (exec (.Try body (h₀ :: hs) orelse [] pos) env) Q E s := by
  rw [arm_exec_Try]
  exact on_bind (on_any (wpAny_standAt (on_tryStmt h)))
end
section
variable {prog : Program} {w : World} {A : Around} {E : Value → Shared → Prop} {s : Shared} {env : Env} {h₀ : Heap} {body : List Stmt} {Q : Flow → Shared → Prop}
theorem iter_baseO (G : Heap → Prop) {x : Str} {px : Pos} {l : Addr} {vs : List Value} {nn : Nat} {m₀ : Str → Option Value} {news : List (Addr × Obj)} (J : Nat → (Str → Option Value) → List (Addr × Obj) → Prop)
    (hG : G h₀) (hh : A.handled = none) (hl : (l, PySem.W.listOf vs.toArray nn) ∈ news) (F : Fr h₀ env.locals s.heap m₀) (N : News h₀ env.locals s.heap news) {nx₀ : List (Addr × Obj)} (hsub : ∀ p ∈ nx₀, p ∈ news) (hj : J 0 m₀ nx₀)
    (hJl : ∀ i m nx, J i m nx → (l, PySem.W.listOf vs.toArray nn) ∈ nx) (hx : env.kindOf x = some .local) (hp : (env.scope.kind == .class || (env.scope.kind == .module && env.locals != env.globals)) = false) (hE : PassesOwn (model prog w) A env E)
    (turn : ∀ h₀ i v m₁ news₁ h tk I oI, G h₀ → vs[i]? = some v → J i m₁ news₁ → (∀ p ∈ news₁, ∀ q ∈ [(I, oI)], p.1 ≠ q.1) → oI.cls = .type "list_iterator" → Fr h₀ env.locals h (fun y => if y = x then some v else m₁ y) → News h₀ env.locals h (news₁ ++ [(I, oI)]) →
      wpOn (model prog w) A (execs body env) (PostB G env.locals (J (i + 1)) [(I, oI)] { s with heap := h, toks := tk } Q) E { s with heap := h, toks := tk })
    (done : ∀ h₀ m₁ news₁ h tk, G h₀ → J vs.length m₁ news₁ → Fr h₀ env.locals h m₁ → News h₀ env.locals h news₁ → Q .next { s with heap := h, toks := tk }) :
    wpAny (model prog w) A (pyIter (.ref l)) (fun it s₂ => ForO prog w A env (.Name x px) body Q E it s₂) E s := by
  have hol : s.heap.get? l = some (PySem.W.listOf vs.toArray nn) := (N _ hl).1
  have hls : s.heap.IsList l vs.toArray := ⟨_, hol, rfl, nn, rfl⟩
  have hLs : env.locals < s.heap.objs.size := F.ns.lt
  have hab : h₀.objs.size ≤ env.locals := F.above
  refine wpAny_pyIter_list hls ?_
  have n2 : h₀.get? s.heap.objs.size = none := Heap.get?_none_of_le (Nat.le_trans hab (Nat.le_of_lt hLs))
  have hiL : s.heap.objs.size ≠ env.locals := Nat.ne_of_gt hLs
  have off0 : ∀ p ∈ nx₀, p.1 ≠ s.heap.objs.size := fun p hp => Nat.ne_of_lt (Heap.lt_size (N p (hsub p hp)).1)
  show codeOn _ _ _ _ _
  refine codeOn_forLoop
    (fun k s' => ∃ h₀ h' tk m' nx i, G h₀ ∧ h₀.get? s.heap.objs.size = none ∧ s' = { s with heap := h', toks := tk } ∧ h'.IsListIter s.heap.objs.size l i ∧ Fr h₀ env.locals h' m' ∧ News h₀ env.locals h' nx ∧ (∀ p ∈ nx, p.1 ≠ s.heap.objs.size) ∧ J i m' nx ∧ i ≤ vs.length ∧ k = vs.length + 1 - i) ?_ (vs.length + 1)
    ⟨h₀, _, s.toks, m₀, nx₀, 0, hG, n2, rfl, ⟨_, Heap.get?_push_size _ rfl, rfl, rfl⟩, F.push _, (fun p hp => ⟨Heap.get?_push_of_some _ (N p (hsub p hp)).1, (N p (hsub p hp)).2⟩), off0, hj, Nat.zero_le _, rfl⟩
  clear n2
  revert hiL off0
  generalize s.heap.objs.size = it
  intro hiL off0
  rintro k s' ⟨h₀, H, tk, m', nx, i, hG, n2, rfl, hit', F₁, N₁, off, hJ, hi, rfl⟩
  have hlm := hJl _ _ _ hJ
  have hlo : H.get? l = some (PySem.W.listOf vs.toArray nn) := (N₁ _ hlm).1
  have hl' : H.IsList l vs.toArray := ⟨_, hlo, rfl, nn, rfl⟩
  have hL0 : ∀ b o, h₀.get? b = some o → b ≠ it := fun b o q z => by rw [z, n2] at q; cases q
  cases hv : vs[i]? with
  | none =>
    have hsz : i = vs.length := Nat.le_antisymm hi (List.getElem?_eq_none_iff.mp hv)
    refine wpAny_pyNext_list_end hh hit' hl' (by simpa using hv) fun h₁ he₁ => wpAny_execs_nil ?_
    exact done h₀ m' nx h₁ tk hG (hsz ▸ hJ) ⟨F₁.ns.extBut he₁ (Ne.symm hiL), fun b o q => he₁ b o (hL0 b o q) (F₁.keep b o q), F₁.above⟩ (fun p hp => ⟨he₁ _ _ (off p hp) (N₁ p hp).1, (N₁ p hp).2⟩)
  | some v =>
    have hlt : i < vs.length := (List.getElem?_eq_some_iff.mp hv).1
    refine wpAny_pyNext_list_item hit' hl' (by simpa using hv) fun h₁ hit₁ hs₁ => ?_
    show wpAny _ A (pure ()) _ _ _
    refine wpAny_pure ?_
    replace hs₁ : Heap.SameBut it H h₁ := hs₁
    obtain ⟨oit, ho1, ho2, ho3⟩ := hit₁
    have F₃ : Fr h₀ env.locals h₁ m' := by
      obtain ⟨o, es, ep, ho, r⟩ := F₁.ns
      exact ⟨⟨o, es, ep, (hs₁.2 _ (Ne.symm hiL)).trans ho, r⟩, fun b o q => (hs₁.2 _ (hL0 b o q)).trans (F₁.keep b o q), F₁.above⟩
    have N₃ : News h₀ env.locals h₁ nx := fun p hp => ⟨(hs₁.2 _ (off p hp)).trans (N₁ p hp).1, (N₁ p hp).2⟩
    have O₃ : News h₀ env.locals h₁ [(it, oit)] := fun p hp => by
      rw [List.mem_singleton.mp hp]; exact ⟨ho1, hiL, n2⟩
    refine wpAny_assign_Name (wpAny_storeName_local hx F₃.ns (fun h₅ hn₅ hs₅ => ?_) hp)
    replace hs₅ : Heap.SameBut env.locals h₁ h₅ := hs₅
    have F₅ := F₃.set hn₅ hs₅
    have N₅ : News h₀ env.locals h₅ nx := N₃.set hs₅
    have O₅ := O₃.set hs₅
    refine on_passesOwn hE ?_
    refine on_mono (turn h₀ i v m' nx h₅ _ it oit hG hv hJ ?_ ho2 F₅ (fun p hp => (List.mem_append.mp hp).elim (N₅ p) (O₅ p))) (fun f s₃ h₆ => ?_) fun _ _ x => x
    · intro p hp q hq
      rw [List.mem_singleton.mp hq]; exact off p hp
    · have fin : ∀ tk5, EndB G env.locals (J (i + 1)) [(it, oit)] { s with heap := h₅, toks := tk5 } s₃ → ∃ k, k < vs.length + 1 - i ∧ ∃ h₀ h' tk m' nx i, G h₀ ∧ h₀.get? it = none ∧ s₃ = { s with heap := h', toks := tk } ∧ h'.IsListIter it l i ∧ Fr h₀ env.locals h' m' ∧ News h₀ env.locals h' nx ∧ (∀ p ∈ nx, p.1 ≠ it) ∧ J i m' nx ∧ i ≤ vs.length ∧ k = vs.length + 1 - i := by
        rintro tk5 ⟨h₀', h₇, tk₆, m₂, nx₂, hG₆, rfl, F₆, N₆, O₆, off₆, hJ₆⟩
        exact ⟨vs.length + 1 - (i + 1), by omega, h₀', h₇, tk₆, m₂, nx₂, i + 1, hG₆, (O₆ _ (.head _)).2.2, rfl, ⟨oit, (O₆ _ (.head _)).1, ho2, ho3⟩, F₆, N₆, fun p hp => off₆ p hp _ (.head _), hJ₆, hlt, rfl⟩
      cases f with
      | ret v => exact h₆
      | brk => exact h₆
      | next => exact fin _ h₆
      | cont => exact fin _ h₆
end
end Mine

end

/-! EO -/
section
open PySem PySem.W PySem.Calls PyProof.Rows PyProof.V PySem.Spec
namespace Mine
section
variable {M : Model} {A : Around} {E : Value → Shared → Prop} {s : Shared} {env : Env}
theorem on_execs_cons {st : Stmt} {rest : List Stmt} {Q : Flow → Shared → Prop} (h : wpOn M A (exec st env) (fun f s₁ => match f with | .next => wpOn M A (execs rest env) Q E s₁ | f => Q f s₁) E s) : wpOn M A (execs (st :: rest) env) Q E s := by
  rw [arm_execs_cons]
  refine on_bind (on_mono h (fun f s₁ h₁ => ?_) fun _ _ x => x)
  cases f <;> first | exact h₁ | exact on_pure h₁
end
end Mine

end

/-! CO -/
section
open PySem PySem.W PySem.Calls PyProof.Rows PyProof.V PySem.Spec
namespace Mine
section
variable {M : Model} {A : Around} {E : Value → Shared → Prop} {s : Shared} {K : Frag} {env : Env} {pos p : Pos} {f : Value} {first : List Value} {Q : Value → Shared → Prop} {e : Expr}
theorem on_keep {α : Type} {l : List Value} {t : Sem α} {Q : α → Shared → Prop} (h : wpOn M A t Q E s) : wpOn M A (t.keep l) Q E s := fun Γ q hΓ hc => by rw [Sem.wp_keep]; exact h Γ q hΓ hc
theorem on_operate {vs : List Value} {t : Sem Value} (h : wpOn M A t Q E s) : wpOn M A (operate vs t) Q E s := fun Γ q hΓ hc => by rw [Sem.wp_operate]; exact h Γ q hΓ hc
/-- a call with one star, under the caller -/
theorem on_callS (hk : keepIn K f = true) (h : wpAny M A (eval e env) (fun v s₁ => StarOf M A E v (fun vs s₂ => K.In s₂.heap ∧ wpOn M A (call f (first ++ vs)) Q E s₂) s₁) E s) :
    wpOn M A (callWith pos f first (backTo pos (starEach [.Starred e p] env)) []) Q E s := by
  rw [show starEach [.Starred e p] env = [(true, eval e env)] from rfl]
  unfold callWith
  refine on_bind (on_holding (on_any (wpAny_mono (ks_lone (Q := fun a s₂ => K.In s₂.heap ∧ wpOn M A (call f (first ++ a.pos) a.kw) Q E s₂) h) (fun a s₁ h₁ => on_bind (on_any (wpAny_standAt ?_))) fun _ _ x => x)))
  obtain ⟨k, hk', L⟩ := keeps_K hk _ h₁.1
  have hst : (backTo pos [(true, eval e env)]).any (·.1) = true := rfl
  simp only [hst, Bool.true_or]
  refine on_bind (on_any (L.here ?_))
  have tail : ∀ {t : Sem Value}, wpOn M A t Q E s₁ → wpOn M A (t >>= fun r => holding [r] point >>= fun _ => pure r) Q E s₁ :=
    fun ht => on_bind (on_mono ht (fun r s₂ hr => on_bind (on_any (wpAny_holding (wpAny_point (on_pure hr))))) fun _ _ x => x)
  have marked (mk : Value) : wpOn M A (callMarked mk f (first ++ a.pos) a.kw) Q E s₁ := by unfold callMarked; exact on_keep h₁.2
  rcases hk' with rfl | rfl | rfl <;> dsimp only <;> first | exact tail (marked _) | exact tail (on_operate h₁.2)
end
end Mine

end

/-! AO -/
section
open PySem PySem.W PySem.Calls PyProof.Rows PyProof.V PySem.Spec
namespace Mine
section
variable {M : Model} {A : Around} {E : Value → Shared → Prop} {s : Shared} {env : Env}
theorem on_Assign {x : Str} {px pos : Pos} {value : Expr} {Q : Flow → Shared → Prop}
    (h : wpOn M A (eval value env) (fun v s₁ => wpAny M A (assign (.Name x px) env v) (fun _ s₂ => Q .next s₂) E s₁) E s)
    (hs : swapsWith value (some (.Name x px)) pos.line env = pure false := by rfl) : wpOn M A (exec (.Assign [.Name x px] value pos) env) Q E s := by
  have e : exec (.Assign [.Name x px] value pos) env = (standAt pos >>= fun _ => swapsWith value (some (.Name x px)) pos.line env >>= fun b =>
      if b = true then (evalThenUse value env (assign (.Name x px) env) >>= fun _ => pure .next) else (eval value env >>= fun v => assign (.Name x px) env v >>= fun _ => pure .next)) := rfl
  rw [e, hs]
  refine on_bind (on_any (wpAny_standAt (on_bind (on_pure ?_))))
  rw [if_neg Bool.false_ne_true]
  exact on_bind (on_mono h (fun v s₁ h₁ => on_bind (on_any (wpAny_mono h₁ (fun _ _ q => on_pure q) fun _ _ x => x))) fun _ _ x => x)
end
end Mine

end

/-! LP08 -/
section
open PySem PySem.W PySem.Calls PyProof.Rows PyProof.V PySem.Spec
namespace Mine
section
variable {prog : Program} {w : World} {A : Around} {E : Value → Shared → Prop} {s : Shared} {env : Env} {h₀ : Heap} {body : List Stmt} {Q : Flow → Shared → Prop}
theorem iter8_1P {px : Pos} {made kinds names D e₀ t₀' : Addr} {ws nv us₀ : List Value} {cn₀ : Nat} {B T₀ led : List (Addr × Obj)} {ns : List Int} {m₀ : Str → Option Value}
    (hh : A.handled = none) (hi : IntsAre ws ns) (h63 : ns.length ≤ 63) (F : Fr h₀ env.locals s.heap m₀) (N : News h₀ env.locals s.heap led) (S₀ : St8 made B us₀ cn₀ T₀ [] e₀ t₀' led) (hB : Const8 kinds names D ws nv B)
    (h1 : us₀.length ≤ 1) (e1 : m₀ (Str.ofString "error") = some (.ref e₀)) (e2 : m₀ (Str.ofString "due") = some (.ref t₀'))
    (hx : env.kindOf (Str.ofString "n") = some .local) (hp : (env.scope.kind == .class || (env.scope.kind == .module && env.locals != env.globals)) = false) (hE : PassesOwn (model prog w) A env E)
    (turn : ∀ (i : Nat) (n : Int) (nt : Tok) (us : List Value) (cn : Nat) (T : List (Addr × Obj)) (e d t t' : Addr) (k : Int) (C : Addr) (oe od : Obj) (vs vs' : List Value) (u : Str → Option Value) (h : Heap) (tk : Nat) (it : Addr) (oit : Obj), KstMark → i < 63 → us.length ≤ i + 1 →
      St8 made B us cn T [(it, oit)] e t' ((made, PySem.W.listOf us.toArray cn) :: (B ++ (T ++ [(it, oit)]))) → ErrObj C d t oe → KindC k C → AttrsK k od vs → Fls vs vs' →
      Fr h₀ env.locals h (fun y => if y = Str.ofString "n" then some (.int n nt) else if y = Str.ofString "error" then some (.ref e) else if y = Str.ofString "due" then some (.ref t') else if turn08.contains y then u y else m₀ y) →
      News h₀ env.locals h ((e, oe) :: (d, od) :: (t, tupObj vs) :: (t', tupObj vs') :: (made, PySem.W.listOf us.toArray cn) :: (B ++ (T ++ [(it, oit)]))) →
      wpOn (model prog w) A (execs body env) (PostB (· = h₀) env.locals (Kept8 made B m₀ (i + 1)) [(it, oit)] { s with heap := h, toks := tk } Q) E { s with heap := h, toks := tk })
    (done : ∀ (us : List Value) (cn : Nat) (T : List (Addr × Obj)) (u : Str → Option Value) (h : Heap) (tk : Nat), KstMark → (∀ v ∈ us, Item8 B T v) →
      Fr h₀ env.locals h (fun y => if y = Str.ofString "n" then u y else if turn08.contains y then u y else m₀ y) → News h₀ env.locals h ((made, PySem.W.listOf us.toArray cn) :: (B ++ T)) → Q .next { s with heap := h, toks := tk }) :
    wpAny (model prog w) A (pyIter (.ref D)) (fun it s₂ => ForO prog w A env (.Name (Str.ofString "n") px) body Q E it s₂) E s := by
  have hlen := hi.length
  refine iter_baseO (· = h₀) (l := D) (vs := ws) (nn := 0) (Kept8 made B m₀) rfl hh (S₀.sub _ (.tail _ (List.mem_append.mpr (.inl hB.din)))) F N (nx₀ := (made, PySem.W.listOf us₀.toArray cn₀) :: (B ++ T₀)) (fun p hp => S₀.sub p (by simpa using hp)) ⟨us₀, cn₀, T₀, e₀, t₀', rfl, h1, S₀.items, S₀.cur, (fun p hp => S₀.offm p (by simpa using hp)), e1, e2, fun _ _ _ => rfl⟩ ?_ hx hp hE ?_ ?_
  · rintro i m nx ⟨us, cn, T, e, t', rfl, _⟩
    exact .tail _ (List.mem_append.mpr (.inl hB.din))
  · rintro hb i v m₁ nx h tk it oit bX hv ⟨us, cn, T, e, t', rfl, q1, q2, q3, q4, q5, q6, q7⟩ off hcl F₁ N₁
    replace bX : hb = h₀ := bX
    subst bX
    have hil : i < ns.length := by have := (List.getElem?_eq_some_iff.mp hv).1; omega
    obtain ⟨n, nt, rfl⟩ : ∃ n nt, v = .int n nt := by
      obtain ⟨nt, ht⟩ := hi.get i ns[i] (by simp [hil])
      exact ⟨ns[i], nt, by rw [hv] at ht; exact Option.some.inj ht⟩
    have N₂ : News hb env.locals h ((made, PySem.W.listOf us.toArray cn) :: (B ++ (T ++ [(it, oit)]))) := fun p hp => N₁ p (by simpa using hp)
    have S : St8 made B us cn T [(it, oit)] e t' ((made, PySem.W.listOf us.toArray cn) :: (B ++ (T ++ [(it, oit)]))) := ⟨fun _ z => z, q2, q3, fun p hp => ?_, fun p hp q hq => off p (.tail _ hp) q hq, fun q hq => by rw [List.mem_singleton.mp hq]; exact hcl⟩
    · obtain ⟨d, t, k, C, oe, od, vs, vs', c1, c2, c3, c4, c5, c6, c7, c8⟩ := q3
      have up : ∀ p ∈ T, p ∈ (made, PySem.W.listOf us.toArray cn) :: (B ++ (T ++ [(it, oit)])) := fun p hp => .tail _ (List.mem_append.mpr (.inr (List.mem_append.mpr (.inl hp))))
      refine turn i n nt us cn T e d t t' k C oe od vs vs' m₁ h tk it oit kstMark (by omega) q1 S c5 c6 c7 c8 (fr_ext F₁ (frame8 q5 q6 q7 _)) fun p hp => N₂ p ?_
      rcases List.mem_cons.mp hp with rfl | hp
      · exact up _ c1
      rcases List.mem_cons.mp hp with rfl | hp
      · exact up _ c2
      rcases List.mem_cons.mp hp with rfl | hp
      · exact up _ c3
      rcases List.mem_cons.mp hp with rfl | hp
      · exact up _ c4
      · exact hp
    · rcases List.mem_append.mp hp with hp | hp
      · exact q4 p (List.mem_append.mpr (.inl hp))
      rcases List.mem_append.mp hp with hp | hp
      · exact q4 p (List.mem_append.mpr (.inr hp))
      · rw [List.mem_singleton.mp hp]
        exact Ne.symm (off _ (.head _) _ (.head _))
  · rintro hb m₁ nx h tk bX ⟨us, cn, T, e, t', rfl, q1, q2, q3, q4, q5, q6, q7⟩ F₁ N₁
    replace bX : hb = h₀ := bX
    subst bX
    refine done us cn T m₁ h tk kstMark q2 (fr_ext F₁ fun y => ?_) N₁
    by_cases y1 : y = Str.ofString "n"
    · simp [y1]
    · rw [if_neg y1]
      cases y4 : turn08.contains y with
      | true => simp
      | false => simpa using q7 y y1 y4
end
section
variable {prog : Program} {w : World} {A : Around} {E : Value → Shared → Prop} {s : Shared} {env : Env} {h₀ : Heap} {body : List Stmt} {Q : Flow → Shared → Prop}
theorem iter8_sP {px : Pos} {made u₀ e₀ d₀ t₀ t₀' names n0 kinds D : Addr} {oe od : Obj} {a b a' b' : Value} {x0 ws nv : List Value} {c0 cn₀ : Nat} {B₀ : List (Addr × Obj)} {ns : List Int} {m₀ : Str → Option Value}
    (F : Fr h₀ env.locals s.heap m₀) (N : News h₀ env.locals s.heap ((made, PySem.W.listOf [Value.ref u₀].toArray cn₀) :: (u₀, tupObj [.ref e₀, .ref t₀', .ref n0]) :: (t₀', tupObj [a', b']) :: (t₀, tupObj [a, b]) :: (d₀, od) :: (e₀, oe) :: B₀)) (hB : Const8 kinds names D ws nv B₀) (h0 : (n0, PySem.W.listOf x0.toArray c0) ∈ B₀) (k0 : NamesK 0 x0)
    (ho : ErrObj 44 d₀ t₀ oe) (ha : Attrs od (some a) (some b) none none) (hfl : Fls [a, b] [a', b']) (lt : AllLt made ((d₀, od) :: B₀))
    (hh : A.handled = none) (hi : IntsAre ws ns) (h63 : ns.length ≤ 63) (e1 : m₀ (Str.ofString "error") = some (.ref e₀)) (e2 : m₀ (Str.ofString "due") = some (.ref t₀'))
    (hx : env.kindOf (Str.ofString "n") = some .local) (hp : (env.scope.kind == .class || (env.scope.kind == .module && env.locals != env.globals)) = false) (hE : PassesOwn (model prog w) A env E)
    (turn2 : ∀ (B : List (Addr × Obj)) (nv : List Value) (i : Nat) (n : Int) (nt : Tok) (us : List Value) (cn : Nat) (T : List (Addr × Obj)) (e d t t' : Addr) (k : Int) (C : Addr) (oe od : Obj) (a b a' b' : Value) (u : Str → Option Value) (h : Heap) (tk : Nat) (it : Addr) (oit : Obj), KstMark → Const8 kinds names D ws nv B → i < 63 → us.length ≤ i + 1 →
      St8 made B us cn T [(it, oit)] e t' ((made, PySem.W.listOf us.toArray cn) :: (B ++ (T ++ [(it, oit)]))) → ErrObj C d t oe → KindC k C → Fl a a' → Fl b b' →
      Fr h₀ env.locals h (fun y => if y = Str.ofString "n" then some (.int n nt) else if y = Str.ofString "error" then some (.ref e) else if y = Str.ofString "due" then some (.ref t') else if turn08.contains y then u y else m₀ y) →
      News h₀ env.locals h ((e, oe) :: (d, od) :: (t, tupObj [a, b]) :: (t', tupObj [a', b']) :: (made, PySem.W.listOf us.toArray cn) :: (B ++ (T ++ [(it, oit)]))) →
      wpOn (model prog w) A (execs body env) (PostB (· = h₀) env.locals (Kept8 made B m₀ (i + 1)) [(it, oit)] { s with heap := h, toks := tk } Q) E { s with heap := h, toks := tk })
    (turn3 : ∀ (B : List (Addr × Obj)) (nv : List Value) (i : Nat) (n : Int) (nt : Tok) (us : List Value) (cn : Nat) (T : List (Addr × Obj)) (e d t t' : Addr) (k : Int) (C : Addr) (oe od : Obj) (a b x a' b' x' : Value) (u : Str → Option Value) (h : Heap) (tk : Nat) (it : Addr) (oit : Obj), KstMark → Const8 kinds names D ws nv B → i < 63 → us.length ≤ i + 1 →
      St8 made B us cn T [(it, oit)] e t' ((made, PySem.W.listOf us.toArray cn) :: (B ++ (T ++ [(it, oit)]))) → ErrObj C d t oe → KindC k C → Fl a a' → Fl b b' → Fl x x' →
      Fr h₀ env.locals h (fun y => if y = Str.ofString "n" then some (.int n nt) else if y = Str.ofString "error" then some (.ref e) else if y = Str.ofString "due" then some (.ref t') else if turn08.contains y then u y else m₀ y) →
      News h₀ env.locals h ((e, oe) :: (d, od) :: (t, tupObj [a, b, x]) :: (t', tupObj [a', b', x']) :: (made, PySem.W.listOf us.toArray cn) :: (B ++ (T ++ [(it, oit)]))) →
      wpOn (model prog w) A (execs body env) (PostB (· = h₀) env.locals (Kept8 made B m₀ (i + 1)) [(it, oit)] { s with heap := h, toks := tk } Q) E { s with heap := h, toks := tk })
    (turn1 : ∀ (B : List (Addr × Obj)) (nv : List Value) (i : Nat) (n : Int) (nt : Tok) (us : List Value) (cn : Nat) (T : List (Addr × Obj)) (e d t t' : Addr) (k : Int) (C : Addr) (oe od : Obj) (a a' : Value) (u : Str → Option Value) (h : Heap) (tk : Nat) (it : Addr) (oit : Obj), KstMark → Const8 kinds names D ws nv B → i < 63 → us.length ≤ i + 1 →
      St8 made B us cn T [(it, oit)] e t' ((made, PySem.W.listOf us.toArray cn) :: (B ++ (T ++ [(it, oit)]))) → ErrObj C d t oe → KindC k C → Fl a a' →
      Fr h₀ env.locals h (fun y => if y = Str.ofString "n" then some (.int n nt) else if y = Str.ofString "error" then some (.ref e) else if y = Str.ofString "due" then some (.ref t') else if turn08.contains y then u y else m₀ y) →
      News h₀ env.locals h ((e, oe) :: (d, od) :: (t, tupObj [a]) :: (t', tupObj [a']) :: (made, PySem.W.listOf us.toArray cn) :: (B ++ (T ++ [(it, oit)]))) →
      wpOn (model prog w) A (execs body env) (PostB (· = h₀) env.locals (Kept8 made B m₀ (i + 1)) [(it, oit)] { s with heap := h, toks := tk } Q) E { s with heap := h, toks := tk })
    (done : ∀ (us : List Value) (cn : Nat) (B T : List (Addr × Obj)) (u : Str → Option Value) (h : Heap) (tk : Nat), KstMark → (∀ v ∈ us, Item8 B T v) →
      Fr h₀ env.locals h (fun y => if y = Str.ofString "n" then u y else if turn08.contains y then u y else m₀ y) → News h₀ env.locals h ((made, PySem.W.listOf us.toArray cn) :: (B ++ T)) → Q .next { s with heap := h, toks := tk }) :
    wpAny (model prog w) A (pyIter (.ref D)) (fun it s₂ => ForO prog w A env (.Name (Str.ofString "n") px) body Q E it s₂) E s := by
  refine iter8_1P hh hi h63 F N (start8 N hB h0 k0 ho ha hfl lt) hB (by simp) e1 e2 hx hp hE ?_ fun us cn T u h tk km hI F' N' => done us cn B₀ T u h tk km hI F' N'
  intro i n nt us cn T e d t t' k C oe od vs vs' u h tk it oit km i63 ul S ho hK hA hF F' N'
  rcases hA with ⟨a, b, rfl, _, _, _⟩ | ⟨a, b, x, rfl, _, _⟩ | ⟨a, rfl, _, _⟩
  · match vs', hF with
    | [a', b'], ⟨f1, f2, _⟩ => exact turn2 B₀ nv i n nt us cn T e d t t' k C oe od a b a' b' u h tk it oit km hB i63 ul S ho hK f1 f2 F' N'
    | [], hF => exact hF.elim
    | [_], hF => exact hF.2.elim
    | _ :: _ :: _ :: _, hF => exact hF.2.2.elim
  · match vs', hF with
    | [a', b', x'], ⟨f1, f2, f3, _⟩ => exact turn3 B₀ nv i n nt us cn T e d t t' k C oe od a b x a' b' x' u h tk it oit km hB i63 ul S ho hK f1 f2 f3 F' N'
    | [], hF => exact hF.elim
    | [_], hF => exact hF.2.elim
    | [_, _], hF => exact hF.2.2.elim
    | _ :: _ :: _ :: _ :: _, hF => exact hF.2.2.2.elim
  · match vs', hF with
    | [a'], ⟨f1, _⟩ => exact turn1 B₀ nv i n nt us cn T e d t t' k C oe od a a' u h tk it oit km hB i63 ul S ho hK f1 F' N'
    | [], hF => exact hF.elim
    | _ :: _ :: _, hF => exact hF.2.elim
end
section
variable {env : Env} {h₀ : Heap}
theorem turn8_endP {made e t' : Addr} {B T own led : List (Addr × Obj)} {us : List Value} {cn i : Nat} {m₀ mm : Str → Option Value} {h : Heap} {s₁ : Shared} {tk : Nat} (F : Fr h₀ env.locals h mm) (N : News h₀ env.locals h led) (S : St8 made B us cn T own e t' led)
    (hl : us.length ≤ i + 1) (e1 : mm (Str.ofString "error") = some (.ref e)) (e2 : mm (Str.ofString "due") = some (.ref t')) (hm : ∀ z, z ≠ Str.ofString "n" → turn08.contains z = false → mm z = m₀ z) :
    EndB (· = h₀) env.locals (Kept8 made B m₀ i) own s₁ { s₁ with heap := h, toks := tk } :=
  ⟨h₀, h, tk, mm, _, rfl, rfl, F, fun p hp => N p (S.sub p (by
    rcases List.mem_cons.mp hp with rfl | hp
    · exact .head _
    rcases List.mem_append.mp hp with hp | hp
    · exact .tail _ (List.mem_append.mpr (.inl hp))
    · exact .tail _ (List.mem_append.mpr (.inr (List.mem_append.mpr (.inl hp)))))), fun p hp => N p (S.sub p (.tail _ (List.mem_append.mpr (.inr (List.mem_append.mpr (.inr hp)))))), fun p hp q hq => by
      rcases List.mem_cons.mp hp with rfl | hp
      · exact Ne.symm (S.offm q (List.mem_append.mpr (.inr (List.mem_append.mpr (.inr hq)))))
      · exact S.apart p hp q hq, us, cn, T, e, t', rfl, hl, S.items, S.cur, (fun p hp => S.offm p (by
        rcases List.mem_append.mp hp with hp | hp
        · exact List.mem_append.mpr (.inl hp)
        · exact List.mem_append.mpr (.inr (List.mem_append.mpr (.inl hp))))), e1, e2, hm⟩
end
end Mine

end

/-! OF -/
section
open PySem PySem.W PySem.Calls PyProof.Rows PyProof.V PySem.Spec Builtin
open Sem (wp)
namespace Mine
/-! a refused call under the claim's caller: nothing is marked -/
section
variable {α β : Type} {M : Model} {A : Around} {E : Value → Shared → Prop} {s : Shared} {Q : α → Shared → Prop}
theorem no_pure {a : α} (h : Q a s) : wpOn M A (.pure a) Q E s := fun _ _ _ _ => h
theorem no_load {a : Addr} {p : Option Value} {k : Obj → Sem α} {o : Obj} (ho : s.heap.get? a = some o) (h : wpOn M A (k o) Q E s) : wpOn M A (.load a p k) Q E s := fun Γ q hΓ hc => ⟨o, ho, h Γ q hΓ hc⟩
theorem on_yes {c : Bool} {t u : Sem α} (hc : c = true) (h : wpOn M A t Q E s) : wpOn M A (if c = true then t else u) Q E s := by rw [if_pos hc]; exact h
theorem on_no {c : Bool} {t u : Sem α} (hc : c = false) (h : wpOn M A u Q E s) : wpOn M A (if c = true then t else u) Q E s := by rw [if_neg (by rw [hc]; exact Bool.false_ne_true)]; exact h
theorem on_rule {tag : String} {Q : Unit → Shared → Prop} (h : Q () s) : wpOn M A (rule tag) Q E s := on_any (wpAny_rule h)
theorem on_refuse {msg : String} (hh : A.handled = none) (hm : (Str.ofString msg).length ≤ sizeLine)
    (k : ∀ h' e tk, Heap.NewExcOf s.heap h' e "TypeError" → E (.ref e) { s with heap := h', toks := tk }) : wpOn M A (theBinderRefuses msg : Sem α) Q E s := by
  unfold theBinderRefuses
  refine on_bind ?_
  unfold mkStr
  rw [if_neg (Nat.not_lt.mpr hm)]
  refine on_bind (on_any (wpAny_fresh ?_))
  refine on_pure ?_
  refine on_bind (on_any (wpAny_newExc_plain plainExc_TypeError (fun h₁ e hx => ?_) (by show 1 ≤ sizeLine; rw [sizeLine_eq]; decide)))
  refine on_bind (on_mark ?_)
  exact on_any (wpAny_raiseNew_none hh (k h₁ e _ hx.newExc.of))
end
section
variable {prog : Program} {w : World} {A : Around} {K : Frag} {f L : Addr} {s : Shared} {h₀ : Heap} {m : Str → Option Value} {R : Result → Shared → Prop}
def RefO (h h' : Heap) (e : Addr) : Prop := Heap.NewExcOf h h' e "TypeError"
theorem refuseO_fn {name qual : Str} {params : Arguments} {body : List Stmt} {scope : Scope} {dV kV doc pm cdv ct oc : Value} {an od : Option Addr} {osl : Array (Option Value)} {args : Args}
    (F : Fr h₀ L s.heap m) (X₀ : K.In h₀) (ho : K.lookup f = some ⟨oc, od, .func (fnOf name qual params body scope dV kV doc pm an cdv ct), osl⟩) (hcd : codeIn K cdv qual = true) (hh : A.handled = none)
    (hb : ∀ {A : Around} {E : Value → Shared → Prop} {Q : List (Str × Value) → Shared → Prop} {s : Shared}, A.handled = none → (∀ h' e tk, RefO s.heap h' e → E (.ref e) { s with heap := h', toks := tk }) →
      wpOn (model prog w) A (bindArgs (fnOf name qual params body scope dV kV doc pm an cdv ct) args) Q E s)
    (k : ∀ h' e tk, RefO s.heap h' e → R (.error (.ref e)) { s with heap := h', toks := tk }) : codeOn (model prog w) A (.call (.ref f) args) R s := by
  have X := X₀.keeps F.keep
  obtain ⟨c, o, vs, t, e1, e2, e3, e4⟩ := codeRec_of X hcd
  refine codeOn_of_tree ?_
  show wpOn _ _ (callAny (.ref f) _) _ _ _
  refine on_bind (on_any (wpAny_load (X _ _ ho) ?_))
  show wpOn _ _ (callFunction f (fnOf name qual params body scope dV kV doc pm an cdv ct) args) _ _ _
  subst e1
  unfold callFunction
  dsimp only [fnOf]
  refine on_bind (on_any (wpAny_field e2 e3 e4 ?_))
  dsimp only
  refine on_bind (on_pure (on_bind ?_))
  exact hb hh fun h' e tk r => k h' e tk r
end
end Mine

end

/-! TO -/
section
open PySem PySem.W PySem.Calls PyProof.Rows PyProof.V PySem.Spec
namespace Mine
section
variable {M : Model} {A : Around} {E : Value → Shared → Prop} {s : Shared} {env : Env}
theorem on_nil {Q : Flow → Shared → Prop} (h : Q .next s) : wpOn M A (execs [] env) Q E s := on_any (wpAny_execs_nil h)
theorem on_CallF {func : Expr} {args : List Expr} {pos : Pos} {Q : Value → Shared → Prop}
    (h : wpAny M A (eval func env) (fun f s₁ => wpOn M A (callWith pos f [] (backTo pos (starEach args env)) []) Q E s₁) E s)
    (he : eval (.Call func args [] pos) env = (do callWith pos (← eval func env) [] (backTo pos (starEach args env)) (backToKw pos (keywordEach [] env))) := by rfl) :
    wpOn M A (eval (.Call func args [] pos) env) Q E s := by
  rw [he]; exact on_bind (on_any h)
end
section
variable {M : Model} {A : Around} {E : Value → Shared → Prop} {s : Shared} {K : Frag} {env : Env} {pos p : Pos} {f : Value} {first : List Value} {Q : Value → Shared → Prop} {e : Expr} {h₀ : Heap}
theorem on_callSX (_ : K.In h₀) (hk : keepIn K f = true) (h : wpAny M A (eval e env) (fun v s₁ => StarOf M A E v (fun vs s₂ => K.In s₂.heap ∧ wpOn M A (call f (first ++ vs)) Q E s₂) s₁) E s) :
    wpOn M A (callWith pos f first (backTo pos (starEach [.Starred e p] env)) []) Q E s := on_callS hk h
end
theorem ar4 (k : Int) : ¬ 4 = ar k := by
  unfold ar
  split
  · decide
  · split <;> decide
section
variable {prog : Program} {w : World} {A₀ : Around} {E : Value → Shared → Prop} {s' : Shared} {h₀ h : Heap} {L a e : Addr} {m : Str → Option Value} {name : Str} {scope : Scope} {cd : Value}
  {b₀ : Stmt} {suite : List Stmt} {pos np : Pos} {rest : List ExceptHandler} {Q : Flow → Shared → Prop} {news : List (Addr × Obj)} {KF : Frag}
  {p : Program} {loose : List Str} {mean : ExcName → Option Value} {mg mb : Str → Option Value}
theorem caught_refO (hfr : A₀.frames = some []) (hx : RefO h s'.heap e) (F : Fr h₀ L h m) (N : News h₀ L h news) (KX : KF.In h₀) (TT : Top p loose mean mg mb h₀)
    (ex : nsIn KF mainGlobals (Str.ofString "TypeError") = some none)
    (k : ∀ h', Fr h₀ L h' m → News h₀ L h' news → wpAny (model prog w) ((A₀.deeper (envOf name scope L a cd)).mark (some (.ref e))) (execs (b₀ :: suite) (envOf name scope L a cd)) Q E { s' with heap := h' })
    (hk : scope.kind = .function) (hxk : (envOf name scope L a cd).kindOf (Str.ofString "TypeError") = some .globalImplicit)
    (hE : PassesOwnAt (model prog w) ((A₀.deeper (envOf name scope L a cd)).mark (some (.ref e))) (A₀.deeper (envOf name scope L a cd)) (envOf name scope L a cd) E) :
    wpAny (model prog w) (A₀.deeper (envOf name scope L a cd)) (noteFrame (.ref e) (envOf name scope L a cd))
      (fun _ s₂ => wpAny (model prog w) (A₀.deeper (envOf name scope L a cd)) (setFlight (.ref e) none) (fun _ s₃ =>
        wpAny (model prog w) (A₀.deeper (envOf name scope L a cd)) (handleBy (.ref e) (envOf name scope L a cd) (.ExceptHandler (some (.Name (Str.ofString "TypeError") np)) none (b₀ :: suite) pos :: rest)) Q E s₃) E s₂) E s' :=
  caught_own hfr hx F N KX (topRead_of TT) ex boot_TypeError (by decide) isExc_TypeError notTuple_TypeError sub_TypeError' k hk hxk (by decide) hE
end
end Mine

end

/-! XHO -/
section
open PySem PySem.W PySem.Calls PyProof.Rows PyProof.V PySem.Spec Builtin
namespace Mine
section
variable {prog : Program} {w : World} {A : Around} {C : Addr} {R : Result → Shared → Prop} {h : Heap} {g : Array GenState} {d : Drawn} {t : Nat} {os : OsState}
theorem codeOn_call_builtin {id : String} {args : Args} {b : Builtin} {s : Shared} (hq : (Code.builtin id args).quiet = true) (hb : entryFor table id = some b)
    (h : wpAny (model prog w) A.in1 (checkBuiltinCall id args) (fun _ s₁ => wpOn (model prog w) (A.under (.builtin id args)) (b args)
      (fun fin s' => match fin with | .done f => R (.ok f) s' | .again c' => c'.quiet = true ∧ codeOn (model prog w) A c' R s') (fun e s' => R (.error e) s') s₁)
      (fun e s' => R (.error e) s') s) : codeOn (model prog w) A (.call (.builtin id) args) R s := by
  refine codeOn_of_tree ?_
  show wpOn _ A.in1 (checkBuiltinCall id args >>= fun _ => again (.builtin id args)) _ _ s
  refine on_bind (on_any (wpAny_mono h (fun _ s₁ h₁ => on_pure (And.intro hq (codeOn_of_tree ?_))) fun _ _ h' => h'))
  show wpOn _ _ (match entryFor table id with | some b => b args | none => unsupported ((withoutEnding? id "#data").getD id)) _ _ s₁
  rw [hb]; exact h₁
theorem err_coreO {rest : List Value} {fI : Addr} (Y : ErrMakes (model prog w) h C) (hi : Looks (model prog w) h (typeLookup (.ref C) "__init__") (some (.ref fI))) (hb : ∀ self, Looks (model prog w) h (bindSpecial (.ref fI) self) (.ref fI, [self]))
    (hq : codeOn (model prog w) (A.under (.builtin "type.__call__" ⟨.ref C :: rest, []⟩)) (.call (.ref fI) ⟨.ref (h.objs.size + 1) :: rest, []⟩) (InitBack (h.objs.size + 1) R) ⟨(h.push (tupObj [])).push (blankObj C h.objs.size), g, d, t, os⟩) :
    codeOn (model prog w) A (.call (.ref C) ⟨rest, []⟩) R ⟨h, g, d, t, os⟩ := by
  have Y' := Y
  obtain ⟨⟨oc, od, cd, sl, hC, e2, e4⟩, made, base, self, top, call, typ⟩ := Y
  refine codeOn_of_tree ?_
  show wpOn _ _ (callAny (.ref C) _) _ _ _
  refine no_load hC ?_
  show wpOn _ _ (callAny.viaDunder (.ref C) _) _ _ _
  unfold callAny.viaDunder
  refine on_bind (on_any (call.at ?_))
  dsimp only
  rw [tc_bind]
  refine on_bind (on_pure (on_bind (on_pure ?_)))
  refine on_pure (a := Fin.again (.call (.builtin "type.__call__") ⟨.ref C :: rest, []⟩)) (And.intro rfl ?_)
  refine codeOn_call_builtin (Code.quiet_builtin _ (by decide +kernel)) entry_typeCall (check_slot tc_kind tc_split typ (tc_args _ _ _) ?_)
  unfold Builtin.«type.__call__»
  have hm : Looks (model prog w) h (mroOf (.ref C)) cd.mro := ((Looks.ld (part := none) hC).andThen .now).andThen .now
  repeat (first | simp only [e4, Bool.false_eq_true, if_false] | with_reducible refine on_call ?_ | first
      | with_reducible refine on_any (Looks.at (by assumption) ?_)
      | with_reducible refine on_bind ?_ | with_reducible refine no_bind ?_ | with_reducible refine on_holding ?_
      | (refine on_yes rfl ?_) | (refine on_no rfl ?_)
      | (refine no_pure ?_; try dsimp only) | (refine no_rule ?_; try dsimp only) | (refine no_point ?_; try dsimp only) | (refine no_ask ?_; try dsimp only) | (refine no_fresh ?_; try dsimp only) | (refine no_alloc ?_; try dsimp only) | (refine no_load (by assumption) ?_; try dsimp only)
      | refine no_bind ?_)
  refine codeOn_any (new_os Y' hi ?_)
  have k : ∀ b o, h.get? b = some o → ((h.push (tupObj [])).push (blankObj C h.objs.size)).get? b = some o := fun b o e => Heap.get?_push_of_some _ (Heap.get?_push_of_some _ e)
  have hx : ((h.push (tupObj [])).push (blankObj C h.objs.size)).get? (h.objs.size + 1) = some (blankObj C h.objs.size) := by
    have z := Heap.get?_push_size (h.push (tupObj [])) (o := blankObj C h.objs.size) rfl
    rwa [Heap.size_push] at z
  have t1 : Looks (model prog w) ((h.push (tupObj [])).push (blankObj C h.objs.size)) (typeOf (.ref (h.objs.size + 1))) (.ref C) := (Looks.ld hx).andThen .now
  have s1 := self.keeps k
  have i1 := hi.keeps k
  have b1 := (hb (.ref (h.objs.size + 1))).keeps k
  unfold isInstance callSpecial? specialOf
  repeat (first | with_reducible refine on_call ?_ | first
      | with_reducible refine on_any (Looks.at (by assumption) ?_)
      | with_reducible refine on_bind ?_ | with_reducible refine no_bind ?_ | with_reducible refine on_holding ?_
      | (refine on_yes rfl ?_) | (refine on_no rfl ?_)
      | (refine no_pure ?_; try dsimp only) | (refine no_rule ?_; try dsimp only) | (refine no_point ?_; try dsimp only) | (refine no_ask ?_; try dsimp only) | (refine no_fresh ?_; try dsimp only) | (refine no_alloc ?_; try dsimp only) | (refine no_load (by assumption) ?_; try dsimp only)
      | refine no_bind ?_)
  refine codeOn_mono hq fun r s' z => ?_
  rcases r with e | (v | _ | _ | _) <;> first | exact z | exact z.elim | skip
  obtain ⟨rfl, z⟩ := z
  exact on_pure (on_pure z)
end
end Mine

end

/-! WO08 -/
section
open PySem PySem.W PyProof.Rows
set_option maxHeartbeats 3000000
namespace Mine
theorem failO_reply_0 (w : World) (mean : ExcName → Option Value) (mg mb : Str → Option Value) (loose : List Str) (e : Addr) (A : Around) (h₀ : Heap) (L : Addr) (m : Str → Option Value) (s : Shared) (R : Result → Shared → Prop)
    (F : Fr h₀ L s.heap m) (X : (K8 w.params).In h₀) (T : Top hd.view_39 loose mean mg mb h₀) (hh : A.handled = none) (k : ∀ h' x tk, RefO s.heap h' x → R (.error (.ref x)) { s with heap := h', toks := tk }) :
    codeOn (model PySem.Challenge.rw_dn0159_08.row.prog w) A (.call (.ref 41) ⟨[.ref e], []⟩) R s := by
  w_top off
  revert X; k_fill; intro X
  refine refuseO_fn F X (by k_is) (by k_is) hh ?_ k
  intro A E Q s hh k
  unfold bindArgs fnOf
  dsimp only
  refine on_bind ?_
  rw [List.forIn_nil]
  refine on_pure ?_
  refine on_bind (m := seqItems? .none) (on_pure (a := none) ?_)
  refine on_no ?_ ?_
  · kernel_rfl
  refine on_yes ?_ ?_
  · kernel_rfl
  refine on_bind ?_
  refine on_rule ?_
  refine on_bind ?_
  refine on_refuse hh ?_ k
  rw [PySem.ofString_length]
  exact Nat.le_of_ble_eq_true (by kernel_rfl)
theorem failO_reply_1 (w : World) (mean : ExcName → Option Value) (mg mb : Str → Option Value) (loose : List Str) (e : Addr) (u1 : Value) (A : Around) (h₀ : Heap) (L : Addr) (m : Str → Option Value) (s : Shared) (R : Result → Shared → Prop)
    (F : Fr h₀ L s.heap m) (X : (K8 w.params).In h₀) (T : Top hd.view_39 loose mean mg mb h₀) (hh : A.handled = none) (k : ∀ h' x tk, RefO s.heap h' x → R (.error (.ref x)) { s with heap := h', toks := tk }) :
    codeOn (model PySem.Challenge.rw_dn0159_08.row.prog w) A (.call (.ref 41) ⟨[.ref e, u1], []⟩) R s := by
  w_top off
  revert X; k_fill; intro X
  refine refuseO_fn F X (by k_is) (by k_is) hh ?_ k
  intro A E Q s hh k
  unfold bindArgs fnOf
  dsimp only
  refine on_bind ?_
  rw [List.forIn_nil]
  refine on_pure ?_
  refine on_bind (m := seqItems? .none) (on_pure (a := none) ?_)
  refine on_no ?_ ?_
  · kernel_rfl
  refine on_yes ?_ ?_
  · kernel_rfl
  refine on_bind ?_
  refine on_rule ?_
  refine on_bind ?_
  refine on_refuse hh ?_ k
  rw [PySem.ofString_length]
  exact Nat.le_of_ble_eq_true (by kernel_rfl)
theorem failO_reply_3 (w : World) (mean : ExcName → Option Value) (mg mb : Str → Option Value) (loose : List Str) (e : Addr) (u1 u2 u3 : Value) (A : Around) (h₀ : Heap) (L : Addr) (m : Str → Option Value) (s : Shared) (R : Result → Shared → Prop)
    (F : Fr h₀ L s.heap m) (X : (K8 w.params).In h₀) (T : Top hd.view_39 loose mean mg mb h₀) (hh : A.handled = none) (k : ∀ h' x tk, RefO s.heap h' x → R (.error (.ref x)) { s with heap := h', toks := tk }) :
    codeOn (model PySem.Challenge.rw_dn0159_08.row.prog w) A (.call (.ref 41) ⟨[.ref e, u1, u2, u3], []⟩) R s := by
  w_top off
  revert X; k_fill; intro X
  refine refuseO_fn F X (by k_is) (by k_is) hh ?_ k
  intro A E Q s hh k
  unfold bindArgs fnOf
  dsimp only
  refine on_bind ?_
  rw [List.forIn_nil]
  refine on_pure ?_
  refine on_bind (m := seqItems? .none) (on_pure (a := none) ?_)
  refine on_yes ?_ ?_
  · kernel_rfl
  refine on_bind ?_
  refine on_rule ?_
  refine on_bind ?_
  refine on_refuse hh ?_ k
  rw [PySem.ofString_length]
  exact Nat.le_of_ble_eq_true (by kernel_rfl)
theorem failO_reply_4 (w : World) (mean : ExcName → Option Value) (mg mb : Str → Option Value) (loose : List Str) (e : Addr) (u1 u2 u3 u4 : Value) (A : Around) (h₀ : Heap) (L : Addr) (m : Str → Option Value) (s : Shared) (R : Result → Shared → Prop)
    (F : Fr h₀ L s.heap m) (X : (K8 w.params).In h₀) (T : Top hd.view_39 loose mean mg mb h₀) (hh : A.handled = none) (k : ∀ h' x tk, RefO s.heap h' x → R (.error (.ref x)) { s with heap := h', toks := tk }) :
    codeOn (model PySem.Challenge.rw_dn0159_08.row.prog w) A (.call (.ref 41) ⟨[.ref e, u1, u2, u3, u4], []⟩) R s := by
  w_top off
  revert X; k_fill; intro X
  refine refuseO_fn F X (by k_is) (by k_is) hh ?_ k
  intro A E Q s hh k
  unfold bindArgs fnOf
  dsimp only
  refine on_bind ?_
  rw [List.forIn_nil]
  refine on_pure ?_
  refine on_bind (m := seqItems? .none) (on_pure (a := none) ?_)
  refine on_yes ?_ ?_
  · kernel_rfl
  refine on_bind ?_
  refine on_rule ?_
  refine on_bind ?_
  refine on_refuse hh ?_ k
  rw [PySem.ofString_length]
  exact Nat.le_of_ble_eq_true (by kernel_rfl)
theorem failO_sender_0 (w : World) (mean : ExcName → Option Value) (mg mb : Str → Option Value) (loose : List Str) (e : Addr) (A : Around) (h₀ : Heap) (L : Addr) (m : Str → Option Value) (s : Shared) (R : Result → Shared → Prop)
    (F : Fr h₀ L s.heap m) (X : (K8 w.params).In h₀) (T : Top hd.view_39 loose mean mg mb h₀) (hh : A.handled = none) (k : ∀ h' x tk, RefO s.heap h' x → R (.error (.ref x)) { s with heap := h', toks := tk }) :
    codeOn (model PySem.Challenge.rw_dn0159_08.row.prog w) A (.call (.ref 60) ⟨[.ref e], []⟩) R s := by
  w_top off
  revert X; k_fill; intro X
  refine refuseO_fn F X (by k_is) (by k_is) hh ?_ k
  intro A E Q s hh k
  unfold bindArgs fnOf
  dsimp only
  refine on_bind ?_
  rw [List.forIn_nil]
  refine on_pure ?_
  refine on_bind (m := seqItems? .none) (on_pure (a := none) ?_)
  refine on_no ?_ ?_
  · kernel_rfl
  refine on_yes ?_ ?_
  · kernel_rfl
  refine on_bind ?_
  refine on_rule ?_
  refine on_bind ?_
  refine on_refuse hh ?_ k
  rw [PySem.ofString_length]
  exact Nat.le_of_ble_eq_true (by kernel_rfl)
theorem failO_sender_1 (w : World) (mean : ExcName → Option Value) (mg mb : Str → Option Value) (loose : List Str) (e : Addr) (u1 : Value) (A : Around) (h₀ : Heap) (L : Addr) (m : Str → Option Value) (s : Shared) (R : Result → Shared → Prop)
    (F : Fr h₀ L s.heap m) (X : (K8 w.params).In h₀) (T : Top hd.view_39 loose mean mg mb h₀) (hh : A.handled = none) (k : ∀ h' x tk, RefO s.heap h' x → R (.error (.ref x)) { s with heap := h', toks := tk }) :
    codeOn (model PySem.Challenge.rw_dn0159_08.row.prog w) A (.call (.ref 60) ⟨[.ref e, u1], []⟩) R s := by
  w_top off
  revert X; k_fill; intro X
  refine refuseO_fn F X (by k_is) (by k_is) hh ?_ k
  intro A E Q s hh k
  unfold bindArgs fnOf
  dsimp only
  refine on_bind ?_
  rw [List.forIn_nil]
  refine on_pure ?_
  refine on_bind (m := seqItems? .none) (on_pure (a := none) ?_)
  refine on_no ?_ ?_
  · kernel_rfl
  refine on_yes ?_ ?_
  · kernel_rfl
  refine on_bind ?_
  refine on_rule ?_
  refine on_bind ?_
  refine on_refuse hh ?_ k
  rw [PySem.ofString_length]
  exact Nat.le_of_ble_eq_true (by kernel_rfl)
theorem failO_sender_2 (w : World) (mean : ExcName → Option Value) (mg mb : Str → Option Value) (loose : List Str) (e : Addr) (u1 u2 : Value) (A : Around) (h₀ : Heap) (L : Addr) (m : Str → Option Value) (s : Shared) (R : Result → Shared → Prop)
    (F : Fr h₀ L s.heap m) (X : (K8 w.params).In h₀) (T : Top hd.view_39 loose mean mg mb h₀) (hh : A.handled = none) (k : ∀ h' x tk, RefO s.heap h' x → R (.error (.ref x)) { s with heap := h', toks := tk }) :
    codeOn (model PySem.Challenge.rw_dn0159_08.row.prog w) A (.call (.ref 60) ⟨[.ref e, u1, u2], []⟩) R s := by
  w_top off
  revert X; k_fill; intro X
  refine refuseO_fn F X (by k_is) (by k_is) hh ?_ k
  intro A E Q s hh k
  unfold bindArgs fnOf
  dsimp only
  refine on_bind ?_
  rw [List.forIn_nil]
  refine on_pure ?_
  refine on_bind (m := seqItems? .none) (on_pure (a := none) ?_)
  refine on_no ?_ ?_
  · kernel_rfl
  refine on_yes ?_ ?_
  · kernel_rfl
  refine on_bind ?_
  refine on_rule ?_
  refine on_bind ?_
  refine on_refuse hh ?_ k
  rw [PySem.ofString_length]
  exact Nat.le_of_ble_eq_true (by kernel_rfl)
theorem failO_sender_4 (w : World) (mean : ExcName → Option Value) (mg mb : Str → Option Value) (loose : List Str) (e : Addr) (u1 u2 u3 u4 : Value) (A : Around) (h₀ : Heap) (L : Addr) (m : Str → Option Value) (s : Shared) (R : Result → Shared → Prop)
    (F : Fr h₀ L s.heap m) (X : (K8 w.params).In h₀) (T : Top hd.view_39 loose mean mg mb h₀) (hh : A.handled = none) (k : ∀ h' x tk, RefO s.heap h' x → R (.error (.ref x)) { s with heap := h', toks := tk }) :
    codeOn (model PySem.Challenge.rw_dn0159_08.row.prog w) A (.call (.ref 60) ⟨[.ref e, u1, u2, u3, u4], []⟩) R s := by
  w_top off
  revert X; k_fill; intro X
  refine refuseO_fn F X (by k_is) (by k_is) hh ?_ k
  intro A E Q s hh k
  unfold bindArgs fnOf
  dsimp only
  refine on_bind ?_
  rw [List.forIn_nil]
  refine on_pure ?_
  refine on_bind (m := seqItems? .none) (on_pure (a := none) ?_)
  refine on_yes ?_ ?_
  · kernel_rfl
  refine on_bind ?_
  refine on_rule ?_
  refine on_bind ?_
  refine on_refuse hh ?_ k
  rw [PySem.ofString_length]
  exact Nat.le_of_ble_eq_true (by kernel_rfl)
theorem failO_rcpt_0 (w : World) (mean : ExcName → Option Value) (mg mb : Str → Option Value) (loose : List Str) (e : Addr) (A : Around) (h₀ : Heap) (L : Addr) (m : Str → Option Value) (s : Shared) (R : Result → Shared → Prop)
    (F : Fr h₀ L s.heap m) (X : (K8 w.params).In h₀) (T : Top hd.view_39 loose mean mg mb h₀) (hh : A.handled = none) (k : ∀ h' x tk, RefO s.heap h' x → R (.error (.ref x)) { s with heap := h', toks := tk }) :
    codeOn (model PySem.Challenge.rw_dn0159_08.row.prog w) A (.call (.ref 79) ⟨[.ref e], []⟩) R s := by
  w_top off
  revert X; k_fill; intro X
  refine refuseO_fn F X (by k_is) (by k_is) hh ?_ k
  intro A E Q s hh k
  unfold bindArgs fnOf
  dsimp only
  refine on_bind ?_
  rw [List.forIn_nil]
  refine on_pure ?_
  refine on_bind (m := seqItems? .none) (on_pure (a := none) ?_)
  refine on_no ?_ ?_
  · kernel_rfl
  refine on_yes ?_ ?_
  · kernel_rfl
  refine on_bind ?_
  refine on_rule ?_
  refine on_bind ?_
  refine on_refuse hh ?_ k
  rw [PySem.ofString_length]
  exact Nat.le_of_ble_eq_true (by kernel_rfl)
theorem failO_rcpt_2 (w : World) (mean : ExcName → Option Value) (mg mb : Str → Option Value) (loose : List Str) (e : Addr) (u1 u2 : Value) (A : Around) (h₀ : Heap) (L : Addr) (m : Str → Option Value) (s : Shared) (R : Result → Shared → Prop)
    (F : Fr h₀ L s.heap m) (X : (K8 w.params).In h₀) (T : Top hd.view_39 loose mean mg mb h₀) (hh : A.handled = none) (k : ∀ h' x tk, RefO s.heap h' x → R (.error (.ref x)) { s with heap := h', toks := tk }) :
    codeOn (model PySem.Challenge.rw_dn0159_08.row.prog w) A (.call (.ref 79) ⟨[.ref e, u1, u2], []⟩) R s := by
  w_top off
  revert X; k_fill; intro X
  refine refuseO_fn F X (by k_is) (by k_is) hh ?_ k
  intro A E Q s hh k
  unfold bindArgs fnOf
  dsimp only
  refine on_bind ?_
  rw [List.forIn_nil]
  refine on_pure ?_
  refine on_bind (m := seqItems? .none) (on_pure (a := none) ?_)
  refine on_yes ?_ ?_
  · kernel_rfl
  refine on_bind ?_
  refine on_rule ?_
  refine on_bind ?_
  refine on_refuse hh ?_ k
  rw [PySem.ofString_length]
  exact Nat.le_of_ble_eq_true (by kernel_rfl)
theorem failO_rcpt_3 (w : World) (mean : ExcName → Option Value) (mg mb : Str → Option Value) (loose : List Str) (e : Addr) (u1 u2 u3 : Value) (A : Around) (h₀ : Heap) (L : Addr) (m : Str → Option Value) (s : Shared) (R : Result → Shared → Prop)
    (F : Fr h₀ L s.heap m) (X : (K8 w.params).In h₀) (T : Top hd.view_39 loose mean mg mb h₀) (hh : A.handled = none) (k : ∀ h' x tk, RefO s.heap h' x → R (.error (.ref x)) { s with heap := h', toks := tk }) :
    codeOn (model PySem.Challenge.rw_dn0159_08.row.prog w) A (.call (.ref 79) ⟨[.ref e, u1, u2, u3], []⟩) R s := by
  w_top off
  revert X; k_fill; intro X
  refine refuseO_fn F X (by k_is) (by k_is) hh ?_ k
  intro A E Q s hh k
  unfold bindArgs fnOf
  dsimp only
  refine on_bind ?_
  rw [List.forIn_nil]
  refine on_pure ?_
  refine on_bind (m := seqItems? .none) (on_pure (a := none) ?_)
  refine on_yes ?_ ?_
  · kernel_rfl
  refine on_bind ?_
  refine on_rule ?_
  refine on_bind ?_
  refine on_refuse hh ?_ k
  rw [PySem.ofString_length]
  exact Nat.le_of_ble_eq_true (by kernel_rfl)
theorem failO_rcpt_4 (w : World) (mean : ExcName → Option Value) (mg mb : Str → Option Value) (loose : List Str) (e : Addr) (u1 u2 u3 u4 : Value) (A : Around) (h₀ : Heap) (L : Addr) (m : Str → Option Value) (s : Shared) (R : Result → Shared → Prop)
    (F : Fr h₀ L s.heap m) (X : (K8 w.params).In h₀) (T : Top hd.view_39 loose mean mg mb h₀) (hh : A.handled = none) (k : ∀ h' x tk, RefO s.heap h' x → R (.error (.ref x)) { s with heap := h', toks := tk }) :
    codeOn (model PySem.Challenge.rw_dn0159_08.row.prog w) A (.call (.ref 79) ⟨[.ref e, u1, u2, u3, u4], []⟩) R s := by
  w_top off
  revert X; k_fill; intro X
  refine refuseO_fn F X (by k_is) (by k_is) hh ?_ k
  intro A E Q s hh k
  unfold bindArgs fnOf
  dsimp only
  refine on_bind ?_
  rw [List.forIn_nil]
  refine on_pure ?_
  refine on_bind (m := seqItems? .none) (on_pure (a := none) ?_)
  refine on_yes ?_ ?_
  · kernel_rfl
  refine on_bind ?_
  refine on_rule ?_
  refine on_bind ?_
  refine on_refuse hh ?_ k
  rw [PySem.ofString_length]
  exact Nat.le_of_ble_eq_true (by kernel_rfl)
end Mine

end

/-! MO8 -/
section
open PySem PySem.W PyProof.Rows PySem.Calls
namespace Mine
theorem RefO.down {h h₁ h' : Heap} {x : Addr} (hx : RefO h₁ h' x) (k : ∀ b o, h.get? b = some o → h₁.get? b = some o) : RefO h h' x := by
  refine ⟨fun b o e => hx.keeps b o (k b o e), ?_, hx.there⟩
  cases q : h.get? x with
  | none => rfl
  | some o => have z := k x o q; rw [hx.new] at z; cases z
section
variable {prog : Program} {w : World} {A : Around} {K : Frag} {C L : Addr} {s : Shared} {h₀ : Heap} {m : Str → Option Value} {news : List (Addr × Obj)} {E : Value → Shared → Prop} {Q : Value → Shared → Prop}
theorem make_errO {rest : List Value} {fI : Addr} (F : Fr h₀ L s.heap m) (N : News h₀ L s.heap news) (X₀ : K.In h₀) (hm : errMakes K C = true) (hi : findIn K (.ref C) "__init__" = some (some (.ref fI))) (hf : typeIn K (.ref fI) = some (.type "function"))
    (h : ∀ e t h', Fr h₀ L h' m → News h₀ L h' ((e, blankObj C t) :: (t, tupObj []) :: news) → (∀ p ∈ news, p.1 < t) → t < e → (∀ b o, s.heap.get? b = some o → h'.get? b = some o) →
      codeOn (model prog w) (A.under (.builtin "type.__call__" ⟨.ref C :: rest, []⟩)) (.call (.ref fI) ⟨.ref e :: rest, []⟩)
        (InitBack e (fun r s' => match r with | .ok (.ret v) => Q v s' | .ok _ => False | .error e => E e s')) { s with heap := h' }) :
    wpOn (model prog w) A (call (.ref C) rest) Q E s := by
  obtain ⟨hh, g, d, t, os⟩ := s
  have X := X₀.keeps F.keep
  refine on_call (err_coreO (errMakes_of X hm) (looks_findIn X hi) (fun self => bind_fn X self hf) (h _ hh.objs.size _ ((F.push _).push _) ?_ (fun p hp => Heap.lt_size (N p hp).1) (Nat.lt_succ_self _) (fun b o e => Heap.get?_push_of_some _ (Heap.get?_push_of_some _ e))))
  have := (N.push F (tupObj [])).push (F.push _) (blankObj C hh.objs.size)
  rwa [Heap.size_push] at this
end
section
variable (w : World) (mean : ExcName → Option Value) (mg mb : Str → Option Value) (loose : List Str) (C : Addr) (news : List (Addr × Obj)) (dp un : Nat) (gd : Option (List Code)) (cn : Str) (cs : Scope) (a : Addr) (ccd : Value) (h₀ : Heap) (L : Addr) (m : Str → Option Value) (s : Shared) (Q E : Value → Shared → Prop)
theorem refuseO_call (vs : List Value) {fI : Addr} (F : Fr h₀ L s.heap m) (X : (K8 w.params).In h₀) (N : News h₀ L s.heap news) (hm : errMakes (K8 w.params) C = true) (hi : findIn (K8 w.params) (.ref C) "__init__" = some (some (.ref fI))) (hf : typeIn (K8 w.params) (.ref fI) = some (.type "function"))
    (hfail : ∀ (e : Addr) (A : Around) (s : Shared) (R : Result → Shared → Prop), Fr h₀ L s.heap m → A.handled = none → (∀ h' x tk, RefO s.heap h' x → R (.error (.ref x)) { s with heap := h', toks := tk }) → codeOn (model PySem.Challenge.rw_dn0159_08.row.prog w) A (.call (.ref fI) ⟨.ref e :: vs, []⟩) R s)
    (k : ∀ h' x tk, RefO s.heap h' x → E (.ref x) { s with heap := h', toks := tk }) :
    wpOn (model PySem.Challenge.rw_dn0159_08.row.prog w) (ktrTop dp un gd cn cs L a ccd [] []) (call (.ref C) vs) Q E s :=
  make_errO F N X hm hi hf fun e t0 h' F' N' _ _ kp => hfail e _ { s with heap := h' } _ F' rfl fun h'' x tk r => k h'' x tk (r.down kp)
theorem replyO_any (vs : List Value) (hl : vs.length ≤ 4) (F : Fr h₀ L s.heap m) (X : (K8 w.params).In h₀) (N : News h₀ L s.heap news) (T : Top hd.view_39 loose mean mg mb h₀) (hk : cs.kind = .function) (hdp : dp + 1 < 800) (hm : errMakes (K8 w.params) C = true) (hi : findIn (K8 w.params) (.ref C) "__init__" = some (some (.ref 41))) (hS : ErrSet (K8 w.params) C)
    (ok : vs.length = 2 → ∀ e d t oe od h' tk, ErrObj C d t oe → TbNone oe → (∃ v1 v2, vs = [v1, v2] ∧ Attrs od (some v1) (some v2) none none) → Fr h₀ L h' m → News h₀ L h' ((t, tupObj vs) :: (d, od) :: (e, oe) :: news) → Apart3 e d t news → Q (.ref e) { s with heap := h', toks := tk })
    (bad : vs.length ≠ 2 → ∀ h' x tk, RefO s.heap h' x → E (.ref x) { s with heap := h', toks := tk }) :
    wpOn (model PySem.Challenge.rw_dn0159_08.row.prog w) (ktrTop dp un gd cn cs L a ccd [] []) (call (.ref C) vs) Q E s := by
  match vs, hl with
  | [], _ => exact refuseO_call w C news dp un gd cn cs a ccd h₀ L m s Q E _ F X N hm hi (fn41 _) (fun e A s R F' hh k => failO_reply_0 w mean mg mb loose e A h₀ L m s R F' X T hh k) (bad (by simp))
  | [u1], _ => exact refuseO_call w C news dp un gd cn cs a ccd h₀ L m s Q E _ F X N hm hi (fn41 _) (fun e A s R F' hh k => failO_reply_1 w mean mg mb loose e u1 A h₀ L m s R F' X T hh k) (bad (by simp))
  | [v1, v2], _ => exact on_any (make_reply w mean mg mb loose C news dp un gd cn cs a ccd h₀ L m s Q E v1 v2 F X N T hk hdp hm hi hS fun e d t oe od h' tk o1 o2 o3 F' N' ap => ok rfl e d t oe od h' tk o1 o2 ⟨v1, v2, rfl, o3⟩ F' N' ap)
  | [u1, u2, u3], _ => exact refuseO_call w C news dp un gd cn cs a ccd h₀ L m s Q E _ F X N hm hi (fn41 _) (fun e A s R F' hh k => failO_reply_3 w mean mg mb loose e u1 u2 u3 A h₀ L m s R F' X T hh k) (bad (by simp))
  | [u1, u2, u3, u4], _ => exact refuseO_call w C news dp un gd cn cs a ccd h₀ L m s Q E _ F X N hm hi (fn41 _) (fun e A s R F' hh k => failO_reply_4 w mean mg mb loose e u1 u2 u3 u4 A h₀ L m s R F' X T hh k) (bad (by simp))
  | _ :: _ :: _ :: _ :: _ :: _, hl => exact absurd hl (by simp)
theorem makeO_any (k : Int) (vs : List Value) (hK : KindC k C) (hl : vs.length ≤ 4) (F : Fr h₀ L s.heap m) (X : (K8 w.params).In h₀) (N : News h₀ L s.heap news) (T : Top hd.view_39 loose mean mg mb h₀) (hk : cs.kind = .function) (hdp : dp + 1 < 800)
    (ok : vs.length = ar k → ∀ e d t oe od h' tk, ErrObj C d t oe → TbNone oe → AttrsK k od vs → Fr h₀ L h' m → News h₀ L h' ((t, tupObj vs) :: (d, od) :: (e, oe) :: news) → Apart3 e d t news → Q (.ref e) { s with heap := h', toks := tk })
    (bad : vs.length ≠ ar k → ∀ h' x tk, RefO s.heap h' x → E (.ref x) { s with heap := h', toks := tk }) :
    wpOn (model PySem.Challenge.rw_dn0159_08.row.prog w) (ktrTop dp un gd cn cs L a ccd [] []) (call (.ref C) vs) Q E s := by
  have rep : ∀ (k : Int), k ≠ 1 → k ≠ 2 → ar k = 2 := fun k h1 h2 => by unfold ar; rw [if_neg h1, if_neg h2]
  have gen : ∀ (h1 : k ≠ 1) (h2 : k ≠ 2) (hm : errMakes (K8 w.params) C = true) (hi : findIn (K8 w.params) (.ref C) "__init__" = some (some (.ref 41))) (hS : ErrSet (K8 w.params) C), wpOn (model PySem.Challenge.rw_dn0159_08.row.prog w) (ktrTop dp un gd cn cs L a ccd [] []) (call (.ref C) vs) Q E s := fun h1 h2 hm hi hS =>
    replyO_any w mean mg mb loose C news dp un gd cn cs a ccd h₀ L m s Q E vs hl F X N T hk hdp hm hi hS (fun q e d t oe od h' tk o1 o2 ⟨v1, v2, e1, o3⟩ F' N' ap => ok (q.trans (rep k h1 h2).symm) e d t oe od h' tk o1 o2 (.inl ⟨v1, v2, e1, h1, h2, o3⟩) F' N' ap) (fun q => bad fun z => q (z.trans (rep k h1 h2)))
  rcases hK with ⟨rfl, rfl⟩ | ⟨rfl, rfl⟩ | ⟨rfl, rfl⟩ | ⟨rfl, rfl⟩ | ⟨rfl, rfl⟩ | ⟨rfl, rfl⟩ | ⟨rfl, rfl⟩
  · exact gen (by decide) (by decide) (mk44 _) (in44 _) (set44 _)
  · match vs, hl with
    | [], _ => exact refuseO_call w 63 news dp un gd cn cs a ccd h₀ L m s Q E _ F X N (mk63 _) (in63 _) (fn60 _) (fun e A s R F' hh k => failO_sender_0 w mean mg mb loose e A h₀ L m s R F' X T hh k) (bad (by decide))
    | [u1], _ => exact refuseO_call w 63 news dp un gd cn cs a ccd h₀ L m s Q E _ F X N (mk63 _) (in63 _) (fn60 _) (fun e A s R F' hh k => failO_sender_1 w mean mg mb loose e u1 A h₀ L m s R F' X T hh k) (bad (by show (1 : Nat) ≠ ar 1; decide))
    | [u1, u2], _ => exact refuseO_call w 63 news dp un gd cn cs a ccd h₀ L m s Q E _ F X N (mk63 _) (in63 _) (fn60 _) (fun e A s R F' hh k => failO_sender_2 w mean mg mb loose e u1 u2 A h₀ L m s R F' X T hh k) (bad (by show (2 : Nat) ≠ ar 1; decide))
    | [v1, v2, v3], _ => exact on_any (make_sender w mean mg mb loose 63 news dp un gd cn cs a ccd h₀ L m s Q E v1 v2 v3 F X N T hk hdp (mk63 _) (in63 _) (set63 _) fun e d t oe od h' tk o1 o2 o3 F' N' ap => ok rfl e d t oe od h' tk o1 o2 (.inr (.inl ⟨v1, v2, v3, rfl, rfl, o3⟩)) F' N' ap)
    | [u1, u2, u3, u4], _ => exact refuseO_call w 63 news dp un gd cn cs a ccd h₀ L m s Q E _ F X N (mk63 _) (in63 _) (fn60 _) (fun e A s R F' hh k => failO_sender_4 w mean mg mb loose e u1 u2 u3 u4 A h₀ L m s R F' X T hh k) (bad (by show (4 : Nat) ≠ ar 1; decide))
    | _ :: _ :: _ :: _ :: _ :: _, hl => exact absurd hl (by simp)
  · match vs, hl with
    | [], _ => exact refuseO_call w 82 news dp un gd cn cs a ccd h₀ L m s Q E _ F X N (mk82 _) (in82 _) (fn79 _) (fun e A s R F' hh k => failO_rcpt_0 w mean mg mb loose e A h₀ L m s R F' X T hh k) (bad (by decide))
    | [v1], _ => exact on_any (make_rcpt w mean mg mb loose 82 news dp un gd cn cs a ccd h₀ L m s Q E v1 F X N T hk hdp (mk82 _) (in82 _) (set82 _) fun e d t oe od h' tk o1 o2 o3 F' N' ap => ok rfl e d t oe od h' tk o1 o2 (.inr (.inr ⟨v1, rfl, rfl, o3⟩)) F' N' ap)
    | [u1, u2], _ => exact refuseO_call w 82 news dp un gd cn cs a ccd h₀ L m s Q E _ F X N (mk82 _) (in82 _) (fn79 _) (fun e A s R F' hh k => failO_rcpt_2 w mean mg mb loose e u1 u2 A h₀ L m s R F' X T hh k) (bad (by show (2 : Nat) ≠ ar 2; decide))
    | [u1, u2, u3], _ => exact refuseO_call w 82 news dp un gd cn cs a ccd h₀ L m s Q E _ F X N (mk82 _) (in82 _) (fn79 _) (fun e A s R F' hh k => failO_rcpt_3 w mean mg mb loose e u1 u2 u3 A h₀ L m s R F' X T hh k) (bad (by show (3 : Nat) ≠ ar 2; decide))
    | [u1, u2, u3, u4], _ => exact refuseO_call w 82 news dp un gd cn cs a ccd h₀ L m s Q E _ F X N (mk82 _) (in82 _) (fn79 _) (fun e A s R F' hh k => failO_rcpt_4 w mean mg mb loose e u1 u2 u3 u4 A h₀ L m s R F' X T hh k) (bad (by show (4 : Nat) ≠ ar 2; decide))
    | _ :: _ :: _ :: _ :: _ :: _, hl => exact absurd hl (by simp)
  · exact gen (by decide) (by decide) (mk94 _) (in94 _) (set94 _)
  · exact gen (by decide) (by decide) (mk106 _) (in106 _) (set106 _)
  · exact gen (by decide) (by decide) (mk118 _) (in118 _) (set118 _)
  · exact gen (by decide) (by decide) (mk130 _) (in130 _) (set130 _)
end
end Mine

end

/-! ZL -/
section
open PySem PySem.W PySem.Calls PyProof.Rows PyProof.V PySem.Spec
open Sem (wp)
namespace Mine
/-! zip of a list and of a tuple that is no shorter -/
section
variable {prog : Program} {w : World} {A : Around} {E : Value → Shared → Prop} {s : Shared}
theorem nextOf_tup {it t : Addr} {i : Nat} {ys : Array Value} {y : Value} {Q : Value → Shared → Prop} (hit : s.heap.IsTupleIter it t i) (ht : s.heap.IsTuple t ys) (hy : ys[i]? = some y)
    (hQ : ∀ h', h'.IsTupleIter it t (i + 1) → Heap.SameBut it s.heap h' → Q y { s with heap := h' }) : wpAny (model prog w) A (Builtin.SmallTypes.nextOf (.ref it)) Q E s := by
  obtain ⟨oi, hoi, ci, di⟩ := id hit
  obtain ⟨ot, hot, _, nt, dt⟩ := ht
  unfold Builtin.SmallTypes.nextOf
  refine wpAny_bind (wpAny_callSpecial?_slot (name := Str.ofString "__next__") hit.typeIs F.slot_tuple_iterator_next (wpAny_call_entry F.slot_tuple_iterator_next hit.typeIs F.entry_tuple_iterator_next ?_ (F.args_tuple_iterator_next_1 _)))
  show wpAny _ _ (field (.ref it) 0 >>= _) _ _ s
  refine wpAny_bind (wpAny_field hoi di (x := .ref t) rfl ?_)
  show wpAny _ _ (if (Value.ref t == Value.none) = true then _ else _) _ _ s
  rw [if_neg (show ¬ ((Value.ref t == Value.none) = true) from Bool.false_ne_true)]
  show wpAny _ _ (field (.ref it) 1 >>= _) _ _ s
  refine wpAny_bind (wpAny_field hoi di (x := .int i 0) rfl ?_)
  show wpAny _ _ (seqItems? (.ref t) >>= _) _ _ s
  refine wpAny_bind (wpAny_seqItems hot dt ?_)
  simp only [Int.toNat_natCast, hy]
  refine wpAny_bind (wpAny_setField hoi di (by simp) (wpAny_pure ⟨y, rfl, wpAny_pure (hQ _ ?_ (Heap.SameBut.update ..))⟩))
  exact ⟨_, Heap.get?_update_self _ hoi (Obj.isFreed_of_fields (Obj.data_mapFields di _)), (Obj.cls_mapFields ..).trans ci, by rw [Obj.data_mapFields di]; simp [rawInt]⟩
/-- where the zip stands: its list's iterator and its tuple's -/
structure ZT (h : Heap) (z TI TO i1 i2 l t : Addr) (xs ys : Array Value) (k : Nat) (f0 : Value) : Prop where
  z : IsZip h z TI TO f0
  TI : IsPair h TI (.ref i1) (.ref i2)
  TO : ∃ a b, IsPair h TO a b
  i1 : h.IsListIter i1 l k
  i2 : h.IsTupleIter i2 t k
  l : h.IsList l xs
  t : h.IsTuple t ys
theorem ZT.at {h h' : Heap} {z TI TO i1 i2 l t : Addr} {xs ys : Array Value} {k : Nat} {f0 : Value} (S : ZT h z TI TO i1 i2 l t xs ys k f0) (up : ∀ b ∈ [z, TI, TO, i1, i2, l, t], ∀ o, h.get? b = some o → h'.get? b = some o) : ZT h' z TI TO i1 i2 l t xs ys k f0 := by
  obtain ⟨a1, a2, ⟨a, b, a3⟩, a4, ⟨oj, g1, g2⟩, a6, ⟨ot, g3, g4⟩⟩ := S
  exact ⟨up z (by simp) _ a1, up TI (by simp) _ a2, ⟨a, b, up TO (by simp) _ a3⟩, a4.at fun o e => up i1 (by simp) o e, ⟨oj, up i2 (by simp) _ g1, g2⟩, a6.at fun o e => up l (by simp) o e, ⟨ot, up t (by simp) _ g3, g4⟩⟩
variable {z TI TO i1 i2 l t : Addr} {xs ys : Array Value} {k : Nat}
/-- one step of the zip -/
theorem zipT_step {Q : Value → Shared → Prop} (hh : A.handled = none) (D : ZipApart z TI TO i1 i2 l t) (S : ZT s.heap z TI TO i1 i2 l t xs ys k .none) (hle : xs.size ≤ ys.size)
    (item : ∀ x y h', xs[k]? = some x → ys[k]? = some y → ZT h' z TI TO i1 i2 l t xs ys (k + 1) (rawInt s.heap.objs.size) → IsPair h' s.heap.objs.size x y → (∀ c o, c ≠ z → c ≠ TO → c ≠ i1 → c ≠ i2 → s.heap.get? c = some o → h'.get? c = some o) → Q (.ref s.heap.objs.size) { s with heap := h' })
    (over : ∀ h' e, xs[k]? = none → (∀ c o, c ≠ z → c ≠ TO → c ≠ i1 → c ≠ i2 → s.heap.get? c = some o → h'.get? c = some o) → (∃ o, h'.get? e = some o ∧ o.cls = .type "StopIteration") → E (.ref e) { s with heap := h' }) :
    wpAny (model prog w) A (Builtin.«zip.__next__» ⟨[.ref z], []⟩) (fun fin s' => ∃ v, fin = .done (.ret v) ∧ Q v s') E s := by
  obtain ⟨sz, sTI, ⟨a, b, sTO⟩, s1, s2, sl, st⟩ := S
  show wpAny _ _ (field (.ref z) 2 >>= _) _ _ _
  refine wpAny_bind (wpAny_field sz rfl (x := .bool false) rfl ?_)
  show wpAny _ _ (field (.ref z) 3 >>= _) _ _ _
  refine wpAny_bind (wpAny_field sz rfl (x := .ref TI) rfl (wpAny_bind (wpAny_seqItems sTI rfl ?_)))
  show wpAny _ _ (Builtin.SmallTypes.ownedTupleIsFree (.ref z) >>= _) _ _ _
  unfold Builtin.SmallTypes.ownedTupleIsFree
  refine wpAny_bind (wpAny_bind (wpAny_field sz rfl (x := .none) rfl (wpAny_pure ?_)))
  simp only [if_true]
  refine wpAny_bind (wpAny_rule (wpAny_bind (wpAny_field sz rfl (x := .ref TO) rfl (wpAny_bind (wpAny_setField_rec sz (by simp) fun h₁ z₁ u₁ => ?_)))))
  replace z₁ : IsZip h₁ z TI TO .ellipsis := z₁
  refine wpAny_bind ?_
  simp only [List.zipIdx_cons, List.zipIdx_nil, List.forIn_cons, List.forIn_nil]
  refine wpAny_bind (wpAny_bind (wpAny_onRaise ?_))
  show wpAny _ _ (Builtin.SmallTypes.nextOf (.ref i1) >>= _) _ _ _
  cases hx : xs[k]? with
  | none =>
    refine wpAny_bind (wpAny_nextOf_list_end hh (s1.extBut u₁.extBut D.i1z) (sl.extBut u₁.extBut D.l1z) hx fun h₂ e u₂ he => ?_)
    obtain ⟨oe, hoe, hce⟩ := he
    have z₂ : IsZip h₂ z TI TO .ellipsis := u₂ _ _ D.i1z.symm z₁
    have hez : e ≠ z := fun q => by subst q; rw [z₂] at hoe; cases hoe; simp at hce
    exact wpAny_setField_rec z₂ (by simp) fun h₃ _ u₃ => over h₃ e hx (fun c o c1 _ c3 _ q => u₃.extBut _ _ c1 (u₂ _ _ c3 (u₁.extBut _ _ c1 q))) ⟨oe, u₃.extBut _ _ hez hoe, hce⟩
  | some x =>
    have hk : k < xs.size := (Array.getElem?_eq_some_iff.mp hx).1
    obtain ⟨y, hy⟩ : ∃ y, ys[k]? = some y := ⟨ys[k]'(Nat.lt_of_lt_of_le hk hle), Array.getElem?_eq_getElem (Nat.lt_of_lt_of_le hk hle)⟩
    refine wpAny_bind (wpAny_nextOf_list_item (s1.extBut u₁.extBut D.i1z) (sl.extBut u₁.extBut D.l1z) hx fun h₂ s1₂ u₂ => wpAny_pure ?_)
    have o₂ : IsPair h₂ TO a b := u₂.extBut _ _ D.TOi1 (u₁.extBut _ _ D.TOz sTO)
    refine wpAny_bind (wpAny_seqItems o₂ rfl (wpAny_bind (wpAny_updateSeq_pair o₂ fun h₃ o₃ u₃ => ?_)))
    replace o₃ : IsPair h₃ TO x b := o₃
    refine wpAny_bind (wpAny_letGo (wpAny_pure ?_))
    refine wpAny_bind (wpAny_bind (wpAny_onRaise ?_))
    show wpAny _ _ (Builtin.SmallTypes.nextOf (.ref i2) >>= _) _ _ _
    refine wpAny_bind (nextOf_tup (((s2.extBut u₁.extBut D.i2z).extBut u₂.extBut D.i12.symm).extBut u₃.extBut D.TOi2.symm)
      (((st.extBut u₁.extBut D.l2z).extBut u₂.extBut D.l2i1).extBut u₃.extBut D.l2TO) hy fun h₄ s2₄ u₄ => wpAny_pure ?_)
    have o₄ : IsPair h₄ TO x b := u₄.extBut _ _ D.TOi2 o₃
    refine wpAny_bind (wpAny_seqItems o₄ rfl (wpAny_bind (wpAny_updateSeq_pair o₄ fun h₅ o₅ u₅ => ?_)))
    replace o₅ : IsPair h₅ TO x y := o₅
    refine wpAny_bind (wpAny_letGo (wpAny_pure (wpAny_pure ?_)))
    refine wpAny_bind (wpAny_seqItems o₅ rfl (wpAny_bind (wpAny_newTuple ?_)))
    have size5 : h₅.objs.size = s.heap.objs.size := by rw [u₅.1, u₄.1, u₃.1, u₂.1, u₁.1]
    have z₅ : IsZip h₅ z TI TO .ellipsis := u₅.extBut _ _ D.TOz.symm (u₄.extBut _ _ D.i2z.symm (u₃.extBut _ _ D.TOz.symm (u₂.extBut _ _ D.i1z.symm z₁)))
    have keep5 : ∀ c o, c ≠ z → c ≠ TO → c ≠ i1 → c ≠ i2 → s.heap.get? c = some o → h₅.get? c = some o := fun c o c1 c2 c3 c4 q =>
      u₅.extBut _ _ c2 (u₄.extBut _ _ c4 (u₃.extBut _ _ c2 (u₂.extBut _ _ c3 (u₁.extBut _ _ c1 q))))
    have s1₅ : h₅.IsListIter i1 l (k + 1) := ((s1₂.extBut u₃.extBut D.TOi1.symm).extBut u₄.extBut D.i12).extBut u₅.extBut D.TOi1.symm
    have s2₅ : h₅.IsTupleIter i2 t (k + 1) := s2₄.extBut u₅.extBut D.TOi2.symm
    have S₅ : ZT h₅ z TI TO i1 i2 l t xs ys (k + 1) .ellipsis := ⟨z₅, keep5 _ _ D.TIz D.TITO D.TIi1 D.TIi2 sTI, ⟨_, _, o₅⟩, s1₅, s2₅, sl.at fun o q => keep5 l o D.l1z D.l1TO D.l1i1 D.l1i2 q,
      (let ⟨ot, g1, g2⟩ := st; ⟨ot, keep5 t _ D.l2z D.l2TO D.l2i1 D.l2i2 g1, g2⟩)⟩
    show wpAny _ _ (Builtin.SmallTypes.ownedTupleHandOut (.ref z) (.ref h₅.objs.size) >>= _) _ _ _
    unfold Builtin.SmallTypes.ownedTupleHandOut
    refine wpAny_bind ?_
    have z₆ : IsZip (h₅.push { cls := .type "tuple", data := .seq #[x, y] }) z TI TO .ellipsis := Heap.get?_push_of_some _ z₅
    refine wpAny_bind (wpAny_setField_rec z₆ (by simp) fun h₇ z₇ u₇ => ?_)
    replace z₇ : IsZip h₇ z TI TO (rawInt h₅.objs.size) := z₇
    refine wpAny_setField_rec z₇ (by simp) fun h₈ z₈ u₈ => ?_
    replace z₈ : IsZip h₈ z TI TO (rawInt h₅.objs.size) := z₈
    have up : ∀ c o, c ≠ z → h₅.get? c = some o → h₈.get? c = some o := fun c o c1 q => u₈.extBut _ _ c1 (u₇.extBut _ _ c1 (Heap.get?_push_of_some _ q))
    have zlt : z < h₅.objs.size := Heap.lt_size z₅
    have T₈ : IsPair h₈ h₅.objs.size x y := u₈.extBut _ _ (Nat.ne_of_gt zlt) (u₇.extBut _ _ (Nat.ne_of_gt zlt) (Heap.get?_push_size _ rfl))
    rw [size5] at z₈ T₈
    refine wpAny_pure ⟨_, rfl, ?_⟩
    show Q (.ref h₅.objs.size) _
    rw [size5]
    refine item x y h₈ hx hy ⟨z₈, up _ _ D.TIz S₅.TI, ⟨x, y, up _ _ D.TOz o₅⟩, s1₅.at fun o q => up _ o D.i1z q, (let ⟨oj, g1, g2⟩ := s2₅; ⟨oj, up _ _ D.i2z g1, g2⟩), S₅.l.at fun o q => up _ o D.l1z q,
      (let ⟨ot, g1, g2⟩ := S₅.t; ⟨ot, up _ _ D.l2z g1, g2⟩)⟩ T₈ fun c o c1 c2 c3 c4 q => up c o c1 (keep5 c o c1 c2 c3 c4 q)
theorem pyNext_zipT {Q : Option Value → Shared → Prop} (hh : A.handled = none) (D : ZipApart z TI TO i1 i2 l t) (S : ZT s.heap z TI TO i1 i2 l t xs ys k .none) (hle : xs.size ≤ ys.size)
    (item : ∀ x y h', xs[k]? = some x → ys[k]? = some y → ZT h' z TI TO i1 i2 l t xs ys (k + 1) (rawInt s.heap.objs.size) → IsPair h' s.heap.objs.size x y → (∀ c o, c ≠ z → c ≠ TO → c ≠ i1 → c ≠ i2 → s.heap.get? c = some o → h'.get? c = some o) → Q (some (.ref s.heap.objs.size)) { s with heap := h' })
    (over : ∀ h', xs[k]? = none → (∀ c o, c ≠ z → c ≠ TO → c ≠ i1 → c ≠ i2 → s.heap.get? c = some o → h'.get? c = some o) → Q none { s with heap := h' }) :
    wpAny (model prog w) A (pyNext (.ref z)) Q E s := by
  have hT : s.TypeIs (.ref z) "zip" := ⟨_, S.z, rfl⟩
  unfold pyNext
  refine wpAny_bind (wpAny_attempt (wpAny_callSpecial?_slot (name := Str.ofString "__next__") hT F.slot_zip_next (wpAny_call_entry F.slot_zip_next hT F.entry_zip_next
    (zipT_step hh D S hle (fun x y h' a1 a2 a3 a4 a5 => wpAny_pure (item x y h' a1 a2 a3 a4 a5)) fun h' e hx up he => ?_) (F.args_zip_next_1 _))))
  obtain ⟨o, ho, hc⟩ := he
  exact wpAny_bind (wpAny_isInstance (T := "StopIteration") (b := true) ⟨o, ho, hc⟩ isSubtype_stop (wpAny_pure (over _ hx up)))
end
abbrev zt1 (h : Heap) (l : Addr) : Heap := h.push { cls := .type "list_iterator", data := .fields #[.ref l, .int 0 0] }
abbrev zt2 (h : Heap) (l t : Addr) : Heap := (zt1 h l).push { cls := .type "tuple_iterator", data := .fields #[.ref t, .int 0 0] }
abbrev zt3 (h : Heap) (l t : Addr) : Heap := (zt2 h l t).push { cls := .type "tuple", data := .seq #[.ref h.objs.size, .ref (zt1 h l).objs.size] }
abbrev zt4 (h : Heap) (l t : Addr) : Heap := (zt3 h l t).push { cls := .type "tuple", data := .seq #[.none, .none] }
abbrev zt5 (h : Heap) (l t : Addr) : Heap := (zt4 h l t).push { cls := .type "zip", data := .fields #[.none, .bool false, .bool false, .ref (zt2 h l t).objs.size, .ref (zt3 h l t).objs.size] }
theorem meets_zipT (l t : Addr) (xs ys : Array Value) :
    Meets (Builtin.«zip.__new__» ⟨[.type "zip", .ref l, .ref t], []⟩) (fun _ R s => s.heap.IsList l xs ∧ s.heap.IsTuple t ys ∧ R (.ok (.ret (.ref (zt4 s.heap l t).objs.size))) { s with heap := zt5 s.heap l t }) :=
  .of_wp fun prog w A R s h => by
    obtain ⟨hp, g, d, tk, os⟩ := s; obtain ⟨hl, ht, h⟩ := h
    have hsub := sub_zip
    have hL : Heap.IsList (Shared.heap ⟨hp, g, d, tk, os⟩) l xs := hl
    have hT : Heap.IsTuple (Shared.heap ⟨hp.push { cls := .type "list_iterator", data := .fields #[.ref l, .int 0 0] }, g, d, tk, os⟩) t ys := Heap.IsTuple.push ht _
    wp_walk using wpAny_pyIter_list hL, wpAny_pyIter_tuple hT
    exact ⟨_, rfl, h⟩
section
variable {prog : Program} {w : World} {A : Around} {E : Value → Shared → Prop} {s : Shared}
theorem call_zipT {l t : Addr} {xs ys : Array Value} {Q : Value → Shared → Prop} (hl : s.heap.IsList l xs) (ht : s.heap.IsTuple t ys)
    (h : ∀ h', ZT h' (s.heap.objs.size + 4) (s.heap.objs.size + 2) (s.heap.objs.size + 3) s.heap.objs.size (s.heap.objs.size + 1) l t xs ys 0 .none → (∀ c o, s.heap.get? c = some o → h'.get? c = some o) → Q (.ref (s.heap.objs.size + 4)) { s with heap := h' }) :
    wpAny (model prog w) A (call (.type "zip") [.ref l, .ref t]) Q E s := by
  refine callType_new F.called_zip (by decide) (F.typeCall_zip_2 _ _) (F.newCall_zip_2 _ _) (fun obj => F.args_object_init_3 obj _ _) F.entry_zip_new (meets_zipT l t xs ys) ⟨hl, ht, ?_⟩
  have n1 : (zt1 s.heap l).objs.size = s.heap.objs.size + 1 := Heap.size_push ..
  have n2 : (zt2 s.heap l t).objs.size = s.heap.objs.size + 2 := by rw [Heap.size_push, n1]
  have n3 : (zt3 s.heap l t).objs.size = s.heap.objs.size + 3 := by rw [Heap.size_push, n2]
  have n4 : (zt4 s.heap l t).objs.size = s.heap.objs.size + 4 := by rw [Heap.size_push, n3]
  have up : ∀ c o, s.heap.get? c = some o → (zt5 s.heap l t).get? c = some o := fun c o q => Heap.get?_push_of_some _ (Heap.get?_push_of_some _ (Heap.get?_push_of_some _ (Heap.get?_push_of_some _ (Heap.get?_push_of_some _ q))))
  have g5 : (zt5 s.heap l t).get? (zt4 s.heap l t).objs.size = some _ := Heap.get?_push_size _ rfl
  have g4 : (zt5 s.heap l t).get? (zt3 s.heap l t).objs.size = some _ := Heap.get?_push_of_some _ (Heap.get?_push_size _ rfl)
  have g3 : (zt5 s.heap l t).get? (zt2 s.heap l t).objs.size = some _ := Heap.get?_push_of_some _ (Heap.get?_push_of_some _ (Heap.get?_push_size _ rfl))
  have g2 : (zt5 s.heap l t).get? (zt1 s.heap l).objs.size = some _ := Heap.get?_push_of_some _ (Heap.get?_push_of_some _ (Heap.get?_push_of_some _ (Heap.get?_push_size _ rfl)))
  have g1 : (zt5 s.heap l t).get? s.heap.objs.size = some _ := Heap.get?_push_of_some _ (Heap.get?_push_of_some _ (Heap.get?_push_of_some _ (Heap.get?_push_of_some _ (Heap.get?_push_size _ rfl))))
  show _ ∧ _
  rw [n2, n3, n4] at g5
  rw [n1, n2] at g3
  rw [n3] at g4
  rw [n1] at g2
  rw [n4]
  exact ⟨⟨_, g5, rfl⟩, h _ ⟨g5, g3, ⟨_, _, g4⟩, ⟨_, g1, rfl, rfl⟩, ⟨_, g2, rfl, rfl⟩, hl.at fun o q => up l o q, (let ⟨ot, q1, q2⟩ := ht; ⟨ot, up _ _ q1, q2⟩)⟩ up⟩
variable {env : Env} {h₀ : Heap} {body : List Stmt}
end
end Mine

end

/-! ZF -/
section
open PySem PySem.W PySem.Calls PyProof.Rows PyProof.V PySem.Spec
namespace Mine
/-! for x, y in zip(list, tuple) -/
section
variable {prog : Program} {w : World} {A : Around} {E : Value → Shared → Prop} {s : Shared} {env : Env} {h₀ : Heap} {body : List Stmt} {Q : Flow → Shared → Prop}
theorem iter_zipT {x y : Str} {px py pt : Pos} {x1 : Nat} {l t : Addr} {xs ys : List Value} {c : Nat} {m₀ : Str → Option Value} {news : List (Addr × Obj)} (J : Nat → (Str → Option Value) → List (Addr × Obj) → Prop)
    (hh : A.handled = none) (ml : (l, PySem.W.listOf xs.toArray c) ∈ news) (mt : (t, tupObj ys) ∈ news) (hle : xs.length ≤ ys.length) (F : Fr h₀ env.locals s.heap m₀) (N : News h₀ env.locals s.heap news) (hj : J 0 m₀ news)
    (hJl : ∀ i m nx, J i m nx → (l, PySem.W.listOf xs.toArray c) ∈ nx ∧ (t, tupObj ys) ∈ nx)
    (hx : env.kindOf x = some .local) (hy : env.kindOf y = some .local) (hp : (env.scope.kind == .class || (env.scope.kind == .module && env.locals != env.globals)) = false) (hE : PassesOwn (model prog w) A env E)
    (turn : ∀ i a b m₁ nx h tk own, xs[i]? = some a → ys[i]? = some b → J i m₁ nx → (∀ p ∈ nx, ∀ q ∈ own, p.1 ≠ q.1) → Fr h₀ env.locals h (fun z => if z = y then some b else if z = x then some a else m₁ z) → News h₀ env.locals h (nx ++ own) →
      wpAny (model prog w) A (execs body env) (PostT h₀ env.locals (J (i + 1)) own { s with heap := h, toks := tk } Q) E { s with heap := h, toks := tk })
    (done : ∀ m₁ nx h tk, J xs.length m₁ nx → Fr h₀ env.locals h m₁ → News h₀ env.locals h nx → Q .next { s with heap := h, toks := tk }) :
    wpAny (model prog w) A (call (.type "zip") [.ref l, .ref t]) (fun xv s₁ => wpAny (model prog w) A (pyIter xv) (fun it s₂ => ForAt prog w A env (.Tuple [.Name x px, .Name y py] x1 pt) body Q E it s₂) E s₁) E s := by
  have al := N _ ml
  have at' := N _ mt
  have hl : s.heap.IsList l xs.toArray := ⟨_, al.1, rfl, c, rfl⟩
  have ht : s.heap.IsTuple t ys.toArray := ⟨_, at'.1, rfl, 0, rfl⟩
  have hLs : env.locals < s.heap.objs.size := F.ns.lt
  have hab : h₀.objs.size ≤ env.locals := F.above
  have D : ZipApart (s.heap.objs.size + 4) (s.heap.objs.size + 2) (s.heap.objs.size + 3) s.heap.objs.size (s.heap.objs.size + 1) l t := ktu_apart _ _ _ (Heap.lt_size al.1) (Heap.lt_size at'.1)
  refine call_zipT hl ht fun h' S up => wpAny_pyIter_zip S.z ?_
  have hge : ∀ b ∈ [s.heap.objs.size + 4, s.heap.objs.size + 2, s.heap.objs.size + 3, s.heap.objs.size, s.heap.objs.size + 1], s.heap.objs.size ≤ b := fun b hb => by
    simp only [List.mem_cons, List.not_mem_nil, or_false] at hb
    rcases hb with rfl | rfl | rfl | rfl | rfl <;> omega
  have F' : Fr h₀ env.locals h' m₀ := ⟨F.ns.keeps up, fun b o e => up b o (F.keep b o e), F.above⟩
  have N' : News h₀ env.locals h' news := fun p hp => ⟨up _ _ (N p hp).1, (N p hp).2⟩
  have off0 : ∀ p ∈ news, ∀ b ∈ [s.heap.objs.size + 4, s.heap.objs.size + 2, s.heap.objs.size + 3, s.heap.objs.size, s.heap.objs.size + 1], p.1 ≠ b := fun p hp b hb => Nat.ne_of_lt (Nat.lt_of_lt_of_le (Heap.lt_size (N p hp).1) (hge b hb))
  have n0 : ∀ b ∈ [s.heap.objs.size + 4, s.heap.objs.size + 2, s.heap.objs.size + 3, s.heap.objs.size, s.heap.objs.size + 1], b ≠ env.locals ∧ h₀.get? b = none := fun b hb => ⟨Nat.ne_of_gt (Nat.lt_of_lt_of_le hLs (hge b hb)), Heap.get?_none_of_le (Nat.le_trans hab (Nat.le_of_lt (Nat.lt_of_lt_of_le hLs (hge b hb))))⟩
  clear up hge hLs hl ht al at'
  revert D S off0 n0
  generalize s.heap.objs.size + 4 = z
  generalize s.heap.objs.size + 2 = TI
  generalize s.heap.objs.size + 3 = TO
  generalize s.heap.objs.size + 1 = i2
  generalize s.heap.objs.size = i1
  intro D S off0 n0
  show codeAny _ _ _ _ _
  refine codeAny_forLoop_any
    (fun k s' => ∃ h' tk m' nx i, s' = { s with heap := h', toks := tk } ∧ ZT h' z TI TO i1 i2 l t xs.toArray ys.toArray i .none ∧ Fr h₀ env.locals h' m' ∧ News h₀ env.locals h' nx ∧ (∀ p ∈ nx, ∀ b ∈ [z, TI, TO, i1, i2], p.1 ≠ b) ∧ J i m' nx ∧ i ≤ xs.length ∧ k = xs.length + 1 - i) ?_ (xs.length + 1)
    ⟨h', s.toks, m₀, news, 0, rfl, S, F', N', off0, hj, Nat.zero_le _, rfl⟩
  clear S F' N' off0 hj N F ml mt
  rintro k s' ⟨H, tk, m', nx, i, rfl, S, F₁, N₁, off, hJ, hi, rfl⟩
  have hb0 : ∀ b o, h₀.get? b = some o → b ∉ [z, TI, TO, i1, i2] := fun b o q hb => by rw [(n0 b hb).2] at q; cases q
  have hbL : env.locals ∉ [z, TI, TO, i1, i2] := fun hb => (n0 _ hb).1 rfl
  have zz : z ∈ [z, TI, TO, i1, i2] := by simp
  have zTI : TI ∈ [z, TI, TO, i1, i2] := by simp
  have zTO : TO ∈ [z, TI, TO, i1, i2] := by simp
  have z1 : i1 ∈ [z, TI, TO, i1, i2] := by simp
  have z2 : i2 ∈ [z, TI, TO, i1, i2] := by simp
  refine pyNext_zipT hh D S (by simpa using hle) (fun a b h₁ ha hb S₁ P₁ up => ?_) fun h₁ hn up => wpAny_execs_nil ?_
  · have hlt : i < xs.length := by have := (Array.getElem?_eq_some_iff.mp ha).1; simpa using this
    refine wpAny_letOwnedTupleGo_zip S₁.z fun h₂ z₂ u₂ => ?_
    replace u₂ : Heap.SameBut z h₁ h₂ := u₂
    have zH : z < H.objs.size := Heap.lt_size S.z
    have T₂ : h₂.IsTuple H.objs.size #[a, b] := ⟨_, u₂.extBut _ _ (Nat.ne_of_gt zH) P₁, rfl, _, rfl⟩
    refine wpAny_assign_Tuple hh T₂ rfl rfl fun h₃ hx₃ => ?_
    replace hx₃ : Heap.ExtBut h₂.objs.size h₂ h₃ := hx₃
    have up₃ : ∀ b o, h₂.get? b = some o → h₃.get? b = some o := fun b o q => hx₃ b o (Nat.ne_of_lt (Heap.lt_size q)) q
    have kp : ∀ b o, b ∉ [z, TI, TO, i1, i2] → H.get? b = some o → h₃.get? b = some o := fun b o hb q =>
      up₃ b o (u₂.extBut _ _ (fun x => hb (by simp [x])) (up b o (fun x => hb (by simp [x])) (fun x => hb (by simp [x])) (fun x => hb (by simp [x])) (fun x => hb (by simp [x])) q))
    have S₂ : ZT h₂ z TI TO i1 i2 l t xs.toArray ys.toArray (i + 1) .none := by
      obtain ⟨_, gI, ⟨a, b, gO⟩, g1, g2, gl, gt⟩ := S₁
      exact ⟨z₂, u₂.extBut _ _ D.TIz gI, ⟨a, b, u₂.extBut _ _ D.TOz gO⟩, g1.extBut u₂.extBut D.i1z, g2.extBut u₂.extBut D.i2z, gl.extBut u₂.extBut D.l1z, gt.extBut u₂.extBut D.l2z⟩
    have S₃ : ZT h₃ z TI TO i1 i2 l t xs.toArray ys.toArray (i + 1) .none := S₂.at fun b _ o q => up₃ b o q
    have F₃ : Fr h₀ env.locals h₃ m' := by
      obtain ⟨o, es, ep, ho, r⟩ := F₁.ns
      exact ⟨⟨o, es, ep, kp _ _ hbL ho, r⟩, fun b o q => kp b o (hb0 b o q) (F₁.keep b o q), F₁.above⟩
    have N₃ : News h₀ env.locals h₃ nx := fun p hp => ⟨kp _ _ (fun hb => off p hp _ hb rfl) (N₁ p hp).1, (N₁ p hp).2⟩
    obtain ⟨gz, gI, ⟨a', b', gO⟩, ⟨o1, g1, g1'⟩, ⟨o2, g2, g2'⟩, _, _⟩ := S₃
    obtain ⟨oz, hz, ez⟩ : ∃ o, h₃.get? z = some o ∧ ∀ h : Heap, h.get? z = some o → IsZip h z TI TO .none := ⟨_, gz, fun _ q => q⟩
    obtain ⟨oI, hI, eI⟩ : ∃ o, h₃.get? TI = some o ∧ ∀ h : Heap, h.get? TI = some o → IsPair h TI (.ref i1) (.ref i2) := ⟨_, gI, fun _ q => q⟩
    obtain ⟨oO, hO, eO⟩ : ∃ o, h₃.get? TO = some o ∧ ∀ h : Heap, h.get? TO = some o → IsPair h TO a' b' := ⟨_, gO, fun _ q => q⟩
    have ex : ∃ own : List (Addr × Obj), News h₀ env.locals h₃ own ∧ (∀ q ∈ own, q.1 ∈ [z, TI, TO, i1, i2]) ∧ (∀ b ∈ [z, TI, TO, i1, i2], ∃ q ∈ own, q.1 = b) ∧ ∀ h, News h₀ env.locals h own → h.IsList l xs.toArray → h.IsTuple t ys.toArray → ZT h z TI TO i1 i2 l t xs.toArray ys.toArray (i + 1) .none := by
      refine ⟨[(z, oz), (TI, oI), (TO, oO), (i1, o1), (i2, o2)], fun p hp => ?_, fun q hq => ?_, fun b hb => ?_, fun h Nn jl jt => ⟨ez _ (Nn (z, oz) (.head _)).1, eI _ (Nn (TI, oI) (.tail _ (.head _))).1, ⟨a', b', eO _ (Nn (TO, oO) (.tail _ (.tail _ (.head _)))).1⟩, ⟨o1, (Nn (i1, o1) (.tail _ (.tail _ (.tail _ (.head _))))).1, g1'⟩, ⟨o2, (Nn (i2, o2) (.tail _ (.tail _ (.tail _ (.tail _ (.head _)))))).1, g2'⟩, jl, jt⟩⟩
      · simp only [List.mem_cons, List.not_mem_nil, or_false] at hp
        rcases hp with rfl | rfl | rfl | rfl | rfl
        · exact ⟨hz, n0 _ zz⟩
        · exact ⟨hI, n0 _ zTI⟩
        · exact ⟨hO, n0 _ zTO⟩
        · exact ⟨g1, n0 _ z1⟩
        · exact ⟨g2, n0 _ z2⟩
      · simp only [List.mem_cons, List.not_mem_nil, or_false] at hq
        rcases hq with rfl | rfl | rfl | rfl | rfl
        · exact zz
        · exact zTI
        · exact zTO
        · exact z1
        · exact z2
      · simp only [List.mem_cons, List.not_mem_nil, or_false] at hb
        rcases hb with rfl | rfl | rfl | rfl | rfl
        · exact ⟨_, .head _, rfl⟩
        · exact ⟨_, .tail _ (.head _), rfl⟩
        · exact ⟨_, .tail _ (.tail _ (.head _)), rfl⟩
        · exact ⟨_, .tail _ (.tail _ (.tail _ (.head _))), rfl⟩
        · exact ⟨_, .tail _ (.tail _ (.tail _ (.tail _ (.head _)))), rfl⟩
    obtain ⟨own, O₃, own5, all5, back⟩ := ex
    show wpAny _ A (do holding [b] (assign (.Name x px) env a); holding [] (assign (.Name y py) env b); pure ()) _ _ _
    refine wpAny_bind (wpAny_holding (wpAny_assign_Name (wpAny_storeName_local hx F₃.ns (fun h₄ hn₄ hs₄ => ?_) hp)))
    replace hs₄ : Heap.SameBut env.locals h₃ h₄ := hs₄
    have F₄ := F₃.set hn₄ hs₄
    refine wpAny_bind (wpAny_holding (wpAny_assign_Name (wpAny_storeName_local hy F₄.ns (fun h₅ hn₅ hs₅ => wpAny_pure ?_) hp)))
    replace hs₅ : Heap.SameBut env.locals h₄ h₅ := hs₅
    have F₅ := F₄.set hn₅ hs₅
    have N₅ : News h₀ env.locals h₅ nx := (N₃.set hs₄).set hs₅
    have O₅ : News h₀ env.locals h₅ own := (O₃.set hs₄).set hs₅
    refine wpAny_passesOwn hE ?_
    refine wpAny_mono (turn i a b m' nx h₅ _ own (by simpa using ha) (by simpa using hb) hJ (fun p hp q hq => off p hp _ (own5 q hq)) F₅ (fun p hp => (List.mem_append.mp hp).elim (N₅ p) (O₅ p))) (fun f s₃ h₆ => ?_) fun _ _ x => x
    have fin : ∀ tk5, EndT h₀ env.locals (J (i + 1)) own { s with heap := h₅, toks := tk5 } s₃ → ∃ k, k < xs.length + 1 - i ∧ ∃ h' tk m' nx i, s₃ = { s with heap := h', toks := tk } ∧ ZT h' z TI TO i1 i2 l t xs.toArray ys.toArray i .none ∧ Fr h₀ env.locals h' m' ∧ News h₀ env.locals h' nx ∧ (∀ p ∈ nx, ∀ b ∈ [z, TI, TO, i1, i2], p.1 ≠ b) ∧ J i m' nx ∧ i ≤ xs.length ∧ k = xs.length + 1 - i := by
      rintro tk5 ⟨h₇, tk₆, m₂, nx₂, rfl, F₆, N₆, O₆, off₆, hJ₆⟩
      obtain ⟨q1, q2⟩ := hJl _ _ _ hJ₆
      have Z := back h₇ O₆ ⟨_, (N₆ _ q1).1, rfl, c, rfl⟩ ⟨_, (N₆ _ q2).1, rfl, 0, rfl⟩
      refine ⟨xs.length + 1 - (i + 1), by omega, h₇, tk₆, m₂, nx₂, i + 1, rfl, Z, F₆, N₆, fun p hp b hb => ?_, hJ₆, hlt, rfl⟩
      obtain ⟨q, hq, rfl⟩ := all5 b hb
      exact off₆ p hp q hq
    cases f with
    | ret v => exact h₆
    | brk => exact h₆
    | next => exact fin _ h₆
    | cont => exact fin _ h₆
  · have hsz : i = xs.length := Nat.le_antisymm hi (by have := Array.getElem?_eq_none_iff.mp hn; simpa using this)
    have kp : ∀ b o, b ∉ [z, TI, TO, i1, i2] → H.get? b = some o → h₁.get? b = some o := fun b o hb q => up b o (fun x => hb (by simp [x])) (fun x => hb (by simp [x])) (fun x => hb (by simp [x])) (fun x => hb (by simp [x])) q
    refine done m' nx h₁ tk (hsz ▸ hJ) ⟨?_, fun b o q => kp b o (hb0 b o q) (F₁.keep b o q), F₁.above⟩ (fun p hp => ⟨kp _ _ (fun hb => off p hp _ hb rfl) (N₁ p hp).1, (N₁ p hp).2⟩)
    obtain ⟨o, es, ep, ho, r⟩ := F₁.ns
    exact ⟨o, es, ep, kp _ _ hbL ho, r⟩
end
end Mine

end

/-! ZG -/
section
open PySem PySem.W PySem.Calls PyProof.Rows PyProof.V PySem.Spec
namespace Mine
/-! for x, y in zip(keys, things): d[x] = y -/
theorem absent_of_nodup {base pairs : List (Str × Value)} {i : Nat} {c : Str} {v : Value} (nd : ((base ++ pairs).map (·.1)).Nodup) (h : pairs[i]? = some (c, v)) : valueAt (base ++ pairs.take i) c = none := by
  unfold valueAt
  rw [Option.map_eq_none_iff, List.find?_eq_none]
  intro p hp q
  have q : p.1 = c := of_decide_eq_true q
  have hi : i < pairs.length := (List.getElem?_eq_some_iff.mp h).1
  have e : base ++ pairs = (base ++ pairs.take i) ++ (c, v) :: pairs.drop (i + 1) := by
    have hg : pairs[i] = (c, v) := (List.getElem?_eq_some_iff.mp h).2
    rw [List.append_assoc]
    congr 1
    rw [← hg, List.getElem_cons_drop, List.take_append_drop]
  rw [e, List.map_append, List.nodup_append] at nd
  exact nd.2.2 p.1 (List.mem_map_of_mem hp) c (by simp) q
theorem stored_take {base pairs : List (Str × Value)} {i : Nat} {c : Str} {v : Value} (nd : ((base ++ pairs).map (·.1)).Nodup) (h : pairs[i]? = some (c, v)) : PySem.stored (base ++ pairs.take i) c v = base ++ pairs.take (i + 1) := by
  rw [stored_absent (absent_of_nodup nd h), List.append_assoc]
  congr 1
  rw [List.take_add_one, h]
  rfl
section
variable {prog : Program} {w : World} {A : Around} {E : Value → Shared → Prop} {s : Shared} {fn : Str} {scope : Scope} {L a : Addr} {cd : Value} {h₀ : Heap} {Q : Flow → Shared → Prop}
theorem fill_zip {x y d : Str} {px py pt pd px' ps py' pa : Pos} {x1 : Nat} {l t D : Addr} {xs ys : List Value} {c : Nat} {m₀ : Str → Option Value} {old : List (Addr × Obj)} {o₀ : Obj} {base : List (Str × Value)} (pairs : List (Str × Value))
    (hh : A.handled = none) (ml : (l, PySem.W.listOf xs.toArray c) ∈ old) (mt : (t, tupObj ys) ∈ old) (hxs : ∀ (i : Nat) (p : Str × Value), pairs[i]? = some p → ∃ k, xs[i]? = some (Value.str p.1 k)) (hlx : xs.length = pairs.length) (hys : ys = pairs.map (·.2))
    (F : Fr h₀ L s.heap m₀) (N : News h₀ L s.heap ((D, o₀) :: old)) (ap : ∀ p ∈ old, p.1 ≠ D) (hd : o₀.IsDictOf (PySem.strKind prog w) base) (nd : ((base ++ pairs).map (·.1)).Nodup) (hsz : (base ++ pairs).length ≤ 100)
    (md : m₀ d = some (.ref D)) (hdx : d ≠ x) (hdy : d ≠ y) (hxy : x ≠ y) (hk : scope.kind = .function) (kx : (envOf fn scope L a cd).kindOf x = some .local) (ky : (envOf fn scope L a cd).kindOf y = some .local) (kd : (envOf fn scope L a cd).kindOf d = some .local)
    (bx : (x == ("__debug__" : Str)) = false) (by' : (y == ("__debug__" : Str)) = false) (bd : (d == ("__debug__" : Str)) = false) (hE : PassesOwn (model prog w) A (envOf fn scope L a cd) E)
    (done : ∀ (o : Obj) (u : Str → Option Value) (h : Heap) (tk : Nat), o.IsDictOf (PySem.strKind prog w) (base ++ pairs) → Fr h₀ L h (fun z => if z = x then u z else if z = y then u z else m₀ z) → News h₀ L h ((D, o) :: old) → Q .next { s with heap := h, toks := tk })
    (hsw : swapsWith (.Name y py') (some (.Subscript (.Name d pd) (.Name x px') ps)) pa.line (envOf fn scope L a cd) = pure false) :
    wpAny (model prog w) A (call (.type "zip") [.ref l, .ref t]) (fun xv s₁ => wpAny (model prog w) A (pyIter xv) (fun it s₂ => ForAt prog w A (envOf fn scope L a cd) (.Tuple [.Name x px, .Name y py] x1 pt) [.Assign [.Subscript (.Name d pd) (.Name x px') ps] (.Name y py') pa] Q E it s₂) E s₁) E s := by
  have hp : ((envOf fn scope L a cd).scope.kind == .class || ((envOf fn scope L a cd).scope.kind == .module && (envOf fn scope L a cd).locals != (envOf fn scope L a cd).globals)) = false := by
    show (scope.kind == .class || (scope.kind == .module && L != mainGlobals)) = false
    rw [hk]; rfl
  refine iter_zipT (env := envOf fn scope L a cd) (m₀ := m₀) (news := (D, o₀) :: old) (fun i m nx => ∃ o, nx = (D, o) :: old ∧ o.IsDictOf (PySem.strKind prog w) (base ++ pairs.take i) ∧ ∀ z, z ≠ x → z ≠ y → m z = m₀ z)
    hh (.tail _ ml) (.tail _ mt) (by rw [hys, hlx, List.length_map]; exact Nat.le_refl _) F N ⟨o₀, rfl, by simpa using hd, fun _ _ _ => rfl⟩ ?_ kx ky hp hE ?_ ?_
  · rintro i m nx ⟨o, rfl, _⟩
    exact ⟨.tail _ ml, .tail _ mt⟩
  · rintro i xa v m₁ nx h tk own hxa hyv ⟨o, rfl, hdo, hm⟩ off F₁ N₁
    obtain ⟨c', hpi⟩ : ∃ c', pairs[i]? = some (c', v) := by
      rw [hys, List.getElem?_map] at hyv
      obtain ⟨p, hp, rfl⟩ := Option.map_eq_some_iff.mp hyv
      exact ⟨p.1, hp⟩
    obtain ⟨k, hk'⟩ := hxs i _ hpi
    rw [hk'] at hxa
    obtain rfl : Value.str c' k = xa := Option.some.inj hxa
    refine wpAny_execs_cons (wpAny_Assign_Subscript ?_ hsw)
    refine ld (v := v) F₁ (if_pos rfl) (ld (v := .ref D) F₁ (by show (if d = y then some v else if d = x then some (Value.str c' k) else m₁ d) = _; rw [if_neg hdy, if_neg hdx, hm d hdx hdy]; exact md) (ld (v := .str c' k) F₁ (by show (if x = y then some v else if x = x then some (Value.str c' k) else m₁ x) = _; rw [if_neg hxy, if_pos rfl]) ?_ hk kx bx) hk kd bd) hk ky by'
    have hm1 := N₁ _ (.head _)
    have apn : ∀ p ∈ old ++ own, p.1 ≠ D := fun p hp => (List.mem_append.mp hp).elim (ap p) fun q => Ne.symm (off _ (.head _) p q)
    have hz : (base ++ pairs.take i).length ≤ sizeLine := by
      rw [sizeLine_eq]
      have : (pairs.take i).length ≤ pairs.length := by rw [List.length_take]; exact Nat.min_le_right _ _
      simp only [List.length_append] at hsz ⊢
      omega
    refine wpAny_setItem_pairs (hsz := hz) (strKind_is _ _ _ _) (Heap.dictOf_iff.mpr ⟨o, hm1.1, hdo⟩) fun h' hmm hs => ?_
    obtain ⟨o', ho', hd'⟩ := Heap.dictOf_iff.mp hmm
    rw [stored_take nd hpi] at hd'
    refine wpAny_execs_nil ?_
    have N' : News h₀ L h' ((D, o') :: (old ++ own)) := News.setIn (own := []) N₁ (fun _ hq => nomatch hq) apn hs ho'
    exact ⟨h', _, _, (D, o') :: old, rfl, F₁.change hs hm1.2.1 hm1.2.2, fun p hp => N' p (by
      rcases List.mem_cons.mp hp with rfl | hp
      · exact .head _
      · exact .tail _ (List.mem_append.mpr (.inl hp))), fun p hp => N' p (.tail _ (List.mem_append.mpr (.inr hp))), fun p hp q hq => by
      rcases List.mem_cons.mp hp with rfl | hp
      · exact off _ (.head _) q hq
      · exact off p (.tail _ hp) q hq, o', rfl, hd', fun z z1 z2 => by simp only [z1, z2, if_false]; exact hm z z1 z2⟩
  · rintro m₁ nx h tk ⟨o, rfl, hdo, hm⟩ F₁ N₁
    refine done o m₁ h tk (by rw [hlx, List.take_length] at hdo; exact hdo) (fr_ext F₁ fun z => ?_) N₁
    by_cases z1 : z = x
    · simp only [z1, if_true]
    · by_cases z2 : z = y
      · simp only [z2, if_true]; split <;> rfl
      · simp only [z1, z2, if_false]; exact hm z z1 z2
end
/-- off the dict -/
def OffD (D : Addr) (old : List (Addr × Obj)) : Prop := ∀ p ∈ old, p.1 ≠ D
theorem offD_of {D : Addr} {old : List (Addr × Obj)} (h : ∀ p ∈ old, p.1 < D) : OffD D old := fun p hp => Nat.ne_of_lt (h p hp)

theorem keys_reply {k1 k2 : Tok} {a b : Value} : ∀ (i : Nat) (p : Str × Value), [(Str.ofString "code", a), (Str.ofString "msg", b)][i]? = some p → ∃ k, [Value.str (Str.ofString "code") k1, Value.str (Str.ofString "msg") k2][i]? = some (Value.str p.1 k)
  | 0, p, h => by obtain rfl := Option.some.inj h; exact ⟨_, rfl⟩
  | 1, p, h => by obtain rfl := Option.some.inj h; exact ⟨_, rfl⟩
  | i + 2, p, h => by simp at h
theorem nodup_reply : List.Nodup [Str.ofString "args", Str.ofString "code", Str.ofString "msg"] := by decide +kernel
section
variable {prog : Program} {w : World} {A : Around} {E : Value → Shared → Prop} {s : Shared} {fn : Str} {scope : Scope} {L a' : Addr} {cd : Value} {h₀ : Heap} {Q : Flow → Shared → Prop}
theorem fill_reply {px py pt pd px' ps py' pa : Pos} {x1 : Nat} {nm t D : Addr} {k1 k2 : Tok} {a b : Value} {c : Nat} {m₀ : Str → Option Value} {old : List (Addr × Obj)} {o₀ : Obj}
    (hh : A.handled = none) (F : Fr h₀ L s.heap m₀) (N : News h₀ L s.heap ((D, o₀) :: old)) (ml : (nm, PySem.W.listOf [Value.str (Str.ofString "code") k1, Value.str (Str.ofString "msg") k2].toArray c) ∈ old) (mt : (t, tupObj [a, b]) ∈ old) (ap : OffD D old) (hd : o₀.IsDictOf (PySem.strKind prog w) [(Str.ofString "args", .ref t)])
    (md : m₀ (Str.ofString "whole") = some (.ref D)) (hk : scope.kind = .function) (kx : (envOf fn scope L a' cd).kindOf (Str.ofString "name") = some .local) (ky : (envOf fn scope L a' cd).kindOf (Str.ofString "thing") = some .local) (kd : (envOf fn scope L a' cd).kindOf (Str.ofString "whole") = some .local) (hE : PassesOwn (model prog w) A (envOf fn scope L a' cd) E)
    (done : ∀ (o : Obj) (u : Str → Option Value) (h : Heap) (tk : Nat), o.IsDictOf (PySem.strKind prog w) [(Str.ofString "args", .ref t), (Str.ofString "code", a), (Str.ofString "msg", b)] → Fr h₀ L h (fun z => if z = Str.ofString "name" then u z else if z = Str.ofString "thing" then u z else m₀ z) → News h₀ L h ((D, o) :: old) → Q .next { s with heap := h, toks := tk })
    (hsw : swapsWith (.Name (Str.ofString "thing") py') (some (.Subscript (.Name (Str.ofString "whole") pd) (.Name (Str.ofString "name") px') ps)) pa.line (envOf fn scope L a' cd) = pure false) :
    wpAny (model prog w) A (call (.type "zip") [.ref nm, .ref t]) (fun xv s₁ => wpAny (model prog w) A (pyIter xv) (fun it s₂ => ForAt prog w A (envOf fn scope L a' cd) (.Tuple [.Name (Str.ofString "name") px, .Name (Str.ofString "thing") py] x1 pt) [.Assign [.Subscript (.Name (Str.ofString "whole") pd) (.Name (Str.ofString "name") px') ps] (.Name (Str.ofString "thing") py') pa] Q E it s₂) E s₁) E s :=
  fill_zip [(Str.ofString "code", a), (Str.ofString "msg", b)] hh ml mt keys_reply rfl rfl F N ap hd nodup_reply (Nat.le_of_ble_eq_true rfl) md (by decide) (by decide) (by decide) hk kx ky kd (by decide) (by decide) (by decide) hE done hsw
end

theorem keys_sender {k1 k2 k3 : Tok} {a b x : Value} : ∀ (i : Nat) (p : Str × Value), [(Str.ofString "code", a), (Str.ofString "msg", b), (Str.ofString "sender", x)][i]? = some p → ∃ k, [Value.str (Str.ofString "code") k1, Value.str (Str.ofString "msg") k2, Value.str (Str.ofString "sender") k3][i]? = some (Value.str p.1 k)
  | 0, p, h => by obtain rfl := Option.some.inj h; exact ⟨_, rfl⟩
  | 1, p, h => by obtain rfl := Option.some.inj h; exact ⟨_, rfl⟩
  | 2, p, h => by obtain rfl := Option.some.inj h; exact ⟨_, rfl⟩
  | i + 3, p, h => by simp at h
theorem nodup_sender : List.Nodup [Str.ofString "args", Str.ofString "code", Str.ofString "msg", Str.ofString "sender"] := by decide +kernel
section
variable {prog : Program} {w : World} {A : Around} {E : Value → Shared → Prop} {s : Shared} {fn : Str} {scope : Scope} {L a' : Addr} {cd : Value} {h₀ : Heap} {Q : Flow → Shared → Prop}
theorem fill_sender {px py pt pd px' ps py' pa : Pos} {x1 : Nat} {nm t D : Addr} {k1 k2 k3 : Tok} {a b x : Value} {c : Nat} {m₀ : Str → Option Value} {old : List (Addr × Obj)} {o₀ : Obj}
    (hh : A.handled = none) (F : Fr h₀ L s.heap m₀) (N : News h₀ L s.heap ((D, o₀) :: old)) (ml : (nm, PySem.W.listOf [Value.str (Str.ofString "code") k1, Value.str (Str.ofString "msg") k2, Value.str (Str.ofString "sender") k3].toArray c) ∈ old) (mt : (t, tupObj [a, b, x]) ∈ old) (ap : OffD D old) (hd : o₀.IsDictOf (PySem.strKind prog w) [(Str.ofString "args", .ref t)])
    (md : m₀ (Str.ofString "whole") = some (.ref D)) (hk : scope.kind = .function) (kx : (envOf fn scope L a' cd).kindOf (Str.ofString "name") = some .local) (ky : (envOf fn scope L a' cd).kindOf (Str.ofString "thing") = some .local) (kd : (envOf fn scope L a' cd).kindOf (Str.ofString "whole") = some .local) (hE : PassesOwn (model prog w) A (envOf fn scope L a' cd) E)
    (done : ∀ (o : Obj) (u : Str → Option Value) (h : Heap) (tk : Nat), o.IsDictOf (PySem.strKind prog w) [(Str.ofString "args", .ref t), (Str.ofString "code", a), (Str.ofString "msg", b), (Str.ofString "sender", x)] → Fr h₀ L h (fun z => if z = Str.ofString "name" then u z else if z = Str.ofString "thing" then u z else m₀ z) → News h₀ L h ((D, o) :: old) → Q .next { s with heap := h, toks := tk })
    (hsw : swapsWith (.Name (Str.ofString "thing") py') (some (.Subscript (.Name (Str.ofString "whole") pd) (.Name (Str.ofString "name") px') ps)) pa.line (envOf fn scope L a' cd) = pure false) :
    wpAny (model prog w) A (call (.type "zip") [.ref nm, .ref t]) (fun xv s₁ => wpAny (model prog w) A (pyIter xv) (fun it s₂ => ForAt prog w A (envOf fn scope L a' cd) (.Tuple [.Name (Str.ofString "name") px, .Name (Str.ofString "thing") py] x1 pt) [.Assign [.Subscript (.Name (Str.ofString "whole") pd) (.Name (Str.ofString "name") px') ps] (.Name (Str.ofString "thing") py') pa] Q E it s₂) E s₁) E s :=
  fill_zip [(Str.ofString "code", a), (Str.ofString "msg", b), (Str.ofString "sender", x)] hh ml mt keys_sender rfl rfl F N ap hd nodup_sender (Nat.le_of_ble_eq_true rfl) md (by decide) (by decide) (by decide) hk kx ky kd (by decide) (by decide) (by decide) hE done hsw
end

theorem keys_rcpt {k1 : Tok} {a : Value} : ∀ (i : Nat) (p : Str × Value), [(Str.ofString "recipients", a)][i]? = some p → ∃ k, [Value.str (Str.ofString "recipients") k1][i]? = some (Value.str p.1 k)
  | 0, p, h => by obtain rfl := Option.some.inj h; exact ⟨_, rfl⟩
  | i + 1, p, h => by simp at h
theorem nodup_rcpt : List.Nodup [Str.ofString "args", Str.ofString "recipients"] := by decide +kernel
section
variable {prog : Program} {w : World} {A : Around} {E : Value → Shared → Prop} {s : Shared} {fn : Str} {scope : Scope} {L a' : Addr} {cd : Value} {h₀ : Heap} {Q : Flow → Shared → Prop}
theorem fill_rcpt {px py pt pd px' ps py' pa : Pos} {x1 : Nat} {nm t D : Addr} {k1 : Tok} {a : Value} {c : Nat} {m₀ : Str → Option Value} {old : List (Addr × Obj)} {o₀ : Obj}
    (hh : A.handled = none) (F : Fr h₀ L s.heap m₀) (N : News h₀ L s.heap ((D, o₀) :: old)) (ml : (nm, PySem.W.listOf [Value.str (Str.ofString "recipients") k1].toArray c) ∈ old) (mt : (t, tupObj [a]) ∈ old) (ap : OffD D old) (hd : o₀.IsDictOf (PySem.strKind prog w) [(Str.ofString "args", .ref t)])
    (md : m₀ (Str.ofString "whole") = some (.ref D)) (hk : scope.kind = .function) (kx : (envOf fn scope L a' cd).kindOf (Str.ofString "name") = some .local) (ky : (envOf fn scope L a' cd).kindOf (Str.ofString "thing") = some .local) (kd : (envOf fn scope L a' cd).kindOf (Str.ofString "whole") = some .local) (hE : PassesOwn (model prog w) A (envOf fn scope L a' cd) E)
    (done : ∀ (o : Obj) (u : Str → Option Value) (h : Heap) (tk : Nat), o.IsDictOf (PySem.strKind prog w) [(Str.ofString "args", .ref t), (Str.ofString "recipients", a)] → Fr h₀ L h (fun z => if z = Str.ofString "name" then u z else if z = Str.ofString "thing" then u z else m₀ z) → News h₀ L h ((D, o) :: old) → Q .next { s with heap := h, toks := tk })
    (hsw : swapsWith (.Name (Str.ofString "thing") py') (some (.Subscript (.Name (Str.ofString "whole") pd) (.Name (Str.ofString "name") px') ps)) pa.line (envOf fn scope L a' cd) = pure false) :
    wpAny (model prog w) A (call (.type "zip") [.ref nm, .ref t]) (fun xv s₁ => wpAny (model prog w) A (pyIter xv) (fun it s₂ => ForAt prog w A (envOf fn scope L a' cd) (.Tuple [.Name (Str.ofString "name") px, .Name (Str.ofString "thing") py] x1 pt) [.Assign [.Subscript (.Name (Str.ofString "whole") pd) (.Name (Str.ofString "name") px') ps] (.Name (Str.ofString "thing") py') pa] Q E it s₂) E s₁) E s :=
  fill_zip [(Str.ofString "recipients", a)] hh ml mt keys_rcpt rfl rfl F N ap hd nodup_rcpt (Nat.le_of_ble_eq_true rfl) md (by decide) (by decide) (by decide) hk kx ky kd (by decide) (by decide) (by decide) hE done hsw
end
end Mine

end

/-! PO8 -/
section
open PySem PySem.W PySem.Calls PyProof.Rows PyProof.V PySem.Spec
namespace Mine
theorem post8 (ns : List Int) : PySem.Challenge.rw_dn0159_08.row.claim.post [ofPy (PyData.list (ns.map PyData.int))] (.bool true) [ofPy (PyData.list (ns.map PyData.int))] = true := by
  first
  | rfl
  | wrow_post
end Mine

end

/-! AQ08 -/
open PySem PySem.W PyProof.Rows
namespace Mine
theorem mod_lt (n : Int) (m : Int) (h : 0 < m) : 0 ≤ Int.fmod n m ∧ Int.fmod n m < m := ⟨Int.fmod_nonneg_of_pos n h, Int.fmod_lt_of_pos n h⟩
end Mine
set_option maxHeartbeats 8000000 in
theorem PySem.Challenge.cw_dn0159_08_holds : PySem.Challenge.rw_dn0159_08.Holds := by
  refine Mine.hd ?_
  k_fill
  intro w s₀ s₁ mg mb G Y fa o pm cd doc dV kV ho hd hcd hD hmg hg args vals as hpre hlay hrd hwl hlo
  have KX := kIn_of Y
  have X := (Ground.X G).1
  have V := (Ground.X G).2
  try w_nolog (first | (have GL := glob_more (Ground.glob G (by first | k_qdec | decide +kernel) (by first | k_qdec | decide +kernel)) V) | (have GL := glob_more (Ground.glob G (by decide +kernel)) V))
  refine Ground.open G ?_
  intro T B D TE TW
  try (refine guard_noD D (by decide +kernel) ?_; clear D)
  obtain ⟨_, _, M⟩ := bmod_of_top T
  have TA := at_of_top T
  try (obtain ⟨_, _, he, B0⟩ := based_of_top T rfl hmg ho hd; have he' : cd = _ := he; subst he'; clear he)
  clear hmg
  wrow_args hpre hlay hrd hwl hlo
  refine Mine.enter_callO ?_
  w_top on
  refine Mine.codeOn_mono ?_ (fun _ _ g => GoodW.toG g)
  have K0 := below_caller (Top.heap T)
  have he := Dflts.none hD rfl; subst he
  refine Mine.call_fullO (by decide) ho hd (Top.nolimit T) hcd (BindsTo.of_eq rfl) (locs rfl) fun h₁ F => ?_
  w_binds F
  have N0 := (News.nil : News _ _ _ []).at F
  clear hd TA hD hcd
  k_drop
  (rename (Frag.In _ _) => oX); (have oX8 := Mine.k8_in oX); clear oX; revert oX8; k_fill; intro oX8
  (try dsimp only)
  repeat' (first
    | (k_unfold; (try dsimp only))
    | (k_here; (with_reducible show wpAny _ _ (exec (Stmt.For (Expr.Tuple _ _ _) (Expr.Call (Expr.Name (Str.ofString "zip") _) _ _ _) _ _ _) _) _ _ _); k_dflt (refine Mine.For_at ?_ (by intro _; rfl)))
    | ((with_reducible show GoodW _ _ _ _ _ _ _); (show GoodW _ _ _ _ _ (.ok (.ret (.bool true))) _); (rename Fr _ _ _ _ => lF'); refine' goodW_bool lF' ?z24_g1 ?z24_g2 ?z24_g3 ?z24_g4; (case z24_g1 => with_reducible assumption); (case z24_g4 => exact rfl); (case z24_g2 => (refine raisesW_false ?_; wrow_none_raised)); (case z24_g3 => exact Mine.post8 _))
    | (k_here; (with_reducible show wpAny _ _ (call (Value.type _) [Value.ref _, Value.ref _]) (fun xv s₁ => wpAny _ _ (pyIter xv) (fun it s₂ => Mine.ForAt _ _ _ _ _ _ _ _ it s₂) _ s₁) _ _); (rename Fr _ _ _ _ => lF'); (rename News _ _ _ _ => lN'); k_dflt (first | (refine' Mine.fill_reply ?z23_zh lF' lN' ?z23_ml ?z23_mt ?z23_ap ?z23_hd ?z23_md ?z23_hk ?z23_kx ?z23_ky ?z23_kd ?z23_hE ?_ ?z23_hw; (case z23_ml => k_mem); (case z23_mt => k_mem); (case z23_zh => exact rfl); (case z23_ap => with_reducible assumption); (case z23_hd => assumption); (case z23_md => rfl); (case z23_hk => exact rfl); (case z23_kx => exact rfl); (case z23_ky => exact rfl); (case z23_kd => exact rfl); (case z23_hE => passes_own); (case z23_hw => exact rfl)) | (refine' Mine.fill_sender ?z23_zh lF' lN' ?z23_ml ?z23_mt ?z23_ap ?z23_hd ?z23_md ?z23_hk ?z23_kx ?z23_ky ?z23_kd ?z23_hE ?_ ?z23_hw; (case z23_ml => k_mem); (case z23_mt => k_mem); (case z23_zh => exact rfl); (case z23_ap => with_reducible assumption); (case z23_hd => assumption); (case z23_md => rfl); (case z23_hk => exact rfl); (case z23_kx => exact rfl); (case z23_ky => exact rfl); (case z23_kd => exact rfl); (case z23_hE => passes_own); (case z23_hw => exact rfl)) | (refine' Mine.fill_rcpt ?z23_zh lF' lN' ?z23_ml ?z23_mt ?z23_ap ?z23_hd ?z23_md ?z23_hk ?z23_kx ?z23_ky ?z23_kd ?z23_hE ?_ ?z23_hw; (case z23_ml => k_mem); (case z23_mt => k_mem); (case z23_zh => exact rfl); (case z23_ap => with_reducible assumption); (case z23_hd => assumption); (case z23_md => rfl); (case z23_hk => exact rfl); (case z23_kx => exact rfl); (case z23_ky => exact rfl); (case z23_kd => exact rfl); (case z23_hE => passes_own); (case z23_hw => exact rfl))); clear lF' lN'; intro o' u' h' tk' hd' F' N')
    | (k_here; (with_reducible show wpAny _ _ (compareOp CmpOp.NotEq (Value.ref _) (Value.ref _)) _ _ _); (rename News _ _ _ _ => lN'); k_dflt (first | (refine' Mine.ne8_reply lN' ?z22_d1 ?z22_d2 ?z22_i1 ?z22_i2 ?z22_l1 ?z22_l2 ?z22_m1 ?z22_m2 ?z22_f1 ?z22_f2 ?z22_ku ?_; (case z22_d1 => k_mem); (case z22_d2 => k_mem); (case z22_i1 => with_reducible assumption); (case z22_i2 => with_reducible assumption); (case z22_l1 => with_reducible assumption); (case z22_l2 => with_reducible assumption); (case z22_m1 => k_mem); (case z22_m2 => k_mem); (case z22_f1 => with_reducible assumption); (case z22_f2 => with_reducible assumption); (case z22_ku => exact Nat.le_of_ble_eq_true rfl)) | (refine' Mine.ne8_sender lN' ?z22_d1 ?z22_d2 ?z22_i1 ?z22_i2 ?z22_l1 ?z22_l2 ?z22_m1 ?z22_m2 ?z22_f1 ?z22_f2 ?z22_f3 ?z22_ku ?_; (case z22_d1 => k_mem); (case z22_d2 => k_mem); (case z22_i1 => with_reducible assumption); (case z22_i2 => with_reducible assumption); (case z22_l1 => with_reducible assumption); (case z22_l2 => with_reducible assumption); (case z22_m1 => k_mem); (case z22_m2 => k_mem); (case z22_f1 => with_reducible assumption); (case z22_f2 => with_reducible assumption); (case z22_f3 => with_reducible assumption); (case z22_ku => exact Nat.le_of_ble_eq_true rfl)) | (refine' Mine.ne8_rcpt lN' ?z22_d1 ?z22_d2 ?z22_i1 ?z22_i2 ?z22_l1 ?z22_l2 ?z22_m1 ?z22_m2 ?z22_f1 ?z22_ku ?_; (case z22_d1 => k_mem); (case z22_d2 => k_mem); (case z22_i1 => with_reducible assumption); (case z22_i2 => with_reducible assumption); (case z22_l1 => with_reducible assumption); (case z22_l2 => with_reducible assumption); (case z22_m1 => k_mem); (case z22_m2 => k_mem); (case z22_f1 => with_reducible assumption); (case z22_ku => exact Nat.le_of_ble_eq_true rfl))))
    | (k_here; (with_reducible show wpAny _ _ (call (Value.ref 139) [Value.ref _]) _ _ _); (with_reducible rename Mine.ErrObj _ _ _ _ => kho); (with_reducible rename Mine.Attrs _ _ _ _ _ => kat); (rename Fr _ _ _ _ => lF'); (rename News _ _ _ _ => lN'); k_dflt ((first | (refine' Mine.read8_reply _ _ _ _ _ _ _ _ _ _ _ _ _ _ _ _ _ _ _ _ _ _ _ _ _ _ _ lF' ?z21_qkX lN' ?z21_qkT ?z21_qkk ?z21_qkd ?z21_qku ?z21_qkC kho kat ?z21_qhv ?z21_qhw ?z21_qme ?z21_qmd ?z21_qmt ?_; (case z21_qhv => with_reducible assumption); (case z21_qhw => with_reducible assumption)) | (refine' Mine.read8_sender _ _ _ _ _ _ _ _ _ _ _ _ _ _ _ _ _ _ _ _ _ _ _ _ _ _ _ _ lF' ?z21_qkX lN' ?z21_qkT ?z21_qkk ?z21_qkd ?z21_qku ?z21_qkC kho kat ?z21_qhv ?z21_qhw ?z21_hu ?z21_qme ?z21_qmd ?z21_qmt ?_; (case z21_qhv => with_reducible assumption); (case z21_qhw => with_reducible assumption); (case z21_hu => with_reducible assumption)) | (refine' Mine.read8_rcpt _ _ _ _ _ _ _ _ _ _ _ _ _ _ _ _ _ _ _ _ _ _ _ _ _ _ lF' ?z21_qkX lN' ?z21_qkT ?z21_qkk ?z21_qkd ?z21_qku ?z21_qkC kho kat ?z21_qhv ?z21_qme ?z21_qmd ?z21_qmt ?_; (case z21_qhv => with_reducible assumption))); (case z21_qkX => with_reducible assumption); (case z21_qkT => with_reducible assumption); (case z21_qkk => exact rfl); (case z21_qkd => exact Nat.le_of_ble_eq_true rfl); (case z21_qku => exact Nat.le_of_ble_eq_true rfl); (case z21_qkC => with_reducible assumption); (case z21_qme => k_mem); (case z21_qmd => k_mem); (case z21_qmt => k_mem)); intro rD roD h' rtk rlo rdi F' N'; (try dsimp only); (try k_fold))
    | (k_here; (with_reducible show wpAny _ _ (eval (Expr.Dict _ _ _) _) _ _ _); k_dflt (refine' kdn_eval (knd := PySem.strKind _ _) ?z20_F ?z20_N ?z20_b ?z20_a ?z20_l ?z20_e ?z20_n ?_; (case z20_F => k_asm); (case z20_N => first | k_asm | exact News.nil); (case z20_b => exact Top.nolimit (by with_reducible assumption)); (case z20_a => rfl); (case z20_l => rfl); (case z20_e => exact List.cons_ne_nil _ _); (case z20_n => exact Nat.le_of_ble_eq_true rfl)); intro d' h' o' F' N' l1 lo' hd'; (have lap := Mine.offD_of l1); (try k_lt l1))
    | ((with_reducible show wpAny _ _ (pyIter (Value.ref _)) (fun it s₂ => Mine.ForAt _ _ _ _ (Expr.Tuple [Expr.Name (Str.ofString "error") _, Expr.Name (Str.ofString "due") _, Expr.Name (Str.ofString "own") _] _ _) _ _ _ it s₂) _ _); (rename Fr _ _ _ _ => lF'); (rename News _ _ _ _ => lN'); k_dflt (refine' Mine.iter8_2 ?z19_gX (by rfl) ?z19_gI lF' lN' ?z19_gE ?z19_gR ?z19_gS ?z19_gC ?z19_gdone; (case z19_gX => with_reducible assumption); (case z19_gI => with_reducible assumption); (case z19_gE => passes_own); (case' z19_gR => (clear lF' lN'; intro ki ku' ke kd kt kt' knm kC koe kod koI ka kb ka' kb' kq1 kq2 kc ku kh ktk kIt _ kEC kho kat kf1 kf2 kg1 kg2 kOff kFr kNews)); (case' z19_gS => (clear lF' lN'; intro ki ku' ke kd kt kt' knm kC koe kod koI ka kb kx ka' kb' kx' kq1 kq2 kq3 kc ku kh ktk kIt _ kEC kho kat kf1 kf2 kf3 kg1 kg2 kg3 kOff kFr kNews)); (case' z19_gC => (clear lF' lN'; intro ki ku' ke kd kt kt' knm kC koe kod koI ka ka' kq1 kc ku kh ktk kIt _ kEC kho kat kf1 kg1 kOff kFr kNews)); (case' z19_gdone => (clear lF' lN'; intro ku kh ktk kFr kNews)); (all_goals (try k_fold))))
    | (k_here; (with_reducible show wpAny _ _ (exec (Stmt.For (Expr.Tuple _ _ _) (Expr.Name (Str.ofString "made") _) _ _ _) _) _ _ _); k_dflt (refine Mine.For_at ?_ (by intro _; rfl)))
    | (k_here; (with_reducible show wpAny _ _ (call (Value.builtin "list.append") _) _ _ _); k_dflt (show wpAny _ _ (call (Value.builtin "list.append") [Value.ref _, Value.ref _]) _ _ _); (rename Mine.St8 _ _ _ _ _ _ _ _ _ => kst); (rename Fr _ _ _ _ => lF'); (rename News _ _ _ _ => lN'); (with_reducible rename Mine.Apart3 _ _ _ _ => kap); (with_reducible rename Mine.ErrObj _ _ _ _ => kho); (with_reducible rename Mine.AttrsK _ _ _ => kat); k_dflt (refine' Mine.append8 lF' lN' (kst.more ?z17_sub) (.head _) ?z17_me ?z17_mk ?z17_md ?z17_mw ?z17_mB kho ?z17_hK kat ?z17_hF ?z17_hn kap ?z17_nw ?z17_hz ?_; (case z17_sub => (intro p hp; repeat (first | exact hp | refine List.Mem.tail _ ?_))); (case z17_me => k_mem); (case z17_mk => k_mem); (case z17_md => k_mem); (case z17_mw => k_mem); (case z17_mB => with_reducible assumption); (case z17_hK => with_reducible assumption); (case z17_hF => first | exact Mine.fls2 (by first | with_reducible assumption | exact Mine.fl_int _ _ _) (by first | with_reducible assumption | exact Mine.fl_int _ _ _) | exact Mine.fls1 (by first | with_reducible assumption | exact Mine.fl_int _ _ _) | exact Mine.fls3 (by first | with_reducible assumption | exact Mine.fl_int _ _ _) (by first | with_reducible assumption | exact Mine.fl_int _ _ _) (by first | with_reducible assumption | exact Mine.fl_int _ _ _) | exact Mine.fls0); (case z17_hn => with_reducible assumption); (case z17_nw => (intro p hp; repeat (first | exact hp | refine List.Mem.tail _ ?_))); (case z17_hz => omega)); clear kst lF' lN'; intro h' F' N' kst')
    | (k_here; (with_reducible show wpAny _ _ (noteFrame (Value.ref _) _) _ _ _); (rename Fr _ _ _ _ => lF'); (rename News _ _ _ _ => lN'); k_dflt (refine' Mine.caught_refO ?z16_c1 ?z16_c2 lF' lN' ?z16_c3 ?z16_c4 ?z16_c5 ?_ ?z16_c6 ?z16_c7 ?z16_c8; (case z16_c1 => exact rfl); (case z16_c2 => with_reducible assumption); (case z16_c3 => with_reducible assumption); (case z16_c4 => with_reducible assumption); (case z16_c5 => k_is); (case z16_c6 => exact rfl); (case z16_c7 => exact rfl); (case z16_c8 => passes_own)); clear lF' lN'; intro h' F' N')
    | (k_here; (with_reducible show wpAny _ _ (subscriptTail _ (PySem.Expr.Slice _ _ _ _) (Value.ref _) (Value.ref _)) _ _ _); (rename Fr _ _ _ _ => lF'); (rename News _ _ _ _ => lN'); k_dflt (first | (refine' Mine.cut_first lF' lN' ?z15_mt ?z15_hz ?_ ?z15_hs ?z15_hg; (case z15_mt => k_mem); (case z15_hz => exact Nat.le_of_ble_eq_true rfl); (case z15_hs => with_unfolding_all rfl); (case z15_hg => (intro _; with_unfolding_all rfl))) | (refine' Mine.cut_last lF' lN' ?z15_mt ?z15_ha ?z15_hz ?z15_he ?_ ?z15_hs ?z15_hg; (case z15_mt => k_mem); (case z15_ha => exact Nat.le_of_ble_eq_true rfl); (case z15_hz => exact Nat.le_of_ble_eq_true rfl); (case z15_he => kl_lit); (case z15_hs => with_unfolding_all rfl); (case z15_hg => (intro _; with_unfolding_all rfl)))); intro D' h' F' N' l1; (try k_lt l1))
    | (k_here; (with_reducible show wpAny _ _ (binaryOp Operator.Add (Value.ref _) (Value.ref _)) _ _ _); (rename Fr _ _ _ _ => lF'); (rename News _ _ _ _ => lN'); k_dflt (first | (refine' Mine.plus_tup lF' lN' ?z14_ma ?z14_mb ?z14_hv ?z14_hw ?z14_hz ?z14_he ?_; (case z14_ma => k_mem); (case z14_mb => k_mem); (case z14_hv => exact List.cons_ne_nil _ _); (case z14_hw => exact List.cons_ne_nil _ _); (case z14_hz => exact Nat.le_of_ble_eq_true rfl); (case z14_he => kl_lit); intro D' h' F' N' l1; (try k_lt l1)) | (refine' Mine.plus_tup1 lF' lN' ?z14_ma ?z14_mb ?z14_hv ?z14_hz ?_; (case z14_ma => k_mem); (case z14_mb => k_mem); (case z14_hv => exact List.cons_ne_nil _ _); (case z14_hz => exact Nat.le_of_ble_eq_true rfl))))
    | (k_here; (with_reducible show wpAny _ _ (call (Value.builtin "len") [Value.ref _]) _ _ _); (rename Mine.St8 _ _ _ _ _ _ _ _ _ => kst); (rename News _ _ _ _ => lN'); (with_reducible rename (_ ∈ _) => kmB); k_dflt (refine' Mine.len_names lN' (kst.more ?z13_sub) kmB ?z13_kn ?_; (case z13_sub => (intro p hp; repeat (first | exact hp | refine List.Mem.tail _ ?_))); (case z13_kn => assumption)))
    | (k_here; (with_reducible show wpAny _ _ (subscriptTail _ _ (Value.ref _) (Value.int (Int.fmod _ 7) _)) _ _ _); (rename Mine.St8 _ _ _ _ _ _ _ _ _ => kst); (rename Mine.Const8 _ _ _ _ _ _ => kcon); (rename News _ _ _ _ => lN'); k_dflt (first | (refine' Mine.pick_kind lN' (kst.more ?z12_sub) kcon ?z12_k0 ?z12_k1 ?_ ?z12_k3 ?z12_k4; (case z12_sub => (intro p hp; repeat (first | exact hp | refine List.Mem.tail _ ?_))); (case z12_k0 => exact (Mine.mod_lt _ _ (by decide)).1); (case z12_k1 => exact (Mine.mod_lt _ _ (by decide)).2); (case z12_k3 => with_unfolding_all rfl); (case z12_k4 => (intro _; with_unfolding_all rfl)); intro pC pK) | (refine' Mine.pick_names lN' (kst.more ?z12_sub) kcon ?z12_k0 ?z12_k1 ?_ ?z12_k3 ?z12_k4; (case z12_sub => (intro p hp; repeat (first | exact hp | refine List.Mem.tail _ ?_))); (case z12_k0 => exact (Mine.mod_lt _ _ (by decide)).1); (case z12_k1 => exact (Mine.mod_lt _ _ (by decide)).2); (case z12_k3 => with_unfolding_all rfl); (case z12_k4 => (intro _; with_unfolding_all rfl)); intro pnm pxs pc pnk plen pmB)))
    | (k_here; (with_reducible show wpAny _ _ (getAttr (Value.ref _) (Str.ofString "args") _) _ _ _); k_dflt (refine Mine.get_args (K := Mine.K8 _) (by k_asm) (by k_asm) (by k_asm) (Mine.kind_cls _ (by assumption)) (by assumption) (by k_mem) (by k_mem) ?_))
    | ((with_reducible show wpAny _ _ (pyIter (Value.ref _)) (fun it s₂ => Mine.ForO _ _ _ _ (Expr.Name _ _) _ _ _ it s₂) _ _); (rename Fr _ _ _ _ => lF'); (rename News _ _ _ _ => lN'); (with_reducible rename Mine.ErrObj _ _ _ _ => sho); (with_reducible rename Mine.Attrs _ _ _ _ _ => sha); k_dflt (refine' Mine.iter8_sP lF' lN' (Mine.const8 ?z10_m2 ?z10_h0 ?z10_h1 ?z10_h2 ?z10_h3 ?z10_h4 ?z10_h5 ?z10_h6 ?z10_m1 ?z10_mD (Mine.nk2 (by decide) (by decide)) Mine.nk3 Mine.nk1 (Mine.nk2 (by decide) (by decide)) (Mine.nk2 (by decide) (by decide)) (Mine.nk2 (by decide) (by decide)) (Mine.nk2 (by decide) (by decide))) ?z10_h0b (Mine.nk2 (by decide) (by decide)) sho sha ⟨Mine.Fl.int _ _ _, .inr ⟨_, _, _, rfl, rfl⟩, trivial⟩ ?z10_lt (by rfl) ?z10_khi ?z10_kh (by rfl) (by rfl) (by rfl) (by rfl) ?z10_kE ?z10_kt2 ?z10_kt3 ?z10_kt1 ?z10_kdone; (case z10_m2 => k_mem); (case z10_h0 => k_mem); (case z10_h1 => k_mem); (case z10_h2 => k_mem); (case z10_h3 => k_mem); (case z10_h4 => k_mem); (case z10_h5 => k_mem); (case z10_h6 => k_mem); (case z10_m1 => k_mem); (case z10_mD => k_mem); (case z10_h0b => k_mem); (case z10_lt => (unfold AllLt; repeat (first | exact trivial | refine ⟨by omega, ?_⟩)))); (case z10_khi => with_reducible assumption); (case z10_kh => omega); (case z10_kE => passes_own); (case' z10_kt2 => (clear sho sha lF' lN'; intro kB knv ki kn knt kus kcn kT ke kd kt kt' kk kC koe kod ka kb ka' kb' ku kh ktk kit koit _ kCon ki63 kul kSt kho kK kf1 kf2 kFr kNews)); (case' z10_kt3 => (clear sho sha lF' lN'; intro kB knv ki kn knt kus kcn kT ke kd kt kt' kk kC koe kod ka kb kx ka' kb' kx' ku kh ktk kit koit _ kCon ki63 kul kSt kho kK kf1 kf2 kf3 kFr kNews)); (case' z10_kt1 => (clear sho sha lF' lN'; intro kB knv ki kn knt kus kcn kT ke kd kt kt' kk kC koe kod ka ka' ku kh ktk kit koit _ kCon ki63 kul kSt kho kK kf1 kFr kNews)); (case' z10_kdone => (clear sho sha lF' lN'; intro kus kcn kB kT ku kh ktk _ kItems kFr kNews)); skip)
    | (k_here; (with_reducible show wpAny _ _ (call (Value.ref 44) [_, _]) _ _ _); (rename Fr _ _ _ _ => lF'); (rename News _ _ _ _ => lN'); k_dflt (refine' Mine.make_reply _ _ _ _ _ _ _ _ _ _ _ _ _ _ _ _ _ _ _ _ _ _ lF' ?z9_kX lN' ?z9_kT ?z9_kk ?z9_kd (Mine.mk44 _) (Mine.in44 _) (Mine.set44 _) ?_; (case z9_kX => k_asm); (case z9_kT => k_asm); (case z9_kk => exact rfl); (case z9_kd => exact Nat.le_of_ble_eq_true rfl)); clear lF' lN'; intro re rd rt roe rod h' rtk ro rtb rat F' N' rap; (try dsimp only); (try k_fold))
    | (k_here; (with_reducible show Mine.wpOn _ _ (call (Value.ref _) _) _ _ _); (rename Fr _ _ _ _ => lF'); (rename News _ _ _ _ => lN'); k_dflt (refine' Mine.makeO_any _ _ _ _ _ _ _ _ _ _ _ _ _ _ _ _ _ _ _ _ _ _ ?z8_hK8 ?z8_hl8 lF' ?z8_kX8 lN' ?z8_kT8 ?z8_kk8 ?z8_kd8 ?_ ?_; (case z8_hK8 => with_reducible assumption); (case z8_hl8 => exact Nat.le_of_ble_eq_true rfl); (case z8_kX8 => k_asm); (case z8_kT8 => k_asm); (case z8_kk8 => exact rfl); (case z8_kd8 => exact Nat.le_of_ble_eq_true rfl)); (intro hlen8 re rd rt roe rod h' rtk ro rtb rat F' N' rap; simp only [List.length_cons, List.length_nil] at hlen8); rotate_left; (intro hlen8 h' x' tk' href; simp only [List.length_cons, List.length_nil] at hlen8); rotate_left; (all_goals (try dsimp only)); (try (exact absurd hlen8 (Mine.ar4 _))))
    | (k_here; (with_reducible show Mine.wpOn _ _ (callWith _ (Value.ref _) _ (backTo _ (starEach [Expr.Starred _ _] _)) []) _ _ _); k_dflt (refine' Mine.on_callSX ?z7_k1 ?z7_k2 ?_; (case z7_k1 => with_reducible assumption); (case z7_k2 => exact Mine.kind_keep (by with_reducible assumption)); k_whole))
    | (k_here; (with_reducible show Mine.wpOn _ _ (eval (Expr.Call _ _ _ _) _) _ _ _); k_dflt (refine Mine.on_CallF ?_))
    | (k_here; (with_reducible show Mine.wpOn _ _ (exec (Stmt.Assign [Expr.Name (Str.ofString "error") _] (Expr.Call (Expr.Subscript _ _ _) [Expr.Starred _ _] _ _) _) _) _ _ _); k_dflt (refine Mine.on_Assign ?_))
    | (k_here; (with_reducible show Mine.wpOn _ _ (exec (Stmt.Try _ _ _ _ _) _) _ _ _); k_dflt (refine Mine.on_Try ?_))
    | (k_here; (with_reducible show Mine.wpOn _ _ (exec (Stmt.For (Expr.Name (Str.ofString "n") _) (Expr.Name (Str.ofString "script") _) _ _ _) _) _ _ _); k_dflt (refine Mine.on_For ?_ (by intro _; rfl)))
    | (k_here; (with_reducible show Mine.wpOn _ _ (execs (_ :: _) _) _ _ _); (refine Mine.on_execs_cons ?_))
    | (k_here; (with_reducible show Mine.wpOn _ _ (execs [] _) _ _ _); (refine Mine.on_nil ?_); (try dsimp only))
    | (k_here; (with_reducible show Mine.wpOn _ _ (exec _ _) _ _ _); (fail_if_success (with_reducible show Mine.wpOn _ _ (exec (Stmt.For (Expr.Name _ _) _ _ _ _) _) _ _ _)); (fail_if_success (with_reducible show Mine.wpOn _ _ (exec (Stmt.Try _ _ _ _ _) _) _ _ _)); (refine Mine.on_any ?_); (try k_fold))
    | walk1
    | (dsimp only; walk1)
    | fail "no step")
  all_goals first
    | exact absurd rfl (by assumption)
    | ((rename Mine.St8 _ _ _ _ _ _ _ _ _ => kst); (rename Fr _ _ _ _ => lF'); (rename News _ _ _ _ => lN'); refine' Mine.turn8_endP lF' lN' (kst.more ?sub) ?len ?e1 ?e2 ?hm; (case e1 => rfl); (case e2 => rfl); (case sub => (intro p hp; repeat (first | exact hp | refine List.Mem.tail _ ?_))); (case len => first | omega | (simp only [List.length_append, List.length_cons, List.length_nil]; omega)); (case hm => (intro z z1 z3; obtain ⟨a1, a2, a3, a4, a5, a6, a7, a8⟩ := Mine.names8_ne z3; simp only [z1, z3, a1, a2, a3, a4, a5, a6, a7, a8, if_false, Bool.false_eq_true])))
    | ((rename Fr _ _ _ _ => lF'); (rename News _ _ _ _ => lN'); refine' Mine.turn8b_end lF' lN' ?hs ?off ?hm; (case hs => (intro p hp; repeat (first | exact hp | refine List.Mem.tail _ ?_))); (case off => with_reducible assumption); (case hm => (intro z z3; obtain ⟨a1, a2, a3, a4, a5, a6⟩ := Mine.look8_ne z3; simp only [z3, a1, a2, a3, a4, a5, a6, if_false, Bool.false_eq_true])))
    | (exfalso; omega)
    | skip
  all_goals walk_report

import PyProof.Rows.All
import Wide.All
import OpenK.AllK
import Wide.FinOn
import OpenK.XGo
import PySem.Challenge.RW_dn0159_05
set_option Elab.async false
set_option maxRecDepth 100000

/-! the head -/
namespace Mine
set_option maxHeartbeats 8000000 in
open_top hd for PySem.Challenge.rw_dn0159_05
end Mine

/-! XE -/
section
open PySem PySem.W PySem.Calls PyProof.Rows Builtin Builtin.ObjectAttr
namespace Mine
/-! errors of own classes below OSError: their attributes -/
theorem wpAny_wide {α : Type} {M : Model} {A A' : Around} {t : Sem α} {Q : α → Shared → Prop} {E : Value → Shared → Prop} {s : Shared} (h : wpAny M A t Q E s)
    (e : A'.handled = A.handled) (hd : A'.depth ≤ A.depth) (hu : A'.units ≤ A.units) (hf : A.frames = none) (hg : A.guards = none) : wpAny M A' t Q E s := by
  intro Γ p hΓ
  refine h Γ p ⟨hΓ.1.trans e, Nat.le_trans hΓ.2.1 hd, ?_, ?_, Nat.le_trans hΓ.2.2.2.2 hu⟩
  · intro l hl; rw [hf] at hl; cases hl
  · intro l hl; rw [hg] at hl; cases hl

structure ExcCls (K : Frag) (C : Addr) : Prop where
  ga : findIn K (.ref C) "__getattribute__" = some (some (.builtin "BaseException.__getattribute__"))
  gh : findIn K (.ref C) "__getattr__" = some none
  args : findIn K (.ref C) "args" = some (some (.builtin "BaseException.args"))
  sub : mroIn K C (.type "BaseException") = some true

theorem ga_slot : Slot "OSError" "__getattribute__" "BaseException.__getattribute__" :=
  .of (owner := "BaseException") (n := "__getattribute__") (by rw [typeLookup_type, builtinLookup_eq_fast]; kernel_rfl) (by decide +kernel) (by decide +kernel) (by decide +kernel)
    (by first | exact .inl (by decide +kernel) | exact .inr (by decide +kernel)) (by rw [isSubtype_type]; kernel_rfl)

section
variable {prog : Program} {w : World} {A : Around} {E : Value → Shared → Prop} {s : Shared} {K : Frag} {x C : Addr} {ox : Obj} {od : Option Obj} {name : Str} {expr : Bool} {Q : Value → Shared → Prop}
theorem exc_check {nameV : Value} {Q : Unit → Shared → Prop} (X : K.In s.heap) (hC : ExcCls K C) (I : InstAt s.heap x ox C od) (hq : Q () s) :
    wpAny (model prog w) A (checkBuiltinCall "BaseException.__getattribute__" ⟨[.ref x, nameV], []⟩) Q E s := by
  have hk : builtinKind "BaseException.__getattribute__" = some .slot := by decide +kernel
  have hsplit : splitId "BaseException.__getattribute__" = some ("BaseException", "__getattribute__") := by decide +kernel
  have ha := F.args_bexc_ga (.ref x) nameV
  obtain ⟨hh', g, d, t, os⟩ := s
  have L0 := I.type (M := model prog w)
  have L1 := looks_mroIn (M := model prog w) X hC.sub
  simp only [checkBuiltinCall, hk, hsplit]
  refine wpAny_bind ?_
  unfold isInstance
  refine wpAny_bind (L0.at (L1.at ?_))
  repeat (any_goals (first | assumption | wp_step))

theorem exc_open (X : K.In s.heap) (hC : ExcCls K C) (I : InstAt s.heap x ox C od)
    (h : wpAny (model prog w) A.in1 (Builtin.«object.__getattribute__» ⟨[.ref x, .str name s.toks], []⟩) (fun fin s' => match fin with | .done (.ret v) => wpAny (model prog w) A (handedOut v) Q E s' | _ => False)
      (fun e s' => wpAny (model prog w) A (getattributeRaised (.ref x) (.str name s.toks) (.ref C) e none true expr) Q E s') { s with toks := s.toks + 1 }) :
    wpAny (model prog w) A (getAttr (.ref x) name expr) Q E s := by
  obtain ⟨hh, g, d, t, os⟩ := s
  have L0 := I.type (M := model prog w)
  have L1 := looks_findIn (M := model prog w) X hC.ga
  have L2 := looks_findIn (M := model prog w) X hC.gh
  have f3 := ga_slot.bind (.ref x)
  have hx0 : (expr && onTheHeap (Value.builtin "BaseException.__getattribute__")) = false := by cases expr <;> rfl
  unfold getAttr getAttrBy
  refine wpAny_bind (wpAny_mkText (wpAny_holding (wpAny_bind (L0.at (wpAny_bind (L1.at ?_))))))
  show wpAny _ _ (getAttrByItsOwn (.ref x) (.str name t) (.ref C) (.builtin "BaseException.__getattribute__") true expr) _ _ _
  unfold getAttrByItsOwn
  refine wpAny_bind (L2.at ?_)
  refine wpAny_bind (wpAny_attempt (wpAny_holding ?_))
  unfold callGetattribute
  rw [hx0]
  show wpAny _ _ (boundAndCalled _ _ _) _ _ _
  unfold boundAndCalled
  rw [f3]
  refine wpAny_bind (wpAny_pure ?_)
  refine wpAny_call ?_
  refine codeAny_call_builtin ga_slot.plain F.entry_bexc_ga (exc_check X hC I ?_)
  refine wpAny_mono h (fun fin s' z => ?_) fun _ _ z => z
  rcases fin with (_ | _ | _ | _) | _ <;> first | exact z | exact z.elim
theorem exc_value {v : Value} (X : K.In s.heap) (hC : ExcCls K C) (I : InstAt s.heap x ox C od) (hf : findObj K C od name = some (.value v)) (hh : handedIn v = true) (h : Q v { s with toks := s.toks + 1 }) :
    wpAny (model prog w) A (getAttr (.ref x) name expr) Q E s := by
  refine exc_open X hC I ?_
  obtain ⟨hh', g, d, t, os⟩ := s
  have L0 := I.type (M := model prog w)
  have L1 := looks_find (M := model prog w) X I hf
  refine wpAny_bind (wpAny_pure (wpAny_bind (wpAny_pure (wpAny_bind (L0.at (wpAny_bind (L1.at ?_)))))))
  refine wpAny_pure ?_
  show wpAny _ _ (handedOut v) _ _ _
  rw [handedOut_of hh]; exact wpAny_pure h
theorem args_get' {R : Result → Shared → Prop} {vs : Array Value} {t0 : Addr} (X : K.In s.heap) (hC : ExcCls K C) (I : InstAt s.heap x ox C od) (hd : ox.data = .fields vs) (h0 : vs[0]? = some (.ref t0)) (hq : R (.ok (.ret (.ref t0))) s) :
    codeAny (model prog w) A (.call (.builtin "getset_descriptor.__get__") ⟨[.builtin "BaseException.args", .ref x, .ref C], []⟩) R s := by
  obtain ⟨hh', g, d, t, os⟩ := s
  have hT5 : (⟨hh', g, d, t, os⟩ : Shared).TypeIs (.builtin "BaseException.args") "getset_descriptor" := F.typeOf_bexc_args
  have L0 := I.type (M := model prog w)
  have L1 := looks_mroIn (M := model prog w) X hC.sub
  have hx := I.at_
  refine codeAny_call_builtin F.slot_gs_get.plain F.entry_gs_get (F.slot_gs_get.check _ _ _ _ _ _ _ _ hT5 (F.args_gs_get _ _ _) ?_)
  have e1 := F.owner_bexc_args
  repeat (any_goals (first | assumption | (with_reducible refine wpAny_bind (L0.at ?_)) | (with_reducible refine L0.at ?_) | (rw [F.owner_bexc_args]; refine L1.at ?_) | wp_step))
  refine ⟨Code.quiet_builtin _ (by decide +kernel), codeAny_builtin F.entry_bexc_args ?_⟩
  have hnd : (Value.ref t0 == doubtfulMember) = false := by first | rfl | decide | simp [doubtfulMember, rawInt]
  unfold Builtin.«BaseException.args»
  repeat (any_goals (first | assumption | with_reducible refine wpAny_field hx hd h0 ?_ | wp_step))
theorem exc_args {vs : Array Value} {t0 : Addr} (X : K.In s.heap) (hC : ExcCls K C) (I : InstAt s.heap x ox C od) (hf : findObj K C od "args" = some (.bind (.builtin "getset_descriptor.__get__") (.builtin "BaseException.args")))
    (hd : ox.data = .fields vs) (h0 : vs[0]? = some (.ref t0)) (h : Q (.ref t0) { s with toks := s.toks + 1 }) :
    wpAny (model prog w) A (getAttr (.ref x) "args" expr) Q E s := by
  refine exc_open X hC I ?_
  obtain ⟨hh', g, d, t, os⟩ := s
  have L0 := I.type (M := model prog w)
  have L1 := looks_find (M := model prog w) X I hf
  refine wpAny_bind (wpAny_pure (wpAny_bind (wpAny_pure (wpAny_bind (L0.at (wpAny_bind (L1.at ?_)))))))
  show wpAny _ _ (holding [_] (call (.builtin "getset_descriptor.__get__") [.builtin "BaseException.args", .ref x, .ref C]) >>= ret) _ _ _
  refine wpAny_bind (wpAny_holding (wpAny_call (args_get' (s := ⟨hh', g, d, t + 1, os⟩) X hC I hd h0 ?_)))
  refine wpAny_pure ?_
  show wpAny _ _ (handedOut (.ref t0)) _ _ _
  exact wpAny_pure h
def shortName (K : Frag) (C : Addr) : Bool := match clsIn K C with
  | some cd => decide (cd.name.cps.foldl (fun k c => k + (Str.utf8Of c).length) 0 ≤ 100) && decide (cd.name.toString.length ≤ 50)
  | none => false
theorem exc_miss (X : K.In s.heap) (hC : ExcCls K C) (hn : shortName K C = true) (I : InstAt s.heap x ox C od) (hf : findObj K C od name = some .missing) (hA : A.handled = none) (hsz : name.length + 100 ≤ sizeLine)
    (h : ∀ h' tk e, Heap.NewExcOf s.heap h' e "AttributeError" → E (.ref e) { s with heap := h', toks := tk }) :
    wpAny (model prog w) A (getAttr (.ref x) name true) Q E s := by
  refine exc_open X hC I ?_
  obtain ⟨hh', g, d, t, os⟩ := s
  have L0 := I.type (M := model prog w)
  have L1 := looks_find (M := model prog w) X I hf
  refine wpAny_bind (wpAny_pure (wpAny_bind (wpAny_pure (wpAny_bind (L0.at (wpAny_bind (L1.at ?_)))))))
  unfold shortName at hn
  split at hn
  · rename_i cd hcd
    rw [Bool.and_eq_true, decide_eq_true_eq, decide_eq_true_eq] at hn
    have L2 := looks_clsIn (M := model prog w) X hcd
    show wpAny _ _ (noSuchAttribute (.ref x) name) _ _ _
    unfold noSuchAttribute typeNameOfCut shownTypeOf
    refine wpAny_bind (wpAny_bind (wpAny_bind (L0.at ?_)))
    refine wpAny_pure ?_
    unfold typeNameCut
    refine wpAny_bind (L2.at ?_)
    rw [if_pos hn.1]
    refine wpAny_pure ?_
    refine wpAny_raiseAttrError hA (fun h' tk e hx => ?_) (attrMsg_fits ?_ hsz)
    · have f1 := sub_AttributeError
      have f5 := looks_findIn (M := model prog w) X hC.gh
      obtain ⟨t', u', he⟩ := hx.there
      unfold getattributeRaised
      repeat (any_goals (first | assumption | wp_step))
      exact h _ _ _ hx.of
    · have q := hn.2
      show (toString "'" ++ toString cd.name.toString ++ toString "' object has no attribute '").length ≤ 90
      simp only [String.length_append, toString]
      have e1 : "'".length = 1 := by decide
      have e2 : "' object has no attribute '".length = 27 := by decide
      omega
  · cases hn
end
end Mine

end

/-! XS -/
section
open PySem PySem.W PySem.Calls PyProof.Rows
namespace Mine
/-! what noteFrame and setFlight do to the heap, to the letter -/
structure Noted (fs : List Addr) (h h' : Heap) (e : Addr) (oe : Obj) (T : Addr) (oT : Obj) : Prop where
  keep : ∀ b o, b ∉ fs → b ≠ e → h.get? b = some o → h'.get? b = some o
  frames : ∀ b o, b ∈ fs → b ≠ e → h.get? b = some o → ∃ sl, h'.get? b = some { o with slots := sl }
  new : h.get? T = none
  err : h'.get? e = some (Obj.mapFields (·.setIfInBounds 1 (.ref T)) oe)
  ne : T ≠ e
  at_ : h'.get? T = some oT
  flds : ∃ ts, oT.data = .fields ts ∧ 3 < ts.size
section
variable {M : Model} {A : Around} {E : Value → Shared → Prop} {s : Shared}
theorem entry_exact {env : Env} {outer : List Env} {L e : Addr} {oe : Obj} {vs : Array Value} {head : Value} {hadNext : Bool} {Q : Unit → Shared → Prop}
    (hfr : A.frames = some (env :: outer)) (hl : s.heap.FunFrames {} (env :: outer)) (hf : env.frame = some L)
    (he : s.heap.get? e = some oe) (hd : oe.data = .fields vs) (hsz : 1 < vs.size)
    (h : ∀ h' T oT, Noted ((env :: outer).filterMap (·.frame)) s.heap h' e oe T oT → Q () { s with heap := h' }) :
    wpAny M A (do let a ← frameOf env; let pl ← entryPlaceOf L hadNext; let b ← EntryCells.newEntry head a .none (rawInt L) .none pl; setField (.ref e) 1 b) Q E s := by
  have hene : e ∉ (env :: outer).filterMap (·.frame) := fun hm => by
    obtain ⟨_, o, ho, hnf⟩ := hl.mem hm
    rw [he] at ho; injection ho with ho; subst ho; exact hnf vs hd
  refine wpAny_bind (wpAny_frameOf_fun hfr hl hf fun h₁ hs₁ => ?_)
  refine wpAny_bind (wpAny_entryPlaceOf fun pl hpl => ?_)
  unfold EntryCells.newEntry newFields
  refine wpAny_bind (wpAny_newObj_type ?_ (hpl.sizeOk5 _ _ _ _ _))
  have he₁ : h₁.get? e = some oe := (hs₁.2.1 e hene).trans he
  have he₂ := Heap.get?_push_of_some (h := h₁) { cls := .type "traceback", dict := none, data := .fields ([head, .ref L, .none, rawInt L, .none] ++ (if pl.isEmpty then List.replicate 6 Value.none else pl)).toArray } he₁
  have hTe : h₁.objs.size ≠ e := Nat.ne_of_gt (Heap.lt_size he₁)
  have hd₃ := Obj.data_mapFields hd (·.setIfInBounds 1 (Value.ref h₁.objs.size))
  refine wpAny_setField he₂ hd hsz (h _ h₁.objs.size { cls := .type "traceback", dict := none, data := .fields ([head, .ref L, .none, rawInt L, .none] ++ (if pl.isEmpty then List.replicate 6 Value.none else pl)).toArray } ⟨fun b o hb hbe hbo => ?_, fun b o hb hbe hbo => ?_, ?_, ?_, hTe, ?_, ?_⟩)
  · rw [Heap.get?_update_other _ _ (Ne.symm hbe)]
    exact Heap.get?_push_of_some _ ((hs₁.2.1 b hb).trans hbo)
  · obtain ⟨sl, hsl⟩ := hs₁.2.2 b o hbo
    refine ⟨sl, ?_⟩
    rw [Heap.get?_update_other _ _ (Ne.symm hbe)]
    exact Heap.get?_push_of_some _ hsl
  · exact Heap.get?_none_of_le (by rw [hs₁.1]; exact Nat.le_refl _)
  · exact Heap.get?_update_self _ he₂ (Obj.isFreed_of_fields hd₃)
  · exact (Heap.get?_update_other _ _ (Ne.symm hTe)).trans (Heap.get?_push_size h₁ rfl)
  · exact ⟨_, rfl, by simp only [List.size_toArray, List.length_append, List.length_cons, List.length_nil]; omega⟩
theorem note_first {env : Env} {outer : List Env} {L e : Addr} {oe : Obj} {vs : Array Value} {Q : Unit → Shared → Prop}
    (hfr : A.frames = some (env :: outer)) (hl : s.heap.FunFrames {} (env :: outer)) (hf : env.frame = some L)
    (he : s.heap.get? e = some oe) (hd : oe.data = .fields vs) (h1 : vs[1]? = some .none)
    (h : ∀ h' T oT, Noted ((env :: outer).filterMap (·.frame)) s.heap h' e oe T oT → Q () { s with heap := h' }) :
    wpAny M A (noteFrame (.ref e) env) Q E s := by
  unfold noteFrame
  simp only [hf]
  refine wpAny_bind (wpAny_field he hd h1 ?_)
  rw [if_neg (by decide)]
  exact entry_exact hfr hl hf he hd (Array.getElem?_eq_some_iff.mp h1).1 h
end
/-- an error with its traceback, beside the ledger -/
structure Held (h₀ : Heap) (L : Addr) (h : Heap) (m : Str → Option Value) (news : List (Addr × Obj)) (e : Addr) (oe : Obj) (T : Addr) (oT : Obj) : Prop where
  fr : Fr h₀ L h m
  nw : News h₀ L h ((e, oe) :: (T, oT) :: news)
  ne : T ≠ e
  off : ∀ p ∈ news, p.1 ≠ T
  vs : ∃ vs ts, oe.data = .fields vs ∧ vs[1]? = some (.ref T) ∧ oT.data = .fields ts ∧ 3 < ts.size
/-- a traceback that is in flight nowhere -/
def Landed (oT : Obj) : Prop := ∃ ts, oT.data = .fields ts ∧ ts[3]? = some .none
theorem ns_keep {h h' : Heap} {L : Addr} {m : Str → Option Value} (n : h.Ns L m) (k : ∀ o, h.get? L = some o → ∃ sl, h'.get? L = some { o with slots := sl }) : h'.Ns L m := by
  obtain ⟨o, es, ep, ho, hd, r⟩ := n
  obtain ⟨sl, hs⟩ := k o ho
  exact ⟨_, es, ep, hs, hd, r⟩
section
variable {M : Model} {A : Around} {E : Value → Shared → Prop} {s : Shared} {h₀ : Heap} {L : Addr} {m : Str → Option Value} {news : List (Addr × Obj)} {e T : Addr} {oe oT : Obj}
theorem Held.flight' {Q : Unit → Shared → Prop} (H : Held h₀ L s.heap m news e oe T oT) (k : ∀ h' oT', Held h₀ L h' m news e oe T oT' → Landed oT' → Q () { s with heap := h' }) :
    wpAny M A (setFlight (.ref e) none) Q E s := by
  obtain ⟨F, N, ne, off, vs, ts, hd, h1, hdT, h3⟩ := H
  have he := (N _ (.head _)).1
  have hT := (N _ (.tail _ (.head _))).1
  have hTL : L ≠ T := fun q => (N _ (.tail _ (.head _))).2.1 q.symm
  have hd₃ := Obj.data_mapFields hdT (·.setIfInBounds 3 Value.none)
  have hs : Heap.SameBut T s.heap (s.heap.update T (Obj.mapFields (·.setIfInBounds 3 Value.none))) := Heap.SameBut.update ..
  refine wpAny_setFlight_none he hd h1 hT hdT h3 (k _ (Obj.mapFields (·.setIfInBounds 3 Value.none) oT) ⟨F.change hs (Ne.symm hTL) (N _ (.tail _ (.head _))).2.2, fun p hp => ?_, ne, off, vs, _, hd, h1, hd₃, by simpa using h3⟩ ⟨_, hd₃, by simp [h3]⟩)
  rcases List.mem_cons.mp hp with rfl | hp
  · exact ⟨(hs.2 _ (Ne.symm ne)).trans he, (N _ (.head _)).2⟩
  rcases List.mem_cons.mp hp with rfl | hp
  · exact ⟨Heap.get?_update_self _ hT (Obj.isFreed_of_fields hd₃), (N _ (.tail _ (.head _))).2⟩
  · have z := N p (.tail _ (.tail _ hp))
    exact ⟨(hs.2 _ (off p hp)).trans z.1, z.2⟩
theorem Held.flight {Q : Unit → Shared → Prop} (H : Held h₀ L s.heap m news e oe T oT) (k : ∀ h' oT', Held h₀ L h' m news e oe T oT' → Q () { s with heap := h' }) :
    wpAny M A (setFlight (.ref e) none) Q E s := H.flight' fun h' oT' H' _ => k h' oT' H'
end
section
variable {M : Model} {A₀ : Around} {E : Value → Shared → Prop} {s : Shared} {h₀ : Heap} {L L' a : Addr} {m : Str → Option Value} {news : List (Addr × Obj)} {e : Addr} {oe oL : Obj} {name : Str} {scope : Scope} {cd : Value} {env : Env} {vs : Array Value}
theorem funFrame_of {h h₀ : Heap} {L : Addr} {m : Str → Option Value} (F : Fr h₀ L h m) (hk : scope.kind = .function) : h.FunFrames {} [envOf name scope L a cd] := by
  obtain ⟨o, es, ep, ho, hd, _⟩ := F.ns
  refine ⟨?_, ⟨L, o, rfl, rfl, ho, fun vs q => by rw [hd] at q; cases q⟩, trivial⟩
  show scope.kind ≠ .module
  rw [hk]; decide
/-- the first frame of an error, in the outermost function -/
theorem note_own {Q : Unit → Shared → Prop} (hfr : A₀.frames = some []) (F : Fr h₀ L s.heap m) (N : News h₀ L s.heap ((e, oe) :: news)) (hne : ∀ p ∈ news, p.1 ≠ e)
    (hd : oe.data = .fields vs) (h1 : vs[1]? = some .none) (hk : scope.kind = .function)
    (k : ∀ h' T oT, Held h₀ L h' m news e (Obj.mapFields (·.setIfInBounds 1 (.ref T)) oe) T oT → Q () { s with heap := h' }) :
    wpAny M (A₀.deeper (envOf name scope L a cd)) (noteFrame (.ref e) (envOf name scope L a cd)) Q E s := by
  have he := (N _ (.head _)).1
  have hsz := (Array.getElem?_eq_some_iff.mp h1).1
  refine note_first (Around.frames_deeper hfr) (funFrame_of F hk) rfl he hd h1 fun h' T oT n => k h' T oT ?_
  have hT0 : h₀.get? T = none := by
    cases q : h₀.get? T with
    | none => rfl
    | some o => have := F.keep _ _ q; rw [n.new] at this; cases this
  have hTL : T ≠ L := by
    intro q
    obtain ⟨o, _, _, ho, _⟩ := F.ns
    have z := n.new
    rw [q, ho] at z; cases z
  have memL : ∀ b, b ≠ L → b ∉ ([envOf name scope L a cd].filterMap (·.frame)) := fun b hb hm => hb (List.mem_singleton.mp hm)
  have heL : e ≠ L := (N _ (.head _)).2.1
  refine ⟨⟨ns_keep F.ns fun o ho => n.frames L o (List.mem_singleton.mpr rfl) (Ne.symm heL) ho, fun b o hb => ?_, F.above⟩, fun p hp => ?_, n.ne, fun p hp q => ?_, ?_⟩
  · have b1 : b ≠ L := Nat.ne_of_lt (Nat.lt_of_lt_of_le (Heap.lt_size hb) F.above)
    have b2 : b ≠ e := fun q => by have z := (N _ (.head _)).2.2; rw [q] at hb; rw [z] at hb; cases hb
    exact n.keep b o (memL b b1) b2 (F.keep b o hb)
  · rcases List.mem_cons.mp hp with rfl | hp
    · exact ⟨n.err, heL, (N _ (.head _)).2.2⟩
    rcases List.mem_cons.mp hp with rfl | hp
    · exact ⟨n.at_, hTL, hT0⟩
    · have z := N p (.tail _ hp)
      exact ⟨n.keep _ _ (memL _ z.2.1) (hne p hp) z.1, z.2⟩
  · have z := N p (.tail _ hp)
    have y := n.new
    rw [← q, z.1] at y; cases y
  · obtain ⟨ts, t1, t2⟩ := n.flds
    exact ⟨_, ts, Obj.data_mapFields hd _, by simp [hsz], t1, t2⟩
/-- the first frame of an error, in a function that the outermost one called -/
theorem note_in {Q : Unit → Shared → Prop} (hfr : A₀.frames = some [env]) (henv : env.frame = some L) (hkind : env.scope.kind ≠ .module) (hdL : ∃ es ep, oL.data = .dict es ep)
    (F : Fr h₀ L' s.heap m) (N : News h₀ L' s.heap ((e, oe) :: (L, oL) :: news)) (hne : ∀ p ∈ news, p.1 ≠ e) (hnL : ∀ p ∈ news, p.1 ≠ L)
    (hd : oe.data = .fields vs) (h1 : vs[1]? = some .none) (hk : scope.kind = .function)
    (k : ∀ h' sl T oT, Held h₀ L' h' m ((L, { oL with slots := sl }) :: news) e (Obj.mapFields (·.setIfInBounds 1 (.ref T)) oe) T oT → Q () { s with heap := h' }) :
    wpAny M (A₀.deeper (envOf name scope L' a cd)) (noteFrame (.ref e) (envOf name scope L' a cd)) Q E s := by
  have he := (N _ (.head _)).1
  have hLo := (N _ (.tail _ (.head _)))
  have hsz := (Array.getElem?_eq_some_iff.mp h1).1
  have fs : s.heap.FunFrames {} [envOf name scope L' a cd, env] := by
    obtain ⟨q1, q2, _⟩ := funFrame_of (a := a) (name := name) (cd := cd) F hk
    obtain ⟨es, ep, hdd⟩ := hdL
    exact ⟨q1, q2, hkind, ⟨L, oL, henv, rfl, hLo.1, fun vs q => by rw [hdd] at q; cases q⟩, trivial⟩
  have fsE : [envOf name scope L' a cd, env].filterMap (·.frame) = [L', L] := by
    simp only [List.filterMap_cons, List.filterMap_nil, henv]; rfl
  have heL : e ≠ L := by
    intro q
    obtain ⟨es, ep, hdd⟩ := hdL
    have z := hLo.1
    change s.heap.get? L = some oL at z
    rw [← q, he] at z
    injection z with z
    have z' : oe = oL := z
    rw [← z', hd] at hdd; cases hdd
  refine note_first (Around.frames_deeper hfr) fs rfl he hd h1 fun h' T oT n => ?_
  rw [fsE] at n
  obtain ⟨sl, hsl⟩ := n.frames L oL (.tail _ (.head _)) (Ne.symm heL) hLo.1
  have hT0 : h₀.get? T = none := by
    cases q : h₀.get? T with
    | none => rfl
    | some o => have := F.keep _ _ q; rw [n.new] at this; cases this
  have hTL : T ≠ L' := by
    intro q
    obtain ⟨o, _, _, ho, _⟩ := F.ns
    have z := n.new
    rw [q, ho] at z; cases z
  have hTL2 : L ≠ T := by
    intro q
    have z := n.new
    rw [← q, hLo.1] at z; cases z
  have heL' : e ≠ L' := (N _ (.head _)).2.1
  have mem2 : ∀ b, b ≠ L' → b ≠ L → b ∉ [L', L] := fun b h1 h2 hm => by
    rcases List.mem_cons.mp hm with q | hm
    · exact h1 q
    · exact h2 (List.mem_singleton.mp hm)
  refine k h' sl T oT ⟨⟨ns_keep F.ns fun o ho => n.frames L' o (.head _) (Ne.symm heL') ho, fun b o hb => ?_, F.above⟩, fun p hp => ?_, n.ne, fun p hp q => ?_, ?_⟩
  · have b1 : b ≠ L' := Nat.ne_of_lt (Nat.lt_of_lt_of_le (Heap.lt_size hb) F.above)
    have b2 : b ≠ e := fun q => by have z := (N _ (.head _)).2.2; rw [q] at hb; rw [z] at hb; cases hb
    have b3 : b ≠ L := fun q => by have z := hLo.2.2; rw [q] at hb; rw [z] at hb; cases hb
    exact n.keep b o (mem2 b b1 b3) b2 (F.keep b o hb)
  · rcases List.mem_cons.mp hp with rfl | hp
    · exact ⟨n.err, heL', (N _ (.head _)).2.2⟩
    rcases List.mem_cons.mp hp with rfl | hp
    · exact ⟨n.at_, hTL, hT0⟩
    rcases List.mem_cons.mp hp with rfl | hp
    · exact ⟨hsl, hLo.2⟩
    · have z := N p (.tail _ (.tail _ hp))
      exact ⟨n.keep _ _ (mem2 _ z.2.1 (hnL p hp)) (hne p hp) z.1, z.2⟩
  · rcases List.mem_cons.mp hp with rfl | hp
    · exact hTL2 q
    · have z := N p (.tail _ (.tail _ hp))
      have y := n.new
      rw [← q, z.1] at y; cases y
  · obtain ⟨ts, t1, t2⟩ := n.flds
    exact ⟨_, ts, Obj.data_mapFields hd _, by simp [hsz], t1, t2⟩
end
end Mine

end

/-! XC -/
section
open PySem PySem.W PySem.Calls PyProof.Rows
namespace Mine
/-! a new built-in error caught by an except clause of its class or one above -/
section
variable {prog : Program} {w : World} {A₀ : Around} {E : Value → Shared → Prop} {s' : Shared} {h₀ h : Heap} {L L' a e : Addr} {m : Str → Option Value} {name : Str} {scope : Scope} {cd : Value}
  {b₀ : Stmt} {suite : List Stmt} {pos np : Pos} {rest : List ExceptHandler} {Q : Flow → Shared → Prop} {news : List (Addr × Obj)} {KF : Frag} {oL : Obj} {env : Env}
  {p : Program} {loose : List Str} {mean : ExcName → Option Value} {mg mb : Str → Option Value} {x : Str} {X T' : String}
theorem news_up {news : List (Addr × Obj)} (N : News h₀ L h news) {h' : Heap} (k : ∀ b o, h.get? b = some o → h'.get? b = some o) : News h₀ L h' news := fun p hp => ⟨k _ _ (N p hp).1, (N p hp).2⟩
theorem fr_up (F : Fr h₀ L h m) {h' : Heap} (k : ∀ b o, h.get? b = some o → h'.get? b = some o) : Fr h₀ L h' m :=
  ⟨ns_keep F.ns fun o ho => ⟨o.slots, k _ _ ho⟩, fun b o hb => k _ _ (F.keep b o hb), F.above⟩
theorem new_off {X : String} {h' : Heap} (hx : Heap.NewExcOf h h' e X) (N : News h₀ L h news) : ∀ p ∈ news, p.1 ≠ e := fun p hp q => by
  have z := (N p hp).1
  rw [q, hx.new] at z; cases z
theorem new_led {X : String} {h' : Heap} (hx : Heap.NewExcOf h h' e X) (F : Fr h₀ L h m) (N : News h₀ L h news) : ∃ oe vs, oe.cls = .type X ∧ oe.data = .fields vs ∧ vs[1]? = some .none ∧ News h₀ L h' ((e, oe) :: news) := by
  obtain ⟨oe, vs, he, hc, hd, h1⟩ := hx.there
  refine ⟨oe, vs, hc, hd, h1, fun p hp => ?_⟩
  rcases List.mem_cons.mp hp with rfl | hp
  · refine ⟨he, fun q => ?_, ?_⟩
    · obtain ⟨o, _, _, ho, _⟩ := F.ns
      have z := hx.new
      have q : e = L := q
      rw [q, ho] at z; cases z
    · cases z : h₀.get? e with
      | none => rfl
      | some o => have y := F.keep _ _ z; rw [hx.new] at y; cases y
  · exact ⟨hx.keeps _ _ (N p hp).1, (N p hp).2⟩
theorem held_suite {T : Addr} {oe oT : Obj} {envf : Env} (henvf : envf = envOf name scope L' a cd) (H : Held h₀ L' s'.heap m news e oe T oT) (hc : oe.cls = .type X) (KX : KF.In h₀) (TT : TopRead p loose mg mb h₀)
    (ex : nsIn KF mainGlobals x = some none) (hv : bootBuiltins x = some (.type T')) (hn' : x ≠ "__name__")
    (hexc : isSubtype (.type T') (.type "BaseException") = pure true) (hnt : isSubtype (.type ((Manifest.find? T').elim "type" fun y => y.metatype)) (.type "tuple") = pure false) (hsub : isSubtype (.type X) (.type T') = pure true)
    (k : ∀ h' oT', Held h₀ L' h' m news e oe T oT' → wpAny (model prog w) ((A₀.deeper envf).mark (some (.ref e))) (execs (b₀ :: suite) envf) Q E { s' with heap := h' })
    (hk : scope.kind = .function) (hxk : envf.kindOf x = some .globalImplicit) (hdb : (x == ("__debug__" : Str)) = false)
    (hE : PassesOwnAt (model prog w) ((A₀.deeper envf).mark (some (.ref e))) (A₀.deeper envf) envf E) :
    wpAny (model prog w) (A₀.deeper envf) (setFlight (.ref e) none) (fun _ s₃ => wpAny (model prog w) (A₀.deeper envf) (handleBy (.ref e) envf (.ExceptHandler (some (.Name x np)) none (b₀ :: suite) pos :: rest)) Q E s₃) E s' := by
  subst henvf
  refine H.flight fun h₂ oT₂ H₂ => ?_
  refine wpAny_handleBy_builtin (X := X) (T := T') (b := true) hexc hnt hsub (name_B H₂.fr KX TT ex hv hn' ⟨rfl, ⟨oe, (H₂.nw _ (.head _)).1, hc⟩, ?_⟩ hk hxk hdb)
  rw [if_pos rfl]
  exact H₂.flight fun h₃ oT₃ H₃ => wpAny_passesOwnAt hE (k h₃ oT₃ H₃)
theorem caught_own (hfr : A₀.frames = some []) (hx : Heap.NewExcOf h s'.heap e X) (F : Fr h₀ L h m) (N : News h₀ L h news) (KX : KF.In h₀) (TT : TopRead p loose mg mb h₀)
    (ex : nsIn KF mainGlobals x = some none) (hv : bootBuiltins x = some (.type T')) (hn' : x ≠ "__name__")
    (hexc : isSubtype (.type T') (.type "BaseException") = pure true) (hnt : isSubtype (.type ((Manifest.find? T').elim "type" fun y => y.metatype)) (.type "tuple") = pure false) (hsub : isSubtype (.type X) (.type T') = pure true)
    (k : ∀ h', Fr h₀ L h' m → News h₀ L h' news → wpAny (model prog w) ((A₀.deeper (envOf name scope L a cd)).mark (some (.ref e))) (execs (b₀ :: suite) (envOf name scope L a cd)) Q E { s' with heap := h' })
    (hk : scope.kind = .function) (hxk : (envOf name scope L a cd).kindOf x = some .globalImplicit) (hdb : (x == ("__debug__" : Str)) = false)
    (hE : PassesOwnAt (model prog w) ((A₀.deeper (envOf name scope L a cd)).mark (some (.ref e))) (A₀.deeper (envOf name scope L a cd)) (envOf name scope L a cd) E) :
    wpAny (model prog w) (A₀.deeper (envOf name scope L a cd)) (noteFrame (.ref e) (envOf name scope L a cd))
      (fun _ s₂ => wpAny (model prog w) (A₀.deeper (envOf name scope L a cd)) (setFlight (.ref e) none) (fun _ s₃ =>
        wpAny (model prog w) (A₀.deeper (envOf name scope L a cd)) (handleBy (.ref e) (envOf name scope L a cd) (.ExceptHandler (some (.Name x np)) none (b₀ :: suite) pos :: rest)) Q E s₃) E s₂) E s' := by
  obtain ⟨oe, vs, hc, hd, h1, N'⟩ := new_led hx F N
  refine note_own hfr (fr_up F hx.keeps) N' (new_off hx N) hd h1 hk fun h₁ T oT H => ?_
  exact held_suite (s' := { s' with heap := h₁ }) rfl H ((Obj.cls_mapFields _ _).trans hc) KX TT ex hv hn' hexc hnt hsub (fun h' oT' H' => k h' H'.fr fun q hq => H'.nw q (.tail _ (.tail _ hq))) hk hxk hdb hE
theorem caught_in (hfr : A₀.frames = some [env]) (henv : env.frame = some L) (hkind : env.scope.kind ≠ .module) (hdL : ∃ es ep, oL.data = .dict es ep) (hnL : ∀ p ∈ news, p.1 ≠ L)
    (hx : Heap.NewExcOf h s'.heap e X) (F : Fr h₀ L' h m) (N : News h₀ L' h ((L, oL) :: news)) (KX : KF.In h₀) (TT : TopRead p loose mg mb h₀)
    (ex : nsIn KF mainGlobals x = some none) (hv : bootBuiltins x = some (.type T')) (hn' : x ≠ "__name__")
    (hexc : isSubtype (.type T') (.type "BaseException") = pure true) (hnt : isSubtype (.type ((Manifest.find? T').elim "type" fun y => y.metatype)) (.type "tuple") = pure false) (hsub : isSubtype (.type X) (.type T') = pure true)
    (k : ∀ h' sl, Fr h₀ L' h' m → News h₀ L' h' ((L, { oL with slots := sl }) :: news) → wpAny (model prog w) ((A₀.deeper (envOf name scope L' a cd)).mark (some (.ref e))) (execs (b₀ :: suite) (envOf name scope L' a cd)) Q E { s' with heap := h' })
    (hk : scope.kind = .function) (hxk : (envOf name scope L' a cd).kindOf x = some .globalImplicit) (hdb : (x == ("__debug__" : Str)) = false)
    (hE : PassesOwnAt (model prog w) ((A₀.deeper (envOf name scope L' a cd)).mark (some (.ref e))) (A₀.deeper (envOf name scope L' a cd)) (envOf name scope L' a cd) E) :
    wpAny (model prog w) (A₀.deeper (envOf name scope L' a cd)) (noteFrame (.ref e) (envOf name scope L' a cd))
      (fun _ s₂ => wpAny (model prog w) (A₀.deeper (envOf name scope L' a cd)) (setFlight (.ref e) none) (fun _ s₃ =>
        wpAny (model prog w) (A₀.deeper (envOf name scope L' a cd)) (handleBy (.ref e) (envOf name scope L' a cd) (.ExceptHandler (some (.Name x np)) none (b₀ :: suite) pos :: rest)) Q E s₃) E s₂) E s' := by
  obtain ⟨oe, vs, hc, hd, h1, N'⟩ := new_led hx F N
  refine note_in hfr henv hkind hdL (fr_up F hx.keeps) N' (fun p hp => new_off hx N p (.tail _ hp)) hnL hd h1 hk fun h₁ sl T oT H => ?_
  exact held_suite (s' := { s' with heap := h₁ }) rfl H ((Obj.cls_mapFields _ _).trans hc) KX TT ex hv hn' hexc hnt hsub (fun h' oT' H' => k h' sl H'.fr fun q hq => H'.nw q (.tail _ (.tail _ hq))) hk hxk hdb hE
end
end Mine

end

/-! XA -/
section
open PySem PySem.W PySem.Calls PyProof.Rows
namespace Mine
/-! the errors' objects in the ledger; their attributes -/
def errNames : List Str := [Str.ofString "smtp_code", Str.ofString "smtp_error", Str.ofString "sender", Str.ofString "recipients"]
def errCls (K : Frag) (C : Addr) : Bool :=
  findIn K (.ref C) "__getattribute__" == some (some (.builtin "BaseException.__getattribute__")) && findIn K (.ref C) "__getattr__" == some none && findIn K (.ref C) "args" == some (some (.builtin "BaseException.args")) &&
  mroIn K C (.type "BaseException") == some true && (match clsIn K C with | some cd => cd.hasDict | none => false) && errNames.all (fun n => findIn K (.ref C) n == some none) && shortName K C
structure ErrCls (K : Frag) (C : Addr) : Prop extends ExcCls K C where
  cls : ∃ cd, clsIn K C = some cd ∧ cd.hasDict = true
  no : ∀ n ∈ errNames, findIn K (.ref C) n = some none
  short : shortName K C = true
theorem errCls_of {K : Frag} {C : Addr} (h : errCls K C = true) : ErrCls K C := by
  simp only [errCls, Bool.and_eq_true, beq_iff_eq, List.all_eq_true] at h
  obtain ⟨⟨⟨⟨⟨⟨h1, h2⟩, h3⟩, h4⟩, h5⟩, h6⟩, h7⟩ := h
  refine ⟨⟨h1, h2, h3, h4⟩, ?_, h6, h7⟩
  split at h5
  · rename_i cd hcd; exact ⟨cd, hcd, h5⟩
  · cases h5
structure ErrObj (C d t : Addr) (oe : Obj) : Prop where
  cls : oe.cls = .ref C
  dict : oe.dict = some d
  data : ∃ vs, oe.data = .fields vs ∧ vs[0]? = some (.ref t)
section
variable {K : Frag} {h : Heap} {C e d t : Addr} {oe od : Obj} {name : Str} {v : Value}
theorem inst_of (ho : ErrObj C d t oe) (he : h.get? e = some oe) (hd : h.get? d = some od) : InstAt h e oe C (some od) := by
  obtain ⟨vs, h1, h2⟩ := ho.data
  refine ⟨he, ho.cls, ?_, ?_⟩
  · unfold notCls; rw [h1]
  · rw [ho.dict]; exact hd
theorem spec_get (K : Frag) : specialIn K (.builtin "BaseException.args") "__get__" = some (some (.builtin "getset_descriptor.__get__")) := by
  have e : typeIn K (.builtin "BaseException.args") = some (.type "getset_descriptor") := by
    show pureOf (fastBuiltinType "BaseException.args") = _
    kernel_rfl
  unfold specialIn
  rw [e]
  show fastLookup "getset_descriptor" "__get__" = _
  kernel_rfl
theorem spec_set (K : Frag) : specialIn K (.builtin "BaseException.args") "__set__" = some (some (.builtin "getset_descriptor.__set__")) := by
  have e : typeIn K (.builtin "BaseException.args") = some (.type "getset_descriptor") := by
    show pureOf (fastBuiltinType "BaseException.args") = _
    kernel_rfl
  unfold specialIn
  rw [e]
  show fastLookup "getset_descriptor" "__set__" = _
  kernel_rfl
theorem find_args (hC : ErrCls K C) (od : Option Obj) : findObj K C od "args" = some (.bind (.builtin "getset_descriptor.__get__") (.builtin "BaseException.args")) := by
  obtain ⟨cd, hcd, _⟩ := hC.cls
  have e : takesIn K (.builtin "BaseException.args") = some true := by unfold takesIn; rw [spec_set]
  unfold findObj
  simp only [hcd, hC.args, spec_get, e, Option.bind_some]
theorem find_own (hC : ErrCls K C) (hn : name ∈ errNames) (hl : lookIn name od = some (some v)) : findObj K C (some od) name = some (.value v) := by
  obtain ⟨cd, hcd, hh⟩ := hC.cls
  unfold findObj W.ownOf
  simp only [hcd, hC.no name hn, hh, hl, Option.bind_some, if_true]
theorem names_plain (hn : name ∈ errNames) : copiedNames.contains name = false := by
  have h : ∀ n ∈ errNames, copiedNames.contains n = false := by decide +kernel
  exact h name hn
theorem names_short (hn : name ∈ errNames) : name.length + 100 ≤ sizeLine := by
  have h : ∀ n ∈ errNames, n.length + 100 ≤ sizeLine := by decide +kernel
  exact h name hn
theorem find_miss (hC : ErrCls K C) (hn : name ∈ errNames) (hl : lookIn name od = some none) : findObj K C (some od) name = some .missing := by
  obtain ⟨cd, hcd, hh⟩ := hC.cls
  unfold findObj W.ownOf
  simp only [hcd, hC.no name hn, hh, hl, Option.bind_some, if_true, names_plain hn, Bool.false_and]
  rfl
end
section
variable {prog : Program} {w : World} {A : Around} {E : Value → Shared → Prop} {s : Shared} {K : Frag} {h₀ : Heap} {L C e d t : Addr} {m : Str → Option Value} {oe od : Obj} {name : Str} {expr : Bool} {v : Value} {Q : Value → Shared → Prop} {news : List (Addr × Obj)}
theorem get_args (F : Fr h₀ L s.heap m) (N : News h₀ L s.heap news) (X : K.In h₀) (hC : ErrCls K C) (ho : ErrObj C d t oe) (m1 : (e, oe) ∈ news) (m2 : (d, od) ∈ news) (h : Q (.ref t) { s with toks := s.toks + 1 }) :
    wpAny (model prog w) A (getAttr (.ref e) "args" expr) Q E s := by
  obtain ⟨vs, h1, h2⟩ := ho.data
  exact exc_args (X.keeps F.keep) hC.toExcCls (inst_of ho (N _ m1).1 (N _ m2).1) (find_args hC _) h1 h2 h
theorem get_own (F : Fr h₀ L s.heap m) (N : News h₀ L s.heap news) (X : K.In h₀) (hC : ErrCls K C) (ho : ErrObj C d t oe) (m1 : (e, oe) ∈ news) (m2 : (d, od) ∈ news) (hn : name ∈ errNames) (hl : lookIn name od = some (some v)) (hv : handedIn v = true)
    (h : Q v { s with toks := s.toks + 1 }) : wpAny (model prog w) A (getAttr (.ref e) name expr) Q E s :=
  exc_value (X.keeps F.keep) hC.toExcCls (inst_of ho (N _ m1).1 (N _ m2).1) (find_own hC hn hl) hv h
theorem get_miss (F : Fr h₀ L s.heap m) (N : News h₀ L s.heap news) (X : K.In h₀) (hC : ErrCls K C) (ho : ErrObj C d t oe) (m1 : (e, oe) ∈ news) (m2 : (d, od) ∈ news) (hn : name ∈ errNames) (hl : lookIn name od = some none) (hA : A.handled = none)
    (h : ∀ h' tk e', Heap.NewExcOf s.heap h' e' "AttributeError" → E (.ref e') { s with heap := h', toks := tk }) : wpAny (model prog w) A (getAttr (.ref e) name true) Q E s :=
  exc_miss (X.keeps F.keep) hC.toExcCls hC.short (inst_of ho (N _ m1).1 (N _ m2).1) (find_miss hC hn hl) hA (names_short hn) h
end
theorem isExc_AttributeError : isSubtype (.type "AttributeError") (.type "BaseException") = pure true := by rw [isSubtype_type]; kernel_rfl
theorem notTuple_AttributeError : isSubtype (.type ((Manifest.find? "AttributeError").elim "type" fun y => y.metatype)) (.type "tuple") = pure false := by
  have e : ((Manifest.find? "AttributeError").elim "type" fun y => y.metatype) = "type" := by decide +kernel
  rw [e, isSubtype_type]; kernel_rfl
theorem boot_AttributeError : bootBuiltins "AttributeError" = some (.type "AttributeError") := by decide +kernel
section
variable {prog : Program} {w : World} {A₀ : Around} {E : Value → Shared → Prop} {s' : Shared} {h₀ h : Heap} {L L' a e D : Addr} {m m' : Str → Option Value} {name : Str} {scope : Scope} {cd : Value}
  {b₀ : Stmt} {suite : List Stmt} {pos np : Pos} {rest : List ExceptHandler} {Q : Flow → Shared → Prop} {news : List (Addr × Obj)} {KF : Frag} {oL oD : Obj} {env : Env}
  {p : Program} {loose : List Str} {mean : ExcName → Option Value} {mg mb : Str → Option Value} {x : Str}
theorem news_swap {p q : Addr × Obj} {r : List (Addr × Obj)} (N : News h₀ L h (p :: q :: r)) : News h₀ L h (q :: p :: r) := fun z hz => N z (by
  rcases List.mem_cons.mp hz with rfl | hz
  · exact .tail _ (.head _)
  rcases List.mem_cons.mp hz with rfl | hz
  · exact .head _
  · exact .tail _ (.tail _ hz))
theorem caught_attr (hfr : A₀.frames = some [env]) (henv : env.frame = some L) (hkind : env.scope.kind = .function) (C : TI.Caller h₀ L m' oL) (hlt : L < D) (hnL : ∀ p ∈ news, p.1 ≠ L)
    (hx : Heap.NewExcOf h s'.heap e "AttributeError") (F : Fr h₀ L' h m) {sl₀ : Array (Option Value)} (N : News h₀ L' h ((D, oD) :: (L, { oL with slots := sl₀ }) :: news)) (KX : KF.In h₀) (TT : Top p loose mean mg mb h₀)
    (ex : nsIn KF mainGlobals (Str.ofString "AttributeError") = some none)
    (k : ∀ h' sl, Fr h₀ L' h' m → News h₀ L' h' ((D, oD) :: (L, { oL with slots := sl }) :: news) → wpAny (model prog w) ((A₀.deeper (envOf name scope L' a cd)).mark (some (.ref e))) (execs (b₀ :: suite) (envOf name scope L' a cd)) Q E { s' with heap := h' })
    (hk : scope.kind = .function) (hxk : (envOf name scope L' a cd).kindOf (Str.ofString "AttributeError") = some .globalImplicit)
    (hE : PassesOwnAt (model prog w) ((A₀.deeper (envOf name scope L' a cd)).mark (some (.ref e))) (A₀.deeper (envOf name scope L' a cd)) (envOf name scope L' a cd) E) :
    wpAny (model prog w) (A₀.deeper (envOf name scope L' a cd)) (noteFrame (.ref e) (envOf name scope L' a cd))
      (fun _ s₂ => wpAny (model prog w) (A₀.deeper (envOf name scope L' a cd)) (setFlight (.ref e) none) (fun _ s₃ =>
        wpAny (model prog w) (A₀.deeper (envOf name scope L' a cd)) (handleBy (.ref e) (envOf name scope L' a cd) (.ExceptHandler (some (.Name (Str.ofString "AttributeError") np)) none (b₀ :: suite) pos :: rest)) Q E s₃) E s₂) E s' := by
  refine caught_in (oL := { oL with slots := sl₀ }) hfr henv (by rw [hkind]; decide) C.dict (news := (D, oD) :: news) ?_ hx F (news_swap N) KX (topRead_of TT) ex boot_AttributeError (by decide) isExc_AttributeError notTuple_AttributeError sub_AttributeError (fun h' sl F' N' => k h' sl F' (news_swap N')) hk hxk (by decide) hE
  intro p hp
  rcases List.mem_cons.mp hp with rfl | hp
  · exact Nat.ne_of_gt hlt
  · exact hnL p hp
theorem leave_in (C : TI.Caller h₀ L m' oL) (F : Fr h₀ L' h m) {sl : Array (Option Value)} (N : News h₀ L' h ((D, oD) :: (L, { oL with slots := sl }) :: news)) (hlt : L < D) (hnL : ∀ p ∈ news, p.1 ≠ L) :
    Fr h₀ L h m' ∧ News h₀ L h ((D, oD) :: news) := by
  have hL := (N _ (.tail _ (.head _))).1
  refine ⟨⟨C.ns _ sl hL, F.keep, C.above⟩, fun p hp => ?_⟩
  rcases List.mem_cons.mp hp with rfl | hp
  · exact ⟨(N _ (.head _)).1, Nat.ne_of_gt hlt, (N _ (.head _)).2.2⟩
  · have z := N p (.tail _ (.tail _ hp))
    exact ⟨z.1, hnL p hp, z.2.2⟩
end
theorem en1 : Str.ofString "smtp_code" ∈ errNames := .head _
theorem en2 : Str.ofString "smtp_error" ∈ errNames := .tail _ (.head _)
theorem en3 : Str.ofString "sender" ∈ errNames := .tail _ (.tail _ (.head _))
theorem en4 : Str.ofString "recipients" ∈ errNames := .tail _ (.tail _ (.tail _ (.head _)))
end Mine

end

/-! XM -/
section
open PySem PySem.W PySem.Calls PyProof.Rows PySem.W.X
namespace Mine
/-! making an error: what x_run is asked for, and how it is used -/
def A9 : Around := { handled := none, depth := 900, frames := none, guards := none, units := 100 }
def tupObj (vs : List Value) : Obj := { cls := .type "tuple", data := .seq vs.toArray }
def TbNone (oe : Obj) : Prop := ∃ vs, oe.data = .fields vs ∧ vs[1]? = some .none
def Attrs (od : Obj) (a1 a2 a3 a4 : Option Value) : Prop :=
  lookIn (Str.ofString "smtp_code") od = some a1 ∧ lookIn (Str.ofString "smtp_error") od = some a2 ∧ lookIn (Str.ofString "sender") od = some a3 ∧ lookIn (Str.ofString "recipients") od = some a4
def MadeQ (s : Shared) (C : Addr) (vs : List Value) (a1 a2 a3 a4 : Option Value) (v : Value) (s' : Shared) : Prop :=
  ∃ e d t f t0 oe od of o0 h tk, v = .ref e ∧ s' = { s with heap := h, toks := tk } ∧ Mem s.heap h [] [(t, tupObj vs), (d, od), (f, of), (e, oe), (t0, o0)] ∧ ErrObj C d t oe ∧ TbNone oe ∧ Attrs od a1 a2 a3 a4
def FailQ (s : Shared) (r : Except Value Value) (s' : Shared) : Prop :=
  ∃ e h tk, r = .error (.ref e) ∧ s' = { s with heap := h, toks := tk } ∧ Heap.NewExcOf s.heap h e "TypeError"
theorem failQ_of {s : Shared} {e : Addr} {oe : Obj} {rest : List (Addr × Obj)} {h : Heap} {g : Array GenState} {d : Drawn} {tk : Nat} {os : OsState} {vs : Array Value} (D : Mem s.heap h [] ((e, oe) :: rest)) (hc : oe.cls = .type "TypeError") (hd : oe.data = .fields vs) (h1 : vs[1]? = some .none)
    (e1 : g = s.gens) (e2 : d = s.drawn) (e3 : os = s.os) : FailQ s (.error (.ref e)) ⟨h, g, d, tk, os⟩ := by
  subst e1 e2 e3
  exact ⟨e, h, tk, rfl, rfl, fun b o hb => D.keep b o hb (by cases hasCls o <;> rfl), (D.nw _ (.head _)).2, oe, vs, (D.nw _ (.head _)).1, hc, hd, h1⟩
end Mine

end

/-! XR -/
section
open PySem PySem.W PySem.Calls PyProof.Rows
namespace Mine
/-! own errors raised, passed by, caught -/
/-- a value that may be raised -/
def RaiseAt (M : Model) (A : Around) (K : Frag) (E : Value → Shared → Prop) (v : Value) (s : Shared) : Prop :=
  ∃ e oe C vs, v = .ref e ∧ K.In s.heap ∧ mroIn K C (.type "BaseException") = some true ∧ typeIn K (.ref C) = some (.type "type") ∧ s.heap.get? e = some oe ∧ oe.cls = .ref C ∧ oe.data = .fields vs ∧
    wpAny M A (setFlight (.ref e) none) (fun _ s₂ => E (.ref e) s₂) E s
section
variable {M : Model} {A : Around} {E : Value → Shared → Prop} {s : Shared} {env : Env} {K : Frag}
theorem raise_stmt {x : Expr} {pos : Pos} {Q : Flow → Shared → Prop} (K : Frag) (hh : A.handled = none) (h : wpAny M A (eval x env) (RaiseAt M A K E) E s) : wpAny M A (exec (.Raise (some x) none pos) env) Q E s := by
  show wpAny M A (do standAt pos; raiseStmt env (some (do let v ← eval x env; standAt pos; pure v)) none) Q E s
  refine wpAny_bind (wpAny_standAt ?_)
  unfold raiseStmt
  dsimp only
  refine wpAny_bind (wpAny_bind (wpAny_mono h (fun v s₁ h₁ => wpAny_bind (wpAny_standAt (wpAny_pure ?_))) fun _ _ x => x))
  obtain ⟨a, ob, C, vs, rfl, X, hm, ht, ha, hcls, hd, hE⟩ := h₁
  have hnt : ∀ {Q' : Bool → Shared → Prop}, Q' false s₁ → wpAny M A (isType (.ref a)) Q' E s₁ := by
    intro Q' hq
    simp only [isType, loadHead]
    refine wpAny_bind (wpAny_loadPart ha ?_)
    rw [hd]; exact wpAny_pure hq
  obtain ⟨hh', g, d, t, os⟩ := s₁
  have L0 : Looks M hh' (typeOf (.ref a)) (.ref C) := hcls ▸ (Looks.ld ha).andThen .now
  have L1 := looks_mroIn (M := M) X hm
  have L2 := looks_typeIn (M := M) X ht
  refine wpAny_bind (wpAny_pure ?_)
  dsimp only
  refine wpAny_bind (wpAny_holding ?_)
  unfold excFromValue isExcClass
  refine wpAny_bind (wpAny_bind (hnt ?_))
  simp only [Bool.false_eq_true, if_false]
  refine wpAny_pure ?_
  simp only [Bool.false_eq_true, if_false]
  unfold isInstance
  refine wpAny_bind (wpAny_bind (L0.at (L1.at ?_)))
  simp only [if_true]
  refine wpAny_pure ?_
  refine wpAny_bind (hnt ?_)
  simp only [Bool.false_eq_true, if_false]
  unfold raisedInstance
  refine wpAny_bind (wpAny_bind (L0.at (wpAny_bind (L2.at ?_))))
  rw [if_pos (by decide)]
  refine wpAny_pure ?_
  refine wpAny_bind (wpAny_mono hE (fun _ s₂ h₂ => ?_) fun _ _ x => x)
  unfold raiseNew
  refine wpAny_bind (wpAny_handled ?_)
  rw [hh]
  first
    | exact wpAny_throw h₂
    | exact wpAny_bind (wpAny_pure (wpAny_throw h₂))
/-- an error without a traceback: nothing is in flight -/
theorem flight_first {e : Addr} {oe : Obj} {Q : Unit → Shared → Prop} (he : s.heap.get? e = some oe) (ht : TbNone oe) (h : Q () s) : wpAny M A (setFlight (.ref e) none) Q E s := by
  obtain ⟨vs, hd, h1⟩ := ht
  unfold setFlight
  refine wpAny_bind (wpAny_field he hd h1 ?_)
  rw [if_neg (by decide)]
  exact wpAny_pure h
end
section
variable {prog : Program} {w : World} {A₀ : Around} {E : Value → Shared → Prop} {s' : Shared} {h₀ : Heap} {L L' a e C : Addr} {m : Str → Option Value} {name : Str} {scope : Scope} {cd : Value} {oe oT oL : Obj} {T : Addr} {n : Str}
  {b₀ : Stmt} {suite body : List Stmt} {pos np : Pos} {rest : List ExceptHandler} {Q : Flow → Shared → Prop} {news : List (Addr × Obj)} {KF : Frag} {tt : Expr} {nm : Option Str}
  {p : Program} {loose : List Str} {mean : ExcName → Option Value} {mg mb : Str → Option Value}
theorem Held.keeps {h h' : Heap} (H : Held h₀ L' h m news e oe T oT) (k : ∀ b o, h.get? b = some o → h'.get? b = some o) : Held h₀ L' h' m news e oe T oT :=
  ⟨fr_up H.fr k, news_up H.nw k, H.ne, H.off, H.vs⟩
theorem Held.ty {M : Model} {h : Heap} {cls : Value} (H : Held h₀ L' h m news e oe T oT) (hc : oe.cls = cls) : Looks M h (typeOf (.ref e)) cls := hc ▸ (Looks.ld (H.nw _ (.head _)).1).andThen .now
theorem held_pass {cls : Value} (H : Held h₀ L' s'.heap m news e oe T oT) (hc : oe.cls = cls) (KX : KF.In h₀) (TT : TopRead p loose mg mb h₀) (Te : KtsTest prog w KF p loose mg mb name scope L' a cd cls tt false)
    (k : ∀ h', Held h₀ L' h' m news e oe T oT → wpAny (model prog w) (A₀.deeper (envOf name scope L' a cd)) (handleBy (.ref e) (envOf name scope L' a cd) rest) Q E { s' with heap := h' }) :
    wpAny (model prog w) (A₀.deeper (envOf name scope L' a cd)) (handleBy (.ref e) (envOf name scope L' a cd) (.ExceptHandler (some tt) nm body pos :: rest)) Q E s' :=
  wpAny_handleBy_cons (codeAny_handlers_test (Te _ _ _ _ h₀ e m H.fr KX TT (H.ty hc) fun h' kp => k h' (H.keeps kp))) (by intro q; cases q)
theorem held_hit0 {cls : Value} (H : Held h₀ L' s'.heap m news e oe T oT) (hc : oe.cls = cls) (KX : KF.In h₀) (TT : TopRead p loose mg mb h₀) (Te : KtsTest prog w KF p loose mg mb name scope L' a cd cls tt true)
    (k : ∀ h' oT', Held h₀ L' h' m news e oe T oT' → Landed oT' → wpAny (model prog w) ((A₀.deeper (envOf name scope L' a cd)).mark (some (.ref e))) (execs (b₀ :: suite) (envOf name scope L' a cd)) Q E { s' with heap := h' })
    (hE : PassesOwnAt (model prog w) ((A₀.deeper (envOf name scope L' a cd)).mark (some (.ref e))) (A₀.deeper (envOf name scope L' a cd)) (envOf name scope L' a cd) E) :
    wpAny (model prog w) (A₀.deeper (envOf name scope L' a cd)) (handleBy (.ref e) (envOf name scope L' a cd) (.ExceptHandler (some tt) none (b₀ :: suite) pos :: rest)) Q E s' := by
  refine wpAny_handleBy_cons (codeAny_handlers_test (Te _ _ _ _ h₀ e m H.fr KX TT (H.ty hc) fun h' kp => ?_)) (by intro q; cases q)
  refine codeAny_handlers_suite ?_
  exact Held.flight' (s := { s' with heap := h' }) (H.keeps kp) fun h₂ oT₂ H₂ l₂ => wpAny_passesOwnAt hE (k h₂ oT₂ H₂ l₂)
theorem held_hitB {cls : Value} (H : Held h₀ L' s'.heap m news e oe T oT) (hc : oe.cls = cls) (KX : KF.In h₀) (TT : TopRead p loose mg mb h₀) (Te : KtsTest prog w KF p loose mg mb name scope L' a cd cls tt true)
    (k : ∀ h' oT' tk, Held h₀ L' h' (fun y => if y = n then some (.ref e) else m y) news e oe T oT' → Landed oT' →
      wpAny (model prog w) ((A₀.deeper (envOf name scope L' a cd)).mark (some (.ref e))) (execs (b₀ :: suite) (envOf name scope L' a cd))
        (fun f s₄ => wpAny (model prog w) (A₀.deeper (envOf name scope L' a cd)) (do bindName (envOf name scope L' a cd) n .none; unbindBehindTheSuite (envOf name scope L' a cd) n pos) (fun _ s₅ => Q f s₅) E s₄)
        (AsSuiteRaised (model prog w) ((A₀.deeper (envOf name scope L' a cd)).mark (some (.ref e))) (envOf name scope L' a cd) n pos (notedBy (model prog w) ((A₀.deeper (envOf name scope L' a cd)).mark (some (.ref e))) (envOf name scope L' a cd) (cameBackBy (model prog w) (A₀.deeper (envOf name scope L' a cd)) (envOf name scope L' a cd) E)))
        { s' with heap := h', toks := tk })
    (hk : scope.kind = .function) (hlo : (envOf name scope L' a cd).kindOf n = some .local) :
    wpAny (model prog w) (A₀.deeper (envOf name scope L' a cd)) (handleBy (.ref e) (envOf name scope L' a cd) (.ExceptHandler (some tt) (some n) (b₀ :: suite) pos :: rest)) Q E s' := by
  refine wpAny_handleBy_cons (codeAny_handlers_test (Te _ _ _ _ h₀ e m H.fr KX TT (H.ty hc) fun h' kp => ?_)) (by intro q; cases q)
  refine codeAny_handlers_suite_as ?_
  refine Held.flight' (s := { s' with heap := h' }) (H.keeps kp) fun h₂ oT₂ H₂ l₂ => ?_
  refine stN (s := { s' with heap := h₂ }) H₂.fr H₂.nw (fun h₃ F₃ N₃ => ?_) hk hlo
  exact k h₃ oT₂ _ ⟨F₃, N₃, H₂.ne, H₂.off, H₂.vs⟩ l₂
end
/-! an error that is raised once more: its traceback grows -/
section
variable {M : Model} {A : Around} {E : Value → Shared → Prop} {s : Shared}
theorem raw_ne (L : Addr) : ¬ ((Value.none == rawInt L) = true) := by simp [rawInt]
theorem note_again {A₀ : Around} {h₀ : Heap} {L L' a e T₀ : Addr} {m : Str → Option Value} {news : List (Addr × Obj)} {oe oL oT₀ : Obj} {name : Str} {scope : Scope} {cd : Value} {env : Env} {Q : Unit → Shared → Prop}
    (hfr : A₀.frames = some [env]) (henv : env.frame = some L) (hkind : env.scope.kind ≠ .module) (hdL : ∃ es ep, oL.data = .dict es ep)
    (H : Held h₀ L' s.heap m ((L, oL) :: news) e oe T₀ oT₀) (hts : Landed oT₀) (hne : ∀ p ∈ news, p.1 ≠ e) (hnL : ∀ p ∈ news, p.1 ≠ L) (hk : scope.kind = .function)
    (k : ∀ h' sl T oT, Held h₀ L' h' m ((L, { oL with slots := sl }) :: news) e (Obj.mapFields (·.setIfInBounds 1 (.ref T)) oe) T oT → Q () { s with heap := h' }) :
    wpAny M (A₀.deeper (envOf name scope L' a cd)) (noteFrame (.ref e) (envOf name scope L' a cd)) Q E s := by
  obtain ⟨F, N, neT, off, vs, ts', hd, h1, hdT', h3'⟩ := H
  obtain ⟨ts, hdT, h3⟩ := hts
  have he := (N _ (.head _)).1
  have hT := (N _ (.tail _ (.head _))).1
  have hLo := N _ (.tail _ (.tail _ (.head _)))
  have hLT : L ≠ T₀ := off _ (.head _)
  have hTL' : T₀ ≠ L' := (N _ (.tail _ (.head _))).2.1
  have hs : Heap.SameBut T₀ s.heap (s.heap.update T₀ (Obj.mapFields (·.setIfInBounds 3 Value.none))) := Heap.SameBut.update ..
  have F₁ := F.change hs hTL' (N _ (.tail _ (.head _))).2.2
  have N₁ : News h₀ L' (s.heap.update T₀ (Obj.mapFields (·.setIfInBounds 3 Value.none))) ((e, oe) :: (L, oL) :: news) := fun p hp => by
    rcases List.mem_cons.mp hp with rfl | hp
    · exact ⟨(hs.2 _ (Ne.symm neT)).trans he, (N _ (.head _)).2⟩
    · have z := N p (.tail _ (.tail _ hp))
      exact ⟨(hs.2 _ (off p hp)).trans z.1, z.2⟩
  unfold noteFrame
  simp only [show (envOf name scope L' a cd).frame = some L' from rfl]
  refine wpAny_bind (wpAny_field he hd h1 ?_)
  rw [if_pos (show (Value.ref T₀ != Value.none) = true from by simp)]
  refine wpAny_bind (wpAny_field hT hdT h3 ?_)
  rw [if_neg (raw_ne L')]
  refine wpAny_bind (wpAny_setField hT hdT (Array.getElem?_eq_some_iff.mp h3).1 ?_)
  have hsz := (Array.getElem?_eq_some_iff.mp h1).1
  have he₁ := (N₁ _ (.head _)).1
  have hLo₁ := N₁ _ (.tail _ (.head _))
  have fs : (s.heap.update T₀ (Obj.mapFields (·.setIfInBounds 3 Value.none))).FunFrames {} [envOf name scope L' a cd, env] := by
    obtain ⟨q1, q2, _⟩ := funFrame_of (a := a) (name := name) (cd := cd) F₁ hk
    obtain ⟨es, ep, hdd⟩ := hdL
    exact ⟨q1, q2, hkind, ⟨L, oL, henv, rfl, hLo₁.1, fun vs q => by rw [hdd] at q; cases q⟩, trivial⟩
  have fsE : [envOf name scope L' a cd, env].filterMap (·.frame) = [L', L] := by
    simp only [List.filterMap_cons, List.filterMap_nil, henv]; rfl
  have heL : e ≠ L := by
    intro q
    obtain ⟨es, ep, hdd⟩ := hdL
    have z := hLo.1
    change s.heap.get? L = some oL at z
    rw [← q, he] at z
    injection z with z
    have z' : oe = oL := z
    rw [← z', hd] at hdd; cases hdd
  refine entry_exact (s := { s with heap := s.heap.update T₀ (Obj.mapFields (·.setIfInBounds 3 Value.none)) }) (Around.frames_deeper hfr) fs rfl he₁ hd hsz fun h' T oT n => ?_
  rw [fsE] at n
  obtain ⟨sl, hsl⟩ := n.frames L oL (.tail _ (.head _)) (Ne.symm heL) hLo₁.1
  have hT0 : h₀.get? T = none := by
    cases q : h₀.get? T with
    | none => rfl
    | some o => have := F₁.keep _ _ q; rw [n.new] at this; cases this
  have hTL : T ≠ L' := by
    intro q
    obtain ⟨o, _, _, ho, _⟩ := F₁.ns
    have z := n.new
    rw [q, ho] at z; cases z
  have hTL2 : L ≠ T := by
    intro q
    have z := n.new
    rw [← q, hLo₁.1] at z; cases z
  have heL' : e ≠ L' := (N _ (.head _)).2.1
  have mem2 : ∀ b, b ≠ L' → b ≠ L → b ∉ [L', L] := fun b h1 h2 hm => by
    rcases List.mem_cons.mp hm with q | hm
    · exact h1 q
    · exact h2 (List.mem_singleton.mp hm)
  refine k h' sl T oT ⟨⟨ns_keep F₁.ns fun o ho => n.frames L' o (.head _) (Ne.symm heL') ho, fun b o hb => ?_, F.above⟩, fun p hp => ?_, n.ne, fun p hp q => ?_, ?_⟩
  · have b1 : b ≠ L' := Nat.ne_of_lt (Nat.lt_of_lt_of_le (Heap.lt_size hb) F.above)
    have b2 : b ≠ e := fun q => by have z := (N _ (.head _)).2.2; rw [q] at hb; rw [z] at hb; cases hb
    have b3 : b ≠ L := fun q => by have z := hLo.2.2; rw [q] at hb; rw [z] at hb; cases hb
    exact n.keep b o (mem2 b b1 b3) b2 (F₁.keep b o hb)
  · rcases List.mem_cons.mp hp with rfl | hp
    · exact ⟨n.err, heL', (N _ (.head _)).2.2⟩
    rcases List.mem_cons.mp hp with rfl | hp
    · exact ⟨n.at_, hTL, hT0⟩
    rcases List.mem_cons.mp hp with rfl | hp
    · exact ⟨hsl, hLo.2⟩
    · have z := N₁ p (.tail _ (.tail _ hp))
      exact ⟨n.keep _ _ (mem2 _ z.2.1 (hnL p hp)) (hne p hp) z.1, z.2⟩
  · rcases List.mem_cons.mp hp with rfl | hp
    · exact hTL2 q
    · have z := N₁ p (.tail _ (.tail _ hp))
      have y := n.new
      rw [← q, z.1] at y; cases y
  · obtain ⟨us, t1, t2⟩ := n.flds
    exact ⟨_, us, Obj.data_mapFields hd _, by simp [hsz], t1, t2⟩
end
end Mine

end

/-! XK -/
section
open PySem PySem.W PySem.Calls PyProof.Rows PySem.W.X
namespace Mine
/-! what x_run gives, as a rule over frame and ledger -/
structure Apart3 (e d t : Addr) (news : List (Addr × Obj)) : Prop where
  td : t ≠ d
  te : t ≠ e
  de : d ≠ e
  e : ∀ p ∈ news, p.1 ≠ e
  d : ∀ p ∈ news, p.1 ≠ d
  t : ∀ p ∈ news, p.1 ≠ t
section
variable {prog : Program} {w : World} {A : Around} {E : Value → Shared → Prop} {s : Shared} {h₀ : Heap} {L C : Addr} {m : Str → Option Value} {news : List (Addr × Obj)} {vs : List Value} {a1 a2 a3 a4 : Option Value} {Q : Value → Shared → Prop}
theorem made_use (h : wpAny (model prog w) A9 (call (.ref C) vs) (MadeQ s C vs a1 a2 a3 a4) (fun _ _ => False) s) (hh : A.handled = none) (hd : A.depth ≤ 900) (hu : A.units ≤ 100) (F : Fr h₀ L s.heap m) (N : News h₀ L s.heap news)
    (k : ∀ e d t oe od h' tk, ErrObj C d t oe → TbNone oe → Attrs od a1 a2 a3 a4 → Fr h₀ L h' m → News h₀ L h' ((t, tupObj vs) :: (d, od) :: (e, oe) :: news) → Apart3 e d t news → Q (.ref e) { s with heap := h', toks := tk }) :
    wpAny (model prog w) A (call (.ref C) vs) Q E s := by
  refine wpAny_mono (wpAny_wide h (by rw [hh]; rfl) hd hu rfl rfl) (fun v s' q => ?_) fun _ _ q => q.elim
  obtain ⟨e, d, t, f, t0, oe, od, of, o0, h', tk, rfl, rfl, D, ho, hn, ha⟩ := q
  have keep : ∀ b o, s.heap.get? b = some o → h'.get? b = some o := fun b o hb => D.keep b o hb (by cases hasCls o <;> rfl)
  have new : ∀ p ∈ [(t, tupObj vs), (d, od), (f, of), (e, oe), (t0, o0)], h'.get? p.1 = some p.2 ∧ p.1 ≠ L ∧ h₀.get? p.1 = none := fun p hp => by
    have z := D.nw p hp
    refine ⟨z.1, fun q => ?_, ?_⟩
    · obtain ⟨o, _, _, hL, _⟩ := F.ns
      have y := z.2
      rw [q, hL] at y; cases y
    · cases q : h₀.get? p.1 with
      | none => rfl
      | some o => have y := F.keep _ _ q; rw [z.2] at y; cases y
  have off : ∀ x ∈ [(t, tupObj vs), (d, od), (f, of), (e, oe), (t0, o0)], ∀ p ∈ news, p.1 ≠ x.1 := fun x hx p hp q => by
    have z := (D.nw x hx).2
    rw [← q, (N p hp).1] at z; cases z
  have o := D.ord
  simp only [List.map_cons, List.map_nil, List.pairwise_cons, List.mem_cons] at o
  have m1 : (t, tupObj vs) ∈ [(t, tupObj vs), (d, od), (f, of), (e, oe), (t0, o0)] := .head _
  have m2 : (d, od) ∈ [(t, tupObj vs), (d, od), (f, of), (e, oe), (t0, o0)] := .tail _ (.head _)
  have m4 : (e, oe) ∈ [(t, tupObj vs), (d, od), (f, of), (e, oe), (t0, o0)] := .tail _ (.tail _ (.tail _ (.head _)))
  refine k e d t oe od h' tk ho hn ha (fr_up F keep) (fun p hp => ?_) ⟨Nat.ne_of_gt (o.1 d (.inl rfl)), Nat.ne_of_gt (o.1 e (.inr (.inr (.inl rfl)))), Nat.ne_of_gt (o.2.1 e (.inr (.inl rfl))), off _ m4, off _ m2, off _ m1⟩
  rcases List.mem_cons.mp hp with rfl | hp
  · exact new _ m1
  rcases List.mem_cons.mp hp with rfl | hp
  · exact new _ m2
  rcases List.mem_cons.mp hp with rfl | hp
  · exact new _ m4
  · exact ⟨keep _ _ (N p hp).1, (N p hp).2⟩
end
end Mine

end

/-! XN -/
section
open PySem PySem.W PySem.Calls PyProof.Rows
namespace Mine
section
variable {prog : Program} {w : World} {A₀ : Around} {E : Value → Shared → Prop} {s' : Shared} {h₀ h : Heap} {L L' a e d t C u : Addr} {m m' : Str → Option Value} {name : Str} {scope : Scope} {cd : Value} {oe od ot oL ou : Obj} {env : Env}
  {hs : List ExceptHandler} {Q : Flow → Shared → Prop} {news : List (Addr × Obj)} {KF : Frag}
theorem ErrObj.map (ho : ErrObj C d t oe) (v : Value) : ErrObj C d t (Obj.mapFields (·.setIfInBounds 1 v) oe) := by
  obtain ⟨h1, h2, vs, h3, h4⟩ := ho
  refine ⟨(Obj.cls_mapFields _ _).trans h1, ?_, _, Obj.data_mapFields h3 _, ?_⟩
  · obtain ⟨c, di, da, sl⟩ := oe
    subst h3
    exact h2
  · rw [Array.getElem?_setIfInBounds_ne (by decide)]; exact h4
/-- a made error is raised: what the try's clauses are asked -/
theorem raised_first (hfr : A₀.frames = some [env]) (henv : env.frame = some L) (hkind : env.scope.kind = .function) (Cl : TI.Caller h₀ L m' oL) (hnL : ∀ p ∈ news, p.1 ≠ L)
    (F : Fr h₀ L' s'.heap m) {sl₀ : Array (Option Value)} (N : News h₀ L' s'.heap ((t, ot) :: (d, od) :: (e, oe) :: (L, { oL with slots := sl₀ }) :: news)) (ho : ErrObj C d t oe) (hn : TbNone oe) (ap : Apart3 e d t ((L, { oL with slots := sl₀ }) :: news)) (hk : scope.kind = .function)
    (k : ∀ h' sl T oT oe', ErrObj C d t oe' → Held h₀ L' h' m ((L, { oL with slots := sl }) :: (t, ot) :: (d, od) :: news) e oe' T oT →
      wpAny (model prog w) (A₀.deeper (envOf name scope L' a cd)) (handleBy (.ref e) (envOf name scope L' a cd) hs) Q E { s' with heap := h' }) :
    wpAny (model prog w) (A₀.deeper (envOf name scope L' a cd)) (noteFrame (.ref e) (envOf name scope L' a cd))
      (fun _ s₂ => wpAny (model prog w) (A₀.deeper (envOf name scope L' a cd)) (setFlight (.ref e) none) (fun _ s₃ =>
        wpAny (model prog w) (A₀.deeper (envOf name scope L' a cd)) (handleBy (.ref e) (envOf name scope L' a cd) hs) Q E s₃) E s₂) E s' := by
  obtain ⟨vs, hd, h1⟩ := hn
  refine note_in (oL := { oL with slots := sl₀ }) (oe := oe) (news := (t, ot) :: (d, od) :: news) hfr henv (by rw [hkind]; decide) Cl.dict F (fun p hp => N p ?_) (fun p hp => ?_) (fun p hp => ?_) hd h1 hk fun h₁ sl T oT H => ?_
  · rcases List.mem_cons.mp hp with rfl | hp
    · exact .tail _ (.tail _ (.head _))
    rcases List.mem_cons.mp hp with rfl | hp
    · exact .tail _ (.tail _ (.tail _ (.head _)))
    rcases List.mem_cons.mp hp with rfl | hp
    · exact .head _
    rcases List.mem_cons.mp hp with rfl | hp
    · exact .tail _ (.head _)
    · exact .tail _ (.tail _ (.tail _ (.tail _ hp)))
  · rcases List.mem_cons.mp hp with rfl | hp
    · exact ap.te
    rcases List.mem_cons.mp hp with rfl | hp
    · exact ap.de
    · exact ap.e p (.tail _ hp)
  · rcases List.mem_cons.mp hp with rfl | hp
    · exact Ne.symm (ap.t _ (.head _))
    rcases List.mem_cons.mp hp with rfl | hp
    · exact Ne.symm (ap.d _ (.head _))
    · exact hnL p hp
  · exact Held.flight (s := { s' with heap := h₁ }) H fun h₂ oT₂ H₂ => k h₂ sl T oT₂ _ (ho.map _) H₂
theorem leave_any {led out : List (Addr × Obj)} (Cl : TI.Caller h₀ L m' oL) (F : Fr h₀ L' h m) (N : News h₀ L' h led) {sl : Array (Option Value)} (hL : (L, { oL with slots := sl }) ∈ led) (ho : ∀ p ∈ out, p ∈ led ∧ p.1 ≠ L) :
    Fr h₀ L h m' ∧ News h₀ L h out :=
  ⟨⟨Cl.ns _ sl (N _ hL).1, F.keep, Cl.above⟩, fun p hp => ⟨(N p (ho p hp).1).1, (ho p hp).2, (N p (ho p hp).1).2.2⟩⟩
theorem raise_at {M : Model} {A : Around} (KX : KF.In h₀) (F : Fr h₀ L' s'.heap m) (N : News h₀ L' s'.heap news) (hC : ErrCls KF C) (hty : typeIn KF (.ref C) = some (.type "type")) (he : (e, oe) ∈ news) (ho : ErrObj C d t oe) (hn : TbNone oe) (h : E (.ref e) s') :
    RaiseAt M A KF E (.ref e) s' := by
  obtain ⟨vs, h1, _⟩ := ho.data
  exact ⟨e, oe, C, vs, rfl, KX.keeps F.keep, hC.sub, hty, (N _ he).1, ho.cls, h1, flight_first (N _ he).1 hn h⟩
theorem raise_stmt' {M : Model} {A : Around} {x : Expr} {pos : Pos} {Q : Flow → Shared → Prop} (_ : KF.In h₀) (hh : A.handled = none) (h : wpAny M A (eval x env) (RaiseAt M A KF E) E s') : wpAny M A (exec (.Raise (some x) none pos) env) Q E s' := raise_stmt KF hh h
end
structure ApartR (e d t T : Addr) (news : List (Addr × Obj)) : Prop where
  td : t ≠ d
  te : t ≠ e
  de : d ≠ e
  Te : T ≠ e
  tT : t ≠ T
  dT : d ≠ T
  e : ∀ p ∈ news, p.1 ≠ e
  d : ∀ p ∈ news, p.1 ≠ d
  t : ∀ p ∈ news, p.1 ≠ t
  T : ∀ p ∈ news, p.1 ≠ T
def TbAt (oe : Obj) (T : Addr) : Prop := ∃ vs, oe.data = .fields vs ∧ vs[1]? = some (.ref T)
section
variable {h₀ h h1 : Heap} {L L' e d t T u : Addr} {m m' m1 : Str → Option Value} {oe od ot oT oL oL0 ou : Obj} {sl : Array (Option Value)} {news : List (Addr × Obj)}
theorem allLt_off {u : Addr} : ∀ {l : List (Addr × Obj)}, AllLt u l → ∀ p ∈ l, p.1 < u
  | [], _, _, hp => (nomatch hp)
  | q :: r, h, p, hp => by
    rcases List.mem_cons.mp hp with rfl | hp
    · exact h.1
    · exact allLt_off h.2 p hp
theorem raise_end (Cl : TI.Caller h₀ L m' oL) (F : Fr h₀ L' h m) (N : News h₀ L' h ((u, ou) :: (e, oe) :: (T, oT) :: (L, { oL with slots := sl }) :: (t, ot) :: (d, od) :: news)) (H : Held h₀ L' h1 m1 ((L, { oL with slots := sl }) :: (t, ot) :: (d, od) :: news) e oe T oT)
    (ap : Apart3 e d t ((L, oL0) :: news)) (hnL : ∀ p ∈ news, p.1 ≠ L) (lu : e < u ∧ T < u ∧ L < u ∧ t < u ∧ d < u ∧ AllLt u news) :
    Fr h₀ L h m' ∧ News h₀ L h ((u, ou) :: (e, oe) :: (T, oT) :: (t, ot) :: (d, od) :: news) ∧ ApartR e d t T news ∧ TbAt oe T := by
  obtain ⟨F2, N2⟩ := leave_any (out := (u, ou) :: (e, oe) :: (T, oT) :: (t, ot) :: (d, od) :: news) Cl F N (.tail _ (.tail _ (.tail _ (.head _)))) (by
    intro p hp
    rcases List.mem_cons.mp hp with rfl | hp
    · exact ⟨.head _, Nat.ne_of_gt lu.2.2.1⟩
    rcases List.mem_cons.mp hp with rfl | hp
    · exact ⟨.tail _ (.head _), Ne.symm (ap.e _ (.head _))⟩
    rcases List.mem_cons.mp hp with rfl | hp
    · exact ⟨.tail _ (.tail _ (.head _)), Ne.symm (H.off _ (.head _))⟩
    rcases List.mem_cons.mp hp with rfl | hp
    · exact ⟨.tail _ (.tail _ (.tail _ (.tail _ (.head _)))), Ne.symm (ap.t _ (.head _))⟩
    rcases List.mem_cons.mp hp with rfl | hp
    · exact ⟨.tail _ (.tail _ (.tail _ (.tail _ (.tail _ (.head _))))), Ne.symm (ap.d _ (.head _))⟩
    · exact ⟨.tail _ (.tail _ (.tail _ (.tail _ (.tail _ (.tail _ hp))))), hnL p hp⟩)
  refine ⟨F2, N2, ⟨ap.td, ap.te, ap.de, H.ne, H.off _ (.tail _ (.head _)), H.off _ (.tail _ (.tail _ (.head _))), fun p hp => ap.e p (.tail _ hp), fun p hp => ap.d p (.tail _ hp), fun p hp => ap.t p (.tail _ hp), fun p hp => H.off p (.tail _ (.tail _ (.tail _ hp)))⟩, ?_⟩
  obtain ⟨vs, ts, h1, h2, _⟩ := H.vs
  exact ⟨vs, h1, h2⟩
end
def A9h (v : Option Value) : Around := { handled := v, depth := 900, frames := none, guards := none, units := 100 }
def YesQ (s : Shared) (v : Value) (s' : Shared) : Prop := v = .bool true ∧ ∃ tk, s' = { s with toks := tk }
section
variable {prog : Program} {w : World} {A A₀ : Around} {E : Value → Shared → Prop} {s' : Shared} {h₀ h : Heap} {L L' a e d t C u T : Addr} {m m' : Str → Option Value} {name : Str} {scope : Scope} {cd : Value} {oe od ot oL oT ou : Obj} {env : Env}
  {hs : List ExceptHandler} {news : List (Addr × Obj)} {KF : Frag}
theorem yes_use {Q : Value → Shared → Prop} {tr : Sem Value} (F : Fr h₀ L' s'.heap m) (N : News h₀ L' s'.heap news) (KX : KF.In h₀) (ho : ErrObj C d t oe) (he : (e, oe) ∈ news)
    (h : ∀ d vs sl, KF.In s'.heap → s'.heap.get? e = some ⟨.ref C, some d, .fields vs, sl⟩ → wpAny (model prog w) (A9h A.handled) tr (YesQ s') (fun _ _ => False) s') (hd : A.depth ≤ 900) (hu : A.units ≤ 100)
    (k : ∀ tk, Q (.bool true) { s' with toks := tk }) : wpAny (model prog w) A tr Q E s' := by
  have z := (N _ he).1
  obtain ⟨c, di, da, sl⟩ := oe
  obtain ⟨h1, h2, vs, h3, _⟩ := ho
  dsimp only at h1 h2 h3
  subst h1 h2 h3
  refine wpAny_mono (wpAny_wide (h d vs sl (KX.keeps F.keep) z) rfl hd hu rfl rfl) (fun v s₂ q => ?_) fun _ _ q => q.elim
  obtain ⟨rfl, tk, rfl⟩ := q
  exact k tk
theorem held_of (F : Fr h₀ L' h m) (N : News h₀ L' h ((e, oe) :: (T, oT) :: news)) (ho : TbAt oe T) (hl : Landed oT) (ne : T ≠ e) (off : ∀ p ∈ news, p.1 ≠ T) : Held h₀ L' h m news e oe T oT := by
  obtain ⟨vs, h1, h2⟩ := ho
  obtain ⟨ts, h3, h4⟩ := hl
  exact ⟨F, N, ne, off, vs, ts, h1, h2, h3, (Array.getElem?_eq_some_iff.mp h4).1⟩
theorem raise_again {M : Model} (KX : KF.In h₀) (H : Held h₀ L' s'.heap m news e oe T oT) (hC : ErrCls KF C) (hty : typeIn KF (.ref C) = some (.type "type")) (ho : ErrObj C d t oe)
    (h : ∀ h' oT', Held h₀ L' h' m news e oe T oT' → Landed oT' → E (.ref e) { s' with heap := h' }) : RaiseAt M A KF E (.ref e) s' := by
  obtain ⟨vs, h1, _⟩ := ho.data
  exact ⟨e, oe, C, vs, rfl, KX.keeps H.fr.keep, hC.sub, hty, (H.nw _ (.head _)).1, ho.cls, h1, H.flight' h⟩
theorem raised_again {Q : Flow → Shared → Prop} (hfr : A₀.frames = some [env]) (henv : env.frame = some L) (hkind : env.scope.kind = .function) (Cl : TI.Caller h₀ L m' oL) {sl₀ : Array (Option Value)}
    (H : Held h₀ L' s'.heap m ((L, { oL with slots := sl₀ }) :: news) e oe T oT) (hl : Landed oT) (ho : ErrObj C d t oe) (hne : ∀ p ∈ news, p.1 ≠ e) (hnL : ∀ p ∈ news, p.1 ≠ L) (hk : scope.kind = .function)
    (k : ∀ h' sl T oT oe', ErrObj C d t oe' → Held h₀ L' h' m ((L, { oL with slots := sl }) :: news) e oe' T oT →
      wpAny (model prog w) (A₀.deeper (envOf name scope L' a cd)) (handleBy (.ref e) (envOf name scope L' a cd) hs) Q E { s' with heap := h' }) :
    wpAny (model prog w) (A₀.deeper (envOf name scope L' a cd)) (noteFrame (.ref e) (envOf name scope L' a cd))
      (fun _ s₂ => wpAny (model prog w) (A₀.deeper (envOf name scope L' a cd)) (setFlight (.ref e) none) (fun _ s₃ =>
        wpAny (model prog w) (A₀.deeper (envOf name scope L' a cd)) (handleBy (.ref e) (envOf name scope L' a cd) hs) Q E s₃) E s₂) E s' := by
  refine note_again (oL := { oL with slots := sl₀ }) hfr henv (by rw [hkind]; decide) Cl.dict H hl hne hnL hk fun h₁ sl T' oT' H' => ?_
  exact Held.flight (s := { s' with heap := h₁ }) H' fun h₂ oT₂ H₂ => k h₂ sl T' oT₂ _ (ho.map _) H₂
end
theorem again_end {h₀ h : Heap} {L L' e T : Addr} {m m' : Str → Option Value} {oe oT oL : Obj} {sl : Array (Option Value)} {news : List (Addr × Obj)} (Cl : TI.Caller h₀ L m' oL) (F : Fr h₀ L' h m) (N : News h₀ L' h ((e, oe) :: (T, oT) :: (L, { oL with slots := sl }) :: news)) (heL : e ≠ L) (hnL : ∀ p ∈ news, p.1 ≠ L) :
    Fr h₀ L h m' ∧ News h₀ L h ((e, oe) :: news) :=
  leave_any Cl F N (.tail _ (.tail _ (.head _))) (by
    intro p hp
    rcases List.mem_cons.mp hp with rfl | hp
    · exact ⟨.head _, heL⟩
    · exact ⟨.tail _ (.tail _ (.tail _ hp)), hnL p hp⟩)
section
variable {dp un : Nat} {gd : Option (List Code)} {cn : Str} {cs : Scope} {L a : Addr} {ccd : Value} {cl : List (Str × Addr)} {outer : List Env} {env : Env}
theorem dp_ok (h : dp + 1 < 800) : ((ktrTop dp un gd cn cs L a ccd cl outer).deeper env).depth ≤ 900 := by show dp + 1 ≤ 900; omega
theorem un_ok (h : un + 8 < 90) : ((ktrTop dp un gd cn cs L a ccd cl outer).deeper env).units ≤ 100 := by show un + 3 ≤ 100; omega
theorem rm_ok (h : dp + 1 < 800) : (ktrTop dp un gd cn cs L a ccd cl outer).depth < recursionLimit := by show dp < 1000; omega
theorem dp_ok' {v : Option Value} (h : dp + 1 < 800) : (((ktrTop dp un gd cn cs L a ccd cl outer).deeper env).mark v).depth ≤ 900 := by show dp + 1 ≤ 900; omega
theorem un_ok' {v : Option Value} (h : un + 8 < 90) : (((ktrTop dp un gd cn cs L a ccd cl outer).deeper env).mark v).units ≤ 100 := by show un + 3 ≤ 100; omega
end
end Mine

end

/-! XL -/
section
open PySem PySem.W PySem.Calls PyProof.Rows
namespace Mine
/-! for a, b in enumerate(list): a ledger that may grow from turn to turn -/
section
variable {prog : Program} {w : World} {A : Around} {E : Value → Shared → Prop} {s : Shared} {env : Env} {h₀ : Heap} {body : List Stmt} {Q : Flow → Shared → Prop}
def ForAt (prog : Program) (w : World) (A : Around) (env : Env) (tgt : Expr) (body : List Stmt) (Q : Flow → Shared → Prop) (E : Value → Shared → Prop) (it : Value) (s₂ : Shared) : Prop :=
  codeAny (model prog w) A (.forLoop tgt it body [] env) (fun r s' => match r with | .ok f => Q f s' | .error e => cameBackBy (model prog w) A env E e s') s₂
theorem For_at {tgt iter : Expr} {pos : Pos} (h : wpAny (model prog w) A (eval iter env) (fun xv s₁ => wpAny (model prog w) A (pyIter xv) (fun it s₂ => ForAt prog w A env tgt body Q E it s₂) E s₁) E s)
    (hs : ∀ x, foldedSetIterable iter env x = pure x) : wpAny (model prog w) A (exec (.For tgt iter body [] pos) env) Q E s := wpAny_For h hs
def EndT (h₀ : Heap) (L : Addr) (J : (Str → Option Value) → List (Addr × Obj) → Prop) (own : List (Addr × Obj)) (s₁ s₂ : Shared) : Prop :=
  ∃ h' tk m' nx, s₂ = { s₁ with heap := h', toks := tk } ∧ Fr h₀ L h' m' ∧ News h₀ L h' nx ∧ News h₀ L h' own ∧ (∀ p ∈ nx, ∀ q ∈ own, p.1 ≠ q.1) ∧ J m' nx
def PostT (h₀ : Heap) (L : Addr) (J : (Str → Option Value) → List (Addr × Obj) → Prop) (own : List (Addr × Obj)) (s₁ : Shared) (Q : Flow → Shared → Prop) (f : Flow) (s₂ : Shared) : Prop :=
  match f with
  | .ret v => Q (.ret v) s₂
  | .brk => Q .next s₂
  | _ => EndT h₀ L J own s₁ s₂
theorem iter_enum {xi xv : Str} {pi pv pt : Pos} {x1 : Nat} {l : Addr} {vs : List Value} {nn : Nat} {m₀ : Str → Option Value} {news : List (Addr × Obj)} (J : Nat → (Str → Option Value) → List (Addr × Obj) → Prop)
    (hh : A.handled = none) (hl : (l, PySem.W.listOf vs.toArray nn) ∈ news) (F : Fr h₀ env.locals s.heap m₀) (N : News h₀ env.locals s.heap news) (hj : J 0 m₀ news)
    (hJl : ∀ i m nx, J i m nx → (l, PySem.W.listOf vs.toArray nn) ∈ nx)
    (hxi : env.kindOf xi = some .local) (hxv : env.kindOf xv = some .local) (hp : (env.scope.kind == .class || (env.scope.kind == .module && env.locals != env.globals)) = false)
    (hE : PassesOwn (model prog w) A env E)
    (turn : ∀ i v t m₁ news₁ h tk e oe it oit, vs[i]? = some v → J i m₁ news₁ → (∀ p ∈ news₁, ∀ q ∈ [(e, oe), (it, oit)], p.1 ≠ q.1) → Fr h₀ env.locals h (fun y => if y = xv then some v else if y = xi then some (.int (i : Nat) t) else m₁ y) → News h₀ env.locals h (news₁ ++ [(e, oe), (it, oit)]) →
      wpAny (model prog w) A (execs body env) (PostT h₀ env.locals (J (i + 1)) [(e, oe), (it, oit)] { s with heap := h, toks := tk } Q) E { s with heap := h, toks := tk })
    (done : ∀ m₁ news₁ h tk, J vs.length m₁ news₁ → Fr h₀ env.locals h m₁ → News h₀ env.locals h news₁ → Q .next { s with heap := h, toks := tk }) :
    wpAny (model prog w) A (call (.type "enumerate") [.ref l]) (fun xv' s₁ => wpAny (model prog w) A (pyIter xv') (fun it s₂ => ForAt prog w A env (.Tuple [.Name xi pi, .Name xv pv] x1 pt) body Q E it s₂) E s₁) E s := by
  have hol : s.heap.get? l = some (PySem.W.listOf vs.toArray nn) := (N _ hl).1
  have hls : s.heap.IsList l vs.toArray := ⟨_, hol, rfl, nn, rfl⟩
  have hLs : env.locals < s.heap.objs.size := F.ns.lt
  have hab : h₀.objs.size ≤ env.locals := F.above
  refine call_enumerate_list hls fun h' he hit hsz hk => ?_
  refine wpAny_pyIter_enum he ?_
  have n1 : h₀.get? (s.heap.objs.size + 1) = none := Heap.get?_none_of_le (Nat.le_trans hab (Nat.le_of_lt (Nat.lt_succ_of_lt hLs)))
  have n2 : h₀.get? s.heap.objs.size = none := Heap.get?_none_of_le (Nat.le_trans hab (Nat.le_of_lt hLs))
  have heL : s.heap.objs.size + 1 ≠ env.locals := Nat.ne_of_gt (Nat.lt_succ_of_lt hLs)
  have hiL : s.heap.objs.size ≠ env.locals := Nat.ne_of_gt hLs
  have hei : s.heap.objs.size + 1 ≠ s.heap.objs.size := Nat.succ_ne_self _
  have off0 : ∀ p ∈ news, p.1 ≠ s.heap.objs.size + 1 ∧ p.1 ≠ s.heap.objs.size := fun p hp => by
    have q := Heap.lt_size (N p hp).1
    exact ⟨Nat.ne_of_lt (Nat.lt_succ_of_lt q), Nat.ne_of_lt q⟩
  have F' : Fr h₀ env.locals h' m₀ := ⟨F.ns.keeps hk, fun b o e => hk b o (F.keep b o e), F.above⟩
  have N' : News h₀ env.locals h' news := fun p hp => ⟨hk _ _ (N p hp).1, (N p hp).2⟩
  clear hk hsz hol hls hLs
  revert he hit n1 n2 heL hiL hei off0
  generalize s.heap.objs.size + 1 = e
  generalize s.heap.objs.size = it
  intro he hit n1 n2 heL hiL hei off0
  show codeAny _ _ _ _ _
  refine codeAny_forLoop_any
    (fun k s' => ∃ h' tk m' nx i old, s' = { s with heap := h', toks := tk } ∧ IsEnum h' e it ((i : Nat) : Int) old ∧ h'.IsListIter it l i ∧ Fr h₀ env.locals h' m' ∧ News h₀ env.locals h' nx ∧ (∀ p ∈ nx, p.1 ≠ e ∧ p.1 ≠ it) ∧ J i m' nx ∧ i ≤ vs.length ∧ k = vs.length + 1 - i) ?_ (vs.length + 1)
    ⟨h', s.toks, m₀, news, 0, .none, rfl, he, hit, F', N', off0, hj, Nat.zero_le _, rfl⟩
  rintro k s' ⟨H, tk, m', nx, i, old, rfl, he', hit', F₁, N₁, off, hJ, hi, rfl⟩
  have hlm := hJl _ _ _ hJ
  have hlo : H.get? l = some (PySem.W.listOf vs.toArray nn) := (N₁ _ hlm).1
  have hl' : H.IsList l vs.toArray := ⟨_, hlo, rfl, nn, rfl⟩
  have hL0 : ∀ b o, h₀.get? b = some o → b ≠ e ∧ b ≠ it := fun b o q => ⟨fun z => (by rw [z, n1] at q; cases q), fun z => (by rw [z, n2] at q; cases q)⟩
  cases hv : vs[i]? with
  | none =>
    have hsz : i = vs.length := Nat.le_antisymm hi (List.getElem?_eq_none_iff.mp hv)
    refine wpAny_pyNext_enum_end hh he' hit' hl' (by simpa using hv) fun h₁ he₁ => wpAny_execs_nil ?_
    exact done m' nx h₁ tk (hsz ▸ hJ) ⟨F₁.ns.extBut he₁ (Ne.symm hiL), fun b o q => he₁ b o (hL0 b o q).2 (F₁.keep b o q), F₁.above⟩ (fun p hp => ⟨he₁ _ _ (off p hp).2 (N₁ p hp).1, (N₁ p hp).2⟩)
  | some v =>
    have hlt : i < vs.length := (List.getElem?_eq_some_iff.mp hv).1
    refine wpAny_pyNext_enum_item he' hit' hl' (by simpa using hv) hei fun h₁ heo hit₁ ht₁ hz₁ hk₁ => ?_
    refine wpAny_letOwnedTupleGo_enum heo fun h₂ he₂ hs₂ => ?_
    replace hs₂ : Heap.SameBut e h₁ h₂ := hs₂
    have heH : e < H.objs.size := Heap.lt_size he'
    have ht₂ : h₂.IsTuple H.objs.size #[.int i tk, v] := ⟨_, (hs₂.2 _ (Nat.ne_of_gt heH)).trans ht₁, rfl, _, rfl⟩
    have hz₂ : h₂.objs.size = H.objs.size + 1 := hs₂.1.trans hz₁
    refine wpAny_assign_Tuple hh ht₂ rfl rfl fun h₃ hx₃ => ?_
    replace hx₃ : Heap.ExtBut h₂.objs.size h₂ h₃ := hx₃
    have up₃ : ∀ b o, h₂.get? b = some o → h₃.get? b = some o := fun b o x => hx₃ b o (Nat.ne_of_lt (Heap.lt_size x)) x
    have kp : ∀ b o, b ≠ e → b ≠ it → H.get? b = some o → h₃.get? b = some o := fun b o b1 b2 x => up₃ b o ((hs₂.2 b b1).trans (hk₁ b o b1 b2 x))
    have F₃ : Fr h₀ env.locals h₃ m' := by
      obtain ⟨o, es, ep, ho, r⟩ := F₁.ns
      exact ⟨⟨o, es, ep, kp _ _ (Ne.symm heL) (Ne.symm hiL) ho, r⟩, fun b o q => kp b o (hL0 b o q).1 (hL0 b o q).2 (F₁.keep b o q), F₁.above⟩
    have N₃ : News h₀ env.locals h₃ nx := fun p hp => ⟨kp _ _ (off p hp).1 (off p hp).2 (N₁ p hp).1, (N₁ p hp).2⟩
    obtain ⟨oit, ho1, ho2, ho3⟩ := hit₁
    have O₃ : News h₀ env.locals h₃ [(e, _), (it, oit)] := fun p hp => by
      rcases List.mem_cons.mp hp with rfl | hp
      · exact ⟨up₃ _ _ he₂, heL, n1⟩
      · rw [List.mem_singleton.mp hp]; exact ⟨up₃ _ _ ((hs₂.2 _ (Ne.symm hei)).trans ho1), hiL, n2⟩
    show wpAny _ A (do holding [v] (assign (.Name xi pi) env (.int i tk)); do holding [] (assign (.Name xv pv) env v); pure ()) _ _ _
    refine wpAny_bind (wpAny_holding (wpAny_assign_Name (wpAny_storeName_local hxi F₃.ns (fun h₄ hn₄ hs₄ => ?_) hp)))
    replace hs₄ : Heap.SameBut env.locals h₃ h₄ := hs₄
    have F₄ := F₃.set hn₄ hs₄
    refine wpAny_bind (wpAny_holding (wpAny_assign_Name (wpAny_storeName_local hxv F₄.ns (fun h₅ hn₅ hs₅ => wpAny_pure ?_) hp)))
    replace hs₅ : Heap.SameBut env.locals h₄ h₅ := hs₅
    have F₅ := F₄.set hn₅ hs₅
    have N₅ : News h₀ env.locals h₅ nx := (N₃.set hs₄).set hs₅
    have O₅ := (O₃.set hs₄).set hs₅
    refine wpAny_passesOwn hE ?_
    refine wpAny_mono (turn i v tk m' nx h₅ _ e ({ cls := .type "enumerate", dict := none, data := .fields #[.none, .bool false, .ref it, rawInt ((i : Int) + 1), .none, v], slots := #[] } : Obj) it oit hv hJ ?_ F₅ (fun p hp => ?_)) (fun f s₃ h₆ => ?_) fun _ _ x => x
    · intro p hp q hq
      rcases List.mem_cons.mp hq with rfl | hq
      · exact (off p hp).1
      · rw [List.mem_singleton.mp hq]; exact (off p hp).2
    · exact (List.mem_append.mp hp).elim (N₅ p) (O₅ p)
    · have fin : ∀ tk5, EndT h₀ env.locals (J (i + 1)) [(e, ({ cls := .type "enumerate", dict := none, data := .fields #[.none, .bool false, .ref it, rawInt ((i : Int) + 1), .none, v], slots := #[] } : Obj)), (it, oit)] { s with heap := h₅, toks := tk5 } s₃ → ∃ k, k < vs.length + 1 - i ∧ ∃ h' tk m' nx i old, s₃ = { s with heap := h', toks := tk } ∧ IsEnum h' e it ((i : Nat) : Int) old ∧ h'.IsListIter it l i ∧ Fr h₀ env.locals h' m' ∧ News h₀ env.locals h' nx ∧ (∀ p ∈ nx, p.1 ≠ e ∧ p.1 ≠ it) ∧ J i m' nx ∧ i ≤ vs.length ∧ k = vs.length + 1 - i := by
        rintro tk5 ⟨h₇, tk₆, m₂, nx₂, rfl, F₆, N₆, O₆, off₆, hJ₆⟩
        refine ⟨vs.length + 1 - (i + 1), by omega, h₇, tk₆, m₂, nx₂, i + 1, v, rfl, ?_, ⟨oit, (O₆ _ (.tail _ (.head _))).1, ho2, ho3⟩, F₆, N₆, fun p hp => ⟨off₆ p hp _ (.head _), off₆ p hp _ (.tail _ (.head _))⟩, hJ₆, hlt, rfl⟩
        have : ((i + 1 : Nat) : Int) = (i : Int) + 1 := by push_cast; rfl
        rw [this]; exact (O₆ _ (.head _)).1
      cases f with
      | ret v => exact h₆
      | brk => exact h₆
      | next => exact fin _ h₆
      | cont => exact fin _ h₆
/-- for a, b, .. in list of tuples: the unpacking is left to the turn -/
theorem iter_tuples {elts : List Expr} {pt : Pos} {x1 : Nat} {l : Addr} {vs : List Value} {nn : Nat} {m₀ : Str → Option Value} {news : List (Addr × Obj)} (J : Nat → (Str → Option Value) → List (Addr × Obj) → Prop)
    (hh : A.handled = none) (hl : (l, PySem.W.listOf vs.toArray nn) ∈ news) (F : Fr h₀ env.locals s.heap m₀) (N : News h₀ env.locals s.heap news) (hj : J 0 m₀ news)
    (hJl : ∀ i m nx, J i m nx → (l, PySem.W.listOf vs.toArray nn) ∈ nx) (hr : ∀ v ∈ vs, ∃ u, v = .ref u) (hE : PassesOwn (model prog w) A env E)
    (turn : ∀ i v m₁ news₁ h tk I oI, vs[i]? = some v → J i m₁ news₁ → (∀ p ∈ news₁, ∀ q ∈ [(I, oI)], p.1 ≠ q.1) → Fr h₀ env.locals h m₁ → News h₀ env.locals h (news₁ ++ [(I, oI)]) →
      wpAny (model prog w) A (assign (.Tuple elts x1 pt) env v) (fun _ s₂ => wpAny (model prog w) A (execs body env) (PostT h₀ env.locals (J (i + 1)) [(I, oI)] { s with heap := h, toks := tk } Q) E s₂) E { s with heap := h, toks := tk })
    (done : ∀ m₁ news₁ h tk, J vs.length m₁ news₁ → Fr h₀ env.locals h m₁ → News h₀ env.locals h news₁ → Q .next { s with heap := h, toks := tk }) :
    wpAny (model prog w) A (pyIter (.ref l)) (fun it s₂ => ForAt prog w A env (.Tuple elts x1 pt) body Q E it s₂) E s := by
  have hol : s.heap.get? l = some (PySem.W.listOf vs.toArray nn) := (N _ hl).1
  have hls : s.heap.IsList l vs.toArray := ⟨_, hol, rfl, nn, rfl⟩
  have hLs : env.locals < s.heap.objs.size := F.ns.lt
  have hab : h₀.objs.size ≤ env.locals := F.above
  refine wpAny_pyIter_list hls ?_
  have n2 : h₀.get? s.heap.objs.size = none := Heap.get?_none_of_le (Nat.le_trans hab (Nat.le_of_lt hLs))
  have hiL : s.heap.objs.size ≠ env.locals := Nat.ne_of_gt hLs
  have off0 : ∀ p ∈ news, p.1 ≠ s.heap.objs.size := fun p hp => Nat.ne_of_lt (Heap.lt_size (N p hp).1)
  show codeAny _ _ _ _ _
  refine codeAny_forLoop_any
    (fun k s' => ∃ h' tk m' nx i, s' = { s with heap := h', toks := tk } ∧ h'.IsListIter s.heap.objs.size l i ∧ Fr h₀ env.locals h' m' ∧ News h₀ env.locals h' nx ∧ (∀ p ∈ nx, p.1 ≠ s.heap.objs.size) ∧ J i m' nx ∧ i ≤ vs.length ∧ k = vs.length + 1 - i) ?_ (vs.length + 1)
    ⟨_, s.toks, m₀, news, 0, rfl, ⟨_, Heap.get?_push_size _ rfl, rfl, rfl⟩, F.push _, (fun p hp => ⟨Heap.get?_push_of_some _ (N p hp).1, (N p hp).2⟩), off0, hj, Nat.zero_le _, rfl⟩
  revert n2 hiL off0
  generalize s.heap.objs.size = it
  intro n2 hiL off0
  rintro k s' ⟨H, tk, m', nx, i, rfl, hit', F₁, N₁, off, hJ, hi, rfl⟩
  have hlm := hJl _ _ _ hJ
  have hlo : H.get? l = some (PySem.W.listOf vs.toArray nn) := (N₁ _ hlm).1
  have hl' : H.IsList l vs.toArray := ⟨_, hlo, rfl, nn, rfl⟩
  have hL0 : ∀ b o, h₀.get? b = some o → b ≠ it := fun b o q z => by rw [z, n2] at q; cases q
  cases hv : vs[i]? with
  | none =>
    have hsz : i = vs.length := Nat.le_antisymm hi (List.getElem?_eq_none_iff.mp hv)
    refine wpAny_pyNext_list_end hh hit' hl' (by simpa using hv) fun h₁ he₁ => wpAny_execs_nil ?_
    exact done m' nx h₁ tk (hsz ▸ hJ) ⟨F₁.ns.extBut he₁ (Ne.symm hiL), fun b o q => he₁ b o (hL0 b o q) (F₁.keep b o q), F₁.above⟩ (fun p hp => ⟨he₁ _ _ (off p hp) (N₁ p hp).1, (N₁ p hp).2⟩)
  | some v =>
    have hlt : i < vs.length := (List.getElem?_eq_some_iff.mp hv).1
    obtain ⟨u, rfl⟩ := hr v (List.mem_of_getElem? hv)
    refine wpAny_pyNext_list_item hit' hl' (by simpa using hv) fun h₁ hit₁ hs₁ => ?_
    refine wpAny_letOwnedTupleGo_listiter hit₁ ?_
    replace hs₁ : Heap.SameBut it H h₁ := hs₁
    obtain ⟨oit, ho1, ho2, ho3⟩ := hit₁
    have F₃ : Fr h₀ env.locals h₁ m' := by
      obtain ⟨o, es, ep, ho, r⟩ := F₁.ns
      exact ⟨⟨o, es, ep, (hs₁.2 _ (Ne.symm hiL)).trans ho, r⟩, fun b o q => (hs₁.2 _ (hL0 b o q)).trans (F₁.keep b o q), F₁.above⟩
    have N₃ : News h₀ env.locals h₁ nx := fun p hp => ⟨(hs₁.2 _ (off p hp)).trans (N₁ p hp).1, (N₁ p hp).2⟩
    have O₃ : News h₀ env.locals h₁ [(it, oit)] := fun p hp => by
      rw [List.mem_singleton.mp hp]; exact ⟨ho1, hiL, n2⟩
    have fin : ∀ tk5 s₃, EndT h₀ env.locals (J (i + 1)) [(it, oit)] { s with heap := h₁, toks := tk5 } s₃ → ∃ k, k < vs.length + 1 - i ∧ ∃ h' tk m' nx i, s₃ = { s with heap := h', toks := tk } ∧ h'.IsListIter it l i ∧ Fr h₀ env.locals h' m' ∧ News h₀ env.locals h' nx ∧ (∀ p ∈ nx, p.1 ≠ it) ∧ J i m' nx ∧ i ≤ vs.length ∧ k = vs.length + 1 - i := by
      rintro tk5 s₃ ⟨h₇, tk₆, m₂, nx₂, rfl, F₆, N₆, O₆, off₆, hJ₆⟩
      exact ⟨vs.length + 1 - (i + 1), by omega, h₇, tk₆, m₂, nx₂, i + 1, rfl, ⟨oit, (O₆ _ (.head _)).1, ho2, ho3⟩, F₆, N₆, fun p hp => off₆ p hp _ (.head _), hJ₆, hlt, rfl⟩
    refine wpAny_passesOwn hE ?_
    refine wpAny_mono (turn i (.ref u) m' nx h₁ tk it oit hv hJ ?_ F₃ (fun p hp => ?_)) (fun _ s₂ h₅ => wpAny_passesOwn hE (wpAny_mono h₅ (fun f s₃ h₆ => ?_) fun _ _ x => x)) fun _ _ x => x
    · intro p hp q hq
      rw [List.mem_singleton.mp hq]; exact off p hp
    · exact (List.mem_append.mp hp).elim (N₃ p) (O₃ p)
    · cases f with
      | ret v => exact h₆
      | brk => exact h₆
      | next => exact fin _ _ h₆
      | cont => exact fin _ _ h₆
end
end Mine

end

/-! XQ -/
section
open PySem PySem.W PySem.Calls PyProof.Rows
namespace Mine
/-! a table picked from; what _law_read gave compared with what is due -/
section
variable {prog : Program} {w : World} {A : Around} {E : Value → Shared → Prop} {s : Shared} {h₀ : Heap} {L : Addr} {news : List (Addr × Obj)}
theorem pick_item {value slice : PySem.Expr} {l : Addr} {vs : List Value} {nn : Nat} {k : Int} {u : Tok} {Q : Value → Shared → Prop}
    (N : News h₀ L s.heap news) (hl : (l, PySem.W.listOf vs.toArray nn) ∈ news) (h0 : 0 ≤ k) (hk : k < vs.length) (hn : vs.length ≤ 100) (h : ∀ v ∈ vs, Q v s)
    (hs : subscripted slice false (.ref l) (.int k u) = operate [.ref l, .int k u] (getItem (.ref l) (.int k u))) :
    wpAny (model prog w) A (subscriptTail value slice (.ref l) (.int k u)) Q E s := by
  have hls : s.heap.IsList l vs.toArray := ⟨_, (N _ hl).1, rfl, nn, rfl⟩
  have hlt : k.toNat < vs.length := by omega
  refine tail_any hls.typeIs slot_list_getitem.lookup (wpAny_getItem_list hls h0 ?_ (x := vs[k.toNat]) (by simp [hlt]) (h _ (List.getElem_mem hlt))) hs
  have : (2 : Int) ^ 63 = 9223372036854775808 := by decide
  omega
theorem same_tuple {t t' : Addr} {vs : List Value} (N : News h₀ L s.heap news) (m1 : (t, tupObj vs) ∈ news) (m2 : (t', tupObj vs) ∈ news) (hu : A.units < cLine) : SeqAt.EqAt A s (.ref t) (.ref t') true := by
  by_cases q : t = t'
  · subst q; exact SeqAt.EqAt.same _
  · have h1 : s.heap.IsTuple t vs.toArray := ⟨_, (N _ m1).1, rfl, 0, rfl⟩
    have h2 : s.heap.IsTuple t' vs.toArray := ⟨_, (N _ m2).1, rfl, 0, rfl⟩
    have z := SeqAt.RcAt.tuples (A := A) (e := fun _ => true) h1 h2 hu (fun j a b => SeqAt.EqAt.same _)
    have e : ((List.range (min vs.toArray.size vs.toArray.size)).all (fun _ => true) && vs.toArray.size == vs.toArray.size) = true := by simp
    rw [e] at z
    exact SeqAt.EqAt.of_refs q z
variable {D D' t t' : Addr} {oD oD' : Obj} {Q : Value → Shared → Prop}
theorem ne_reply {c m : Value} (N : News h₀ L s.heap news) (d1 : (D, oD) ∈ news) (d2 : (D', oD') ∈ news) (i1 : oD.IsDictOf (PySem.strKind prog w) [(Str.ofString "args", .ref t), (Str.ofString "code", c), (Str.ofString "msg", m)])
    (i2 : oD'.IsDictOf (PySem.strKind prog w) [(Str.ofString "args", .ref t'), (Str.ofString "code", c), (Str.ofString "msg", m)]) (l1 : (D == sysModules) = false) (l2 : (D' == sysModules) = false)
    (m1 : (t, tupObj [c, m]) ∈ news) (m2 : (t', tupObj [c, m]) ∈ news) (hu : A.units + 1 < cLine) (h : Q (.bool false) s) : wpAny (model prog w) A (compareOp .NotEq (.ref D) (.ref D')) Q E s := by
  refine kne_pairs (r := true) N d1 d2 i1 i2 l1 l2 rfl (Nat.lt_of_succ_lt hu) ?_ h
  exact KeqHits.hit (e := true) (b := true) (by rfl) (same_tuple N m1 m2 hu) (KeqHits.hit (e := true) (b := true) (by rfl) (SeqAt.EqAt.same _) (KeqHits.hit (e := true) (b := true) (by rfl) (SeqAt.EqAt.same _) KeqHits.nil))
theorem ne_sender {c m x : Value} (N : News h₀ L s.heap news) (d1 : (D, oD) ∈ news) (d2 : (D', oD') ∈ news) (i1 : oD.IsDictOf (PySem.strKind prog w) [(Str.ofString "args", .ref t), (Str.ofString "code", c), (Str.ofString "msg", m), (Str.ofString "sender", x)])
    (i2 : oD'.IsDictOf (PySem.strKind prog w) [(Str.ofString "args", .ref t'), (Str.ofString "code", c), (Str.ofString "msg", m), (Str.ofString "sender", x)]) (l1 : (D == sysModules) = false) (l2 : (D' == sysModules) = false)
    (m1 : (t, tupObj [c, m, x]) ∈ news) (m2 : (t', tupObj [c, m, x]) ∈ news) (hu : A.units + 1 < cLine) (h : Q (.bool false) s) : wpAny (model prog w) A (compareOp .NotEq (.ref D) (.ref D')) Q E s := by
  refine kne_pairs (r := true) N d1 d2 i1 i2 l1 l2 rfl (Nat.lt_of_succ_lt hu) ?_ h
  exact KeqHits.hit (e := true) (b := true) (by rfl) (same_tuple N m1 m2 hu) (KeqHits.hit (e := true) (b := true) (by rfl) (SeqAt.EqAt.same _) (KeqHits.hit (e := true) (b := true) (by rfl) (SeqAt.EqAt.same _) (KeqHits.hit (e := true) (b := true) (by rfl) (SeqAt.EqAt.same _) KeqHits.nil)))
theorem fr_ext {h : Heap} {f g : Str → Option Value} (F : Fr h₀ L h f) (e : ∀ y, f y = g y) : Fr h₀ L h g := by
  have : f = g := funext e
  exact this ▸ F
end
end Mine

end

/-! XD -/
section
open PySem PySem.W PySem.Calls PyProof.Rows PyProof.V PySem.Spec
namespace Mine
/-! == of dicts that hold dicts, for one program and world -/
def EqW (prog : Program) (w : World) (s : Shared) (k : Nat) (y x : Value) : Prop :=
  ∀ (A : Around) (E : Value → Shared → Prop) (Q : Bool → Shared → Prop), A.units + k < cLine → Q true s → wpAny (model prog w) A (eqBool y x) Q E s
section
variable {prog : Program} {w : World} {A : Around} {E : Value → Shared → Prop} {s : Shared} {K : Type} [DecidableEq K] {knd : KeyKind prog w K}
theorem EqW.same {k : Nat} (v : Value) : EqW prog w s k v v := fun A E Q _ h => SeqAt.EqAt.same v prog w E Q h
theorem EqW.of_at {k : Nat} {y x : Value} (h : ∀ A : Around, A.units + k < cLine → SeqAt.EqAt A s y x true) : EqW prog w s k y x := fun A E Q hu q => h A hu prog w E Q q
theorem EqW.mono {k k' : Nat} {y x : Value} (h : EqW prog w s k y x) (hk : k ≤ k') : EqW prog w s k' y x := fun A E Q hu q => h A E Q (by omega) q
/-- all pairs of a dict are met in another one of the same size -/
theorem pairs_same {nm : String} {a b : Addr} {ka kb : List (K × Value)} {k : Nat} {Q : Bool → Shared → Prop} (ha : (a == sysModules) = false) (hb : (b == sysModules) = false) (da : s.heap.DictOf knd a ka) (db : s.heap.DictOf knd b kb)
    (hl : ka.length = kb.length) (hu : A.units + k < cLine) (hits : ∀ (i : Nat) c v, ka[i]? = some (c, v) → ∃ y, valueAt kb c = some y ∧ EqW prog w s k v y) (h : Q true s) :
    wpAny (model prog w) A (Builtin.Dict.samePairs nm a b) Q E s := by
  obtain ⟨oa, es, ep, hoa, _, hda, hka, hpa, _⟩ := da
  obtain ⟨ob, es', ep', hob, _, hdb, hkb, hpb, _⟩ := db
  have hla : ka.length = es.size := by rw [← hpa.length]; exact Array.length_toList
  have hlb : kb.length = es'.size := by rw [← hpb.length]; exact Array.length_toList
  have hsz : es.size = es'.size := by omega
  have look : ∀ c y, valueAt kb c = some y → ∃ (j : Nat) (hj : j < es'.size), (es'.findIdx? fun e => knd.is c e.key) = some j ∧ es'[j].val = y := by
    intro c y hy
    have e : findBy knd.is es' c = valueAt kb c := by
      rw [← hpb.find c]
      obtain ⟨l⟩ := es'
      simp [findBy]
    rw [← e, findBy_of_findIdx?] at hy
    cases hj : es'.findIdx? fun e => knd.is c e.key with
    | none => rw [hj] at hy; cases hy
    | some j =>
      obtain ⟨hlt, _, _⟩ := Array.findIdx?_eq_some_iff_getElem.mp hj
      rw [hj] at hy
      refine ⟨j, hlt, rfl, ?_⟩
      simpa [Array.getElem?_eq_getElem hlt] using hy
  unfold Builtin.Dict.samePairs Builtin.Dict.showsAll
  rw [ha, hb]
  refine wpAny_bind (wpAny_pure (wpAny_bind (wpAny_pure ?_)))
  refine wpAny_bind (wpAny_dictEntries hoa hda ?_)
  refine wpAny_bind (wpAny_dictEntries hob hdb ?_)
  dsimp only
  rw [if_neg (by rw [hsz]; simp)]
  refine wpAny_bind (wpAny_dictEpoch hoa hda ?_)
  refine wpAny_bind ?_
  rw [Std.Legacy.Range.forIn_eq_forIn_range']
  simp only [Std.Legacy.Range.size, Nat.sub_zero, Nat.add_sub_cancel, Nat.div_one]
  refine wpAny_forIn_list _ (fun rest q s' => s' = s ∧ q = (none, ()) ∧ ∀ x ∈ rest, x < es.size) _ ?_ ?_ _ _ ⟨rfl, rfl, fun x hx => by simpa using hx⟩
  · rintro x rest q s' ⟨rfl, rfl, hr⟩
    have hlt : x < es.size := hr x (.head _)
    have hlt' : x < ka.length := by omega
    refine wpAny_bind (wpAny_dictEntries hoa hda ?_)
    rw [Array.getElem?_eq_getElem hlt]
    obtain ⟨c, v, hcv⟩ : ∃ c v, ka[x] = (c, v) := ⟨_, _, rfl⟩
    have hcv' : ka[x]? = some (c, v) := by rw [List.getElem?_eq_getElem hlt', hcv]
    obtain ⟨hkey, hval⟩ := hpa.get? (i := x) (e := es[x]) (k := c) (v := v) (by rw [Array.getElem?_toList]; exact Array.getElem?_eq_getElem hlt) hcv'
    obtain ⟨c', hc', hh⟩ := hka es[x] (Array.getElem_mem hlt)
    obtain rfl : c' = c := knd.inj _ _ _ hc' hkey
    obtain ⟨y, hy, heq⟩ := hits x c' v hcv'
    obtain ⟨j, hj, hf, hv⟩ := look c' y hy
    show wpAny _ _ (holding [es[x].key, es[x].val] _ >>= _) _ _ _
    rw [hh]
    refine wpAny_bind (wpAny_holding (wpAny_bind (wpAny_dictFind_of hkey hob hdb hkb ?_)))
    rw [hf]
    refine wpAny_bind (wpAny_dictEntries hob hdb ?_)
    rw [Array.getElem?_eq_getElem hj]
    refine wpAny_holding ?_
    rw [hval, hv]
    refine heq A _ _ hu ?_
    show wpAny _ _ (if (!true) = true then _ else _) _ _ _
    rw [if_neg (by decide)]
    refine wpAny_bind (wpAny_dictEpoch hoa hda ?_)
    rw [if_neg (by simp)]
    exact wpAny_pure ⟨rfl, rfl, fun z hz => hr z (.tail _ hz)⟩
  · rintro q s' ⟨rfl, rfl, _⟩
    exact wpAny_pure h
theorem dicts_eq {a b : Addr} {ka kb : List (K × Value)} {k : Nat} {Q : Value → Shared → Prop} (ha : (a == sysModules) = false) (hb : (b == sysModules) = false) (da : s.heap.DictOf knd a ka) (db : s.heap.DictOf knd b kb)
    (hl : ka.length = kb.length) (hu : A.units + 1 + k < cLine) (hits : ∀ (i : Nat) c v, ka[i]? = some (c, v) → ∃ y, valueAt kb c = some y ∧ EqW prog w s k v y) (h : Q (.bool true) s) :
    wpAny (model prog w) A (richCompare .Eq (.ref a) (.ref b)) Q E s := by
  refine wpAny_richCompare_same_room (op := .Eq) da.typeIs db.typeIs PySem.F.slot_dict_eq (wpAny_call_entry PySem.F.slot_dict_eq da.typeIs PySem.F.entry_dict_eq ?_ (PySem.F.args_dict_eq_2 _ _)) (by omega)
  show wpAny _ _ (Builtin.Dict.dictSlotArgs "__eq__" ⟨[.ref a, .ref b], []⟩ >>= _) _ _ s
  refine wpAny_bind ?_
  unfold Builtin.Dict.dictSlotArgs
  refine wpAny_bind (wpAny_notOrdered_dict da.typeIs ?_)
  show wpAny _ _ (pure (Value.ref a, Value.ref b)) _ _ s
  refine wpAny_pure ?_
  refine wpAny_bind (wpAny_isInstance (T := "dict") db.typeIs PySem.F.sub_dict_dict ?_)
  simp only [Bool.not_true, Bool.false_eq_true, if_false]
  refine wpAny_bind (wpAny_pure (wpAny_bind (wpAny_pure ?_)))
  refine wpAny_bind (pairs_same ha hb da db hl hu hits ?_)
  exact wpAny_pure ⟨_, rfl, (fun x => nomatch x), h⟩
theorem dicts_ne {a b : Addr} {ka kb : List (K × Value)} {k : Nat} {Q : Value → Shared → Prop} (ha : (a == sysModules) = false) (hb : (b == sysModules) = false) (da : s.heap.DictOf knd a ka) (db : s.heap.DictOf knd b kb)
    (hl : ka.length = kb.length) (hu : A.units + 1 + k < cLine) (hits : ∀ (i : Nat) c v, ka[i]? = some (c, v) → ∃ y, valueAt kb c = some y ∧ EqW prog w s k v y) (h : Q (.bool false) s) :
    wpAny (model prog w) A (compareOp .NotEq (.ref a) (.ref b)) Q E s := by
  refine wpAny_richCompare_same_room (op := .NotEq) da.typeIs db.typeIs PySem.F.slot_dict_ne (wpAny_call_entry PySem.F.slot_dict_ne da.typeIs PySem.F.entry_dict_ne ?_ (PySem.F.args_dict_ne_2 _ _)) (by omega)
  show wpAny _ _ (Builtin.Dict.dictSlotArgs "__ne__" ⟨[.ref a, .ref b], []⟩ >>= _) _ _ s
  refine wpAny_bind ?_
  unfold Builtin.Dict.dictSlotArgs
  refine wpAny_bind (wpAny_notOrdered_dict da.typeIs ?_)
  show wpAny _ _ (pure (Value.ref a, Value.ref b)) _ _ s
  refine wpAny_pure ?_
  refine wpAny_bind (wpAny_isInstance (T := "dict") db.typeIs PySem.F.sub_dict_dict ?_)
  simp only [Bool.not_true, Bool.false_eq_true, if_false]
  refine wpAny_bind (wpAny_pure (wpAny_bind (wpAny_pure ?_)))
  refine wpAny_bind (pairs_same ha hb da db hl hu hits ?_)
  exact wpAny_pure ⟨_, rfl, (fun x => nomatch x), h⟩
/-- two refs are equal by their types' own == -/
theorem EqW.of_rc {k : Nat} {l b : Addr} (h : ∀ (A : Around) (E : Value → Shared → Prop) (Q : Value → Shared → Prop), A.units + k < cLine → Q (.bool true) s → wpAny (model prog w) A (richCompare .Eq (.ref l) (.ref b)) Q E s) : EqW prog w s k (.ref l) (.ref b) := fun A E Q hu q => by
  by_cases e : l = b
  · subst e; exact EqW.same (k := k) _ A E Q hu q
  · unfold eqBool
    refine wpAny_holding ?_
    refine wpAny_ite_split (fun hab => absurd (by have := eq_of_beq hab; injection this) e) (fun _ => ?_)
    exact wpAny_bind (h A _ _ hu (wpAny_truthy_bool q))
theorem EqW.dicts {a b : Addr} {ka kb : List (K × Value)} {k : Nat} (ha : (a == sysModules) = false) (hb : (b == sysModules) = false) (da : s.heap.DictOf knd a ka) (db : s.heap.DictOf knd b kb)
    (hl : ka.length = kb.length) (hits : ∀ (i : Nat) c v, ka[i]? = some (c, v) → ∃ y, valueAt kb c = some y ∧ EqW prog w s k v y) : EqW prog w s (k + 1) (.ref a) (.ref b) :=
  EqW.of_rc fun A E Q hu q => dicts_eq ha hb da db hl (by omega) hits q
end
end Mine

end

/-! XT -/
section
open PySem PySem.W PySem.Calls PyProof.Rows PyProof.V PySem.Spec
namespace Mine
section
variable {prog : Program} {w : World} {s : Shared}
theorem EqW.tuple1 {k : Nat} {t t' : Addr} {x y : Value} (ht : s.heap.get? t = some (tupObj [x])) (ht' : s.heap.get? t' = some (tupObj [y])) (he : EqW prog w s k x y) : EqW prog w s (k + 1) (.ref t) (.ref t') :=
  EqW.of_rc fun A E Q hu q => by
    refine wpAny_richCompare_same_room (op := .Eq) (T := "tuple") ⟨_, ht, rfl⟩ ⟨_, ht', rfl⟩ F.slot_tuple_eq (wpAny_call_entry F.slot_tuple_eq ⟨_, ht, rfl⟩ F.entry_tuple_eq ?_ (F.args_tuple_eq_2 _ _)) (by omega)
    obtain ⟨hp, g, d, tk, os⟩ := s
    have f2 := AutoSeq1.sub_tuple_tuple
    have hu' : A.in1.units + k < cLine := by show A.units + 1 + k < cLine; omega
    have h1 : hp.get? t = some { cls := .type "tuple", dict := none, data := .seq #[x] 0, slots := #[] } := ht
    have h2 : hp.get? t' = some { cls := .type "tuple", dict := none, data := .seq #[y] 0, slots := #[] } := ht'
    clear ht ht'
    wp_walk using wpAny_loadPart' h1, wpAny_loadPart' h2, wpAny_forIn_list _ (fun rest b s' => b.1 = none ∧ s' = ⟨hp, g, d, tk, os⟩ ∧ ∀ p ∈ rest, p = (x, y)) _
    case turn =>
      rintro ⟨y', x'⟩ rest b s' ⟨hb', rfl, hr⟩
      have := hr _ (.head _)
      injection this with e1 e2
      subst e1 e2
      refine wpAny_bind (he A.in1 _ _ hu' ?_)
      wp_walk
      exact ⟨rfl, rfl, fun p hp => hr p (.tail _ hp)⟩
    case fin =>
      rintro ⟨b1, b2⟩ s' ⟨hb', rfl, _⟩
      simp only at hb'
      subst hb'
      wp_walk
      exact ⟨_, rfl, by simp [Builtin.Tuple.tupleCompareSizes], q⟩
    case h =>
      exact ⟨rfl, rfl, fun p hp => by simpa using hp⟩
end
end Mine

end

/-! XP -/
section
open PySem PySem.W PySem.Calls PyProof.Rows PyProof.V PySem.Spec
namespace Mine
/-! 05: tables and their twins -/
def isTup (o : Obj) : Prop := o.cls = .type "tuple"
def SameV (T : List (Addr × Obj)) (v v' : Value) : Prop :=
  ∃ x y n t1 t2 st k1 k2, v = .ref x ∧ v' = .ref y ∧ (x, tupObj [.int n t1, .str st k1]) ∈ T ∧ (y, tupObj [.int n t2, .str st k2]) ∈ T
inductive Two (T : List (Addr × Obj)) : List (Str × Value) → List (Str × Value) → Prop
  | nil : Two T [] []
  | cons {c v v' l l'} : SameV T v v' → Two T l l' → Two T ((c, v) :: l) ((c, v') :: l')
theorem tup_is (vs : List Value) : isTup (tupObj vs) := rfl
theorem SameV.mono {T T' : List (Addr × Obj)} {v v' : Value} (h : SameV T v v') (k : ∀ p ∈ T, isTup p.2 → p ∈ T') : SameV T' v v' := by
  obtain ⟨x, y, n, t1, t2, st, k1, k2, h1, h2, h3, h4⟩ := h
  exact ⟨x, y, n, t1, t2, st, k1, k2, h1, h2, k _ h3 rfl, k _ h4 rfl⟩
section
variable {T T' : List (Addr × Obj)} {ka kb : List (Str × Value)} {v v' : Value} {c : Str}
theorem Two.mono (h : Two T ka kb) (k : ∀ p ∈ T, isTup p.2 → p ∈ T') : Two T' ka kb := by
  induction h with
  | nil => exact .nil
  | cons hv _ ih => exact .cons (hv.mono k) ih
theorem Two.length (h : Two T ka kb) : ka.length = kb.length := by
  induction h with
  | nil => rfl
  | cons _ _ ih => simp [ih]
theorem Two.append (h : Two T ka kb) (hv : SameV T v v') : Two T (ka ++ [(c, v)]) (kb ++ [(c, v')]) := by
  induction h with
  | nil => exact .cons hv .nil
  | cons h1 _ ih => exact .cons h1 ih
theorem Two.put (h : Two T ka kb) (hv : SameV T v v') : Two T (ka.map fun kv => if kv.1 = c then (kv.1, v) else kv) (kb.map fun kv => if kv.1 = c then (kv.1, v') else kv) := by
  induction h with
  | nil => exact .nil
  | @cons c' u u' l l' h1 _ ih =>
    simp only [List.map_cons]
    by_cases q : c' = c
    · simp only [q, if_true]; exact .cons hv ih
    · simp only [q, if_false]; exact .cons h1 ih
theorem Two.any (h : Two T ka kb) : (ka.any fun kv => decide (kv.1 = c)) = (kb.any fun kv => decide (kv.1 = c)) := by
  induction h with
  | nil => rfl
  | cons _ _ ih => simp only [List.any_cons, ih]
theorem Two.stored (h : Two T ka kb) (hv : SameV T v v') : Two T (PySem.stored ka c v) (PySem.stored kb c v') := by
  unfold PySem.stored
  rw [h.any (c := c)]
  split
  · exact h.put hv
  · exact h.append hv
theorem Two.without (h : Two T ka kb) (c : Str) : Two T (PySem.without ka c) (PySem.without kb c) := by
  unfold PySem.without
  induction h with
  | nil => exact .nil
  | @cons c' u u' l l' h1 _ ih =>
    simp only [List.filter_cons]
    by_cases q : c' ≠ c
    · rw [if_pos (decide_eq_true q), if_pos (decide_eq_true q)]; exact .cons h1 ih
    · rw [if_neg (by simpa using q), if_neg (by simpa using q)]; exact ih
theorem Two.get (h : Two T ka kb) : ∀ (i : Nat) c v, ka[i]? = some (c, v) → ∃ y, kb[i]? = some (c, y) ∧ SameV T v y := by
  induction h with
  | nil => intro i c v q; simp at q
  | @cons c' u u' l l' h1 _ ih =>
    intro i c v q
    cases i with
    | zero =>
      simp only [List.getElem?_cons_zero, Option.some.injEq, Prod.mk.injEq] at q
      obtain ⟨rfl, rfl⟩ := q
      exact ⟨u', rfl, h1⟩
    | succ i => simpa using ih i c v (by simpa using q)
theorem without_none {c : Str} (h : valueAt ka c = none) : PySem.without ka c = ka := by
  unfold PySem.without
  rw [List.filter_eq_self]
  intro p hp
  unfold valueAt at h
  rw [Option.map_eq_none_iff, List.find?_eq_none] at h
  have := h p hp
  simpa using this
theorem length_without (c : Str) : (PySem.without ka c).length ≤ ka.length := List.length_filter_le _ _
end
section
variable {prog : Program} {w : World} {s : Shared} {h₀ : Heap} {L : Addr} {T led : List (Addr × Obj)}
theorem SameV.eqW {v v' : Value} (N : News h₀ L s.heap led) (h : SameV T v v') (hT : ∀ p ∈ T, isTup p.2 → p ∈ led) : EqW prog w s 1 v v' := by
  obtain ⟨x, y, n, t1, t2, st, k1, k2, rfl, rfl, h3, h4⟩ := h
  refine EqW.of_at fun A hu => ?_
  by_cases q : x = y
  · subst q; exact SeqAt.EqAt.same _
  · have i1 : s.heap.IsTuple x #[.int n t1, .str st k1] := ⟨_, (N _ (hT _ h3 rfl)).1, rfl, 0, rfl⟩
    have i2 : s.heap.IsTuple y #[.int n t2, .str st k2] := ⟨_, (N _ (hT _ h4 rfl)).1, rfl, 0, rfl⟩
    have z := SeqAt.RcAt.tuples (A := A) (e := fun _ => true) i1 i2 (by omega) (fun j a b => by
      match j, a with
      | 0, _ => have z := SeqAt.EqAt.int_int (A := A.in1) (s := s) n t1 n t2; simpa using z
      | 1, _ => have z := SeqAt.EqAt.str_str (A := A.in1) (s := s) st k1 st k2; simpa using z
      | j + 2, a => exact absurd a (by simp))
    have e : ((List.range (min 2 2)).all (fun _ => true) && (2 : Nat) == 2) = true := by decide
    exact SeqAt.EqAt.of_refs q (by
      have z' : SeqAt.RcAt A s (.ref x) (.ref y) ((List.range (min 2 2)).all (fun _ => true) && (2 : Nat) == 2) := z
      rwa [e] at z')
theorem kind_ne {h : Heap} {p q : Addr × Obj} (N : News h₀ L h led) (hp : p ∈ led) (hq : q ∈ led) (hk : p.2.cls ≠ q.2.cls) : p.1 ≠ q.1 := fun e => by
  have z := (N p hp).1
  rw [e, (N q hq).1] at z
  injection z with z
  exact hk (by rw [z])
end
section
variable (prog : Program) (w : World)
def PairAt (b : Nat) (T : List (Addr × Obj)) (a a' : Addr) : Prop :=
  (a == sysModules) = false ∧ (a' == sysModules) = false ∧ a ≠ a' ∧ ∃ oa ob ka kb, (a, oa) ∈ T ∧ (a', ob) ∈ T ∧ oa.IsDictOf (PySem.strKind prog w) ka ∧ ob.IsDictOf (PySem.strKind prog w) kb ∧ Two T ka kb ∧ ka.length ≤ b
def ErrAt (T : List (Addr × Obj)) (P : List (Addr × Addr)) (v : Value) : Prop :=
  ∃ u e d t oe od a a', v = .ref u ∧ (u, tupObj [.ref e, .ref a, .ref a']) ∈ T ∧ (e, oe) ∈ T ∧ (d, od) ∈ T ∧ (t, tupObj [.ref a]) ∈ T ∧ ErrObj 63 d t oe ∧ Attrs od none none none (some (.ref a)) ∧ (a, a') ∈ P ∧ ∀ p ∈ P, d ≠ p.1 ∧ d ≠ p.2
def SepP (P : List (Addr × Addr)) : Prop := ∀ p ∈ P, ∀ q ∈ P, p = q ∨ (p.1 ≠ q.1 ∧ p.1 ≠ q.2 ∧ p.2 ≠ q.1 ∧ p.2 ≠ q.2)
structure Inv (b : Nat) (T : List (Addr × Obj)) (P : List (Addr × Addr)) (us : List Value) (ta tw : Addr) : Prop where
  cur : (ta, tw) ∈ P
  pairs : ∀ p ∈ P, PairAt prog w b T p.1 p.2
  sep : SepP P
  errs : ∀ v ∈ us, ErrAt T P v
structure Half (b : Nat) (T : List (Addr × Obj)) (P : List (Addr × Addr)) (us : List Value) (ta tw a a' : Addr) (f : List (Str × Value) → List (Str × Value)) : Prop where
  cur : (ta, tw) ∈ P
  mem : (a, a') ∈ P
  others : ∀ p ∈ P, p ≠ (a, a') → PairAt prog w b T p.1 p.2
  lo : (a == sysModules) = false ∧ (a' == sysModules) = false ∧ a ≠ a'
  there : ∃ oa ob ka kb, (a, oa) ∈ T ∧ (a', ob) ∈ T ∧ oa.IsDictOf (PySem.strKind prog w) (f ka) ∧ ob.IsDictOf (PySem.strKind prog w) kb ∧ Two T ka kb ∧ ka.length ≤ b
  sep : SepP P
  errs : ∀ v ∈ us, ErrAt T P v
end
/-- a ledger whose object at a is another one -/
def putL (T : List (Addr × Obj)) (a : Addr) (o : Obj) : List (Addr × Obj) := (a, o) :: T.filter fun p => decide (p.1 ≠ a)
section
variable {T : List (Addr × Obj)} {a : Addr} {o : Obj} {p : Addr × Obj}
theorem putL_self : (a, o) ∈ putL T a o := .head _
theorem putL_keep (hp : p ∈ T) (hn : p.1 ≠ a) : p ∈ putL T a o := .tail _ (List.mem_filter.mpr ⟨hp, decide_eq_true hn⟩)
theorem putL_cases (hp : p ∈ putL T a o) : p = (a, o) ∨ (p ∈ T ∧ p.1 ≠ a) := by
  rcases List.mem_cons.mp hp with rfl | hp
  · exact .inl rfl
  · have z := List.mem_filter.mp hp
    exact .inr ⟨z.1, of_decide_eq_true z.2⟩
end
section
variable {prog : Program} {w : World} {b : Nat} {T T' : List (Addr × Obj)} {P : List (Addr × Addr)} {us : List Value} {ta tw a a' : Addr} {f g : List (Str × Value) → List (Str × Value)}
/-- what a dict's change at x leaves of the ledger -/
structure Moved (T T' : List (Addr × Obj)) (x : Addr) : Prop where
  keep : ∀ p ∈ T, p.1 ≠ x → p ∈ T'
  tup : ∀ p ∈ T, isTup p.2 → p.1 ≠ x
  err : ∀ p ∈ T, p.2.cls = .ref 63 → p.1 ≠ x
theorem Moved.tups {x : Addr} (M : Moved T T' x) : ∀ p ∈ T, isTup p.2 → p ∈ T' := fun p hp ht => M.keep p hp (M.tup p hp ht)
theorem PairAt.moved {x c c' : Addr} (M : Moved T T' x) (h : PairAt prog w b T c c') (n1 : c ≠ x) (n2 : c' ≠ x) : PairAt prog w b T' c c' := by
  obtain ⟨l1, l2, l3, oa, ob, ka, kb, h1, h2, h3, h4, h5, h6⟩ := h
  exact ⟨l1, l2, l3, oa, ob, ka, kb, M.keep _ h1 n1, M.keep _ h2 n2, h3, h4, h5.mono M.tups, h6⟩
theorem PairAt.more {b' : Nat} {c c' : Addr} (h : PairAt prog w b T c c') (hb : b ≤ b') : PairAt prog w b' T c c' := by
  obtain ⟨l1, l2, l3, oa, ob, ka, kb, h1, h2, h3, h4, h5, h6⟩ := h
  exact ⟨l1, l2, l3, oa, ob, ka, kb, h1, h2, h3, h4, h5, Nat.le_trans h6 hb⟩
theorem PairAt.mono {c c' : Addr} (h : PairAt prog w b T c c') (k : ∀ p ∈ T, p ∈ T') : PairAt prog w b T' c c' := by
  obtain ⟨l1, l2, l3, oa, ob, ka, kb, h1, h2, h3, h4, h5, h6⟩ := h
  exact ⟨l1, l2, l3, oa, ob, ka, kb, k _ h1, k _ h2, h3, h4, h5.mono fun p hp _ => k p hp, h6⟩
theorem ErrAt.moved {x : Addr} {v : Value} (M : Moved T T' x) (h : ErrAt T P v) (hx : ∃ p ∈ P, x = p.1 ∨ x = p.2) : ErrAt T' P v := by
  obtain ⟨u, e, d, t, oe, od, c, c', h1, h2, h3, h4, h5, h6, h7, h8, h9⟩ := h
  refine ⟨u, e, d, t, oe, od, c, c', h1, M.tups _ h2 rfl, M.keep _ h3 (M.err _ h3 h6.cls), M.keep _ h4 ?_, M.tups _ h5 rfl, h6, h7, h8, h9⟩
  obtain ⟨p, hp, hx⟩ := hx
  rcases hx with rfl | rfl
  · exact (h9 p hp).1
  · exact (h9 p hp).2
theorem ErrAt.mono {v : Value} (h : ErrAt T P v) (k : ∀ p ∈ T, p ∈ T') : ErrAt T' P v := by
  obtain ⟨u, e, d, t, oe, od, c, c', h1, h2, h3, h4, h5, r⟩ := h
  exact ⟨u, e, d, t, oe, od, c, c', h1, k _ h2, k _ h3, k _ h4, k _ h5, r⟩
/-- the first of the two changes -/
theorem Inv.half (I : Inv prog w b T P us ta tw) (hp : (a, a') ∈ P) {o' ob : Obj} {ka kb : List (Str × Value)} (M : Moved T T' a) (h' : (a, o') ∈ T') (hd : o'.IsDictOf (PySem.strKind prog w) (f ka))
    (h2 : (a', ob) ∈ T) (h4 : ob.IsDictOf (PySem.strKind prog w) kb) (h5 : Two T ka kb) (h6 : ka.length ≤ b) : Half prog w b T' P us ta tw a a' f := by
  obtain ⟨l1, l2, l3, _⟩ := I.pairs _ hp
  refine ⟨I.cur, hp, fun p hq hne => (I.pairs p hq).moved M ?_ ?_, ⟨l1, l2, l3⟩, ⟨o', ob, ka, kb, h', M.keep _ h2 (Ne.symm l3), hd, h4, h5.mono M.tups, h6⟩, I.sep, fun v hv => (I.errs v hv).moved M ⟨_, hp, .inl rfl⟩⟩
  · rcases I.sep p hq _ hp with q | q
    · exact absurd q hne
    · exact q.1
  · rcases I.sep p hq _ hp with q | q
    · exact absurd q hne
    · exact q.2.2.1
theorem Half.inv (I : Half prog w b T P us ta tw a a' f) {oa o' : Obj} {ka kb : List (Str × Value)} {b' : Nat} (M : Moved T T' a') (h' : (a', o') ∈ T') (hd : o'.IsDictOf (PySem.strKind prog w) (g kb))
    (h1 : (a, oa) ∈ T) (h3 : oa.IsDictOf (PySem.strKind prog w) (f ka)) (h5 : Two T' (f ka) (g kb)) (hb : b ≤ b') (hl : (f ka).length ≤ b') : Inv prog w b' T' P us ta tw := by
  obtain ⟨l1, l2, l3⟩ := I.lo
  refine ⟨I.cur, fun p hq => ?_, I.sep, fun v hv => (I.errs v hv).moved M ⟨_, I.mem, .inr rfl⟩⟩
  by_cases hne : p = (a, a')
  · subst hne
    exact ⟨l1, l2, l3, oa, o', f ka, g kb, M.keep _ h1 l3, h', h3, hd, h5, hl⟩
  · refine ((I.others p hq hne).moved M ?_ ?_).more hb
    · rcases I.sep p hq _ I.mem with q | q
      · exact absurd q hne
      · exact q.2.1
    · rcases I.sep p hq _ I.mem with q | q
      · exact absurd q hne
      · exact q.2.2.2
end
end Mine

end

/-! XI -/
section
open PySem PySem.W PySem.Calls PyProof.Rows PyProof.V PySem.Spec
namespace Mine
/-! for x in list: a ledger that may grow from turn to turn -/
section
variable {prog : Program} {w : World} {A : Around} {E : Value → Shared → Prop} {s : Shared} {env : Env} {h₀ : Heap} {body : List Stmt} {Q : Flow → Shared → Prop}
theorem iter_names {x : Str} {px : Pos} {l : Addr} {vs : List Value} {nn : Nat} {m₀ : Str → Option Value} {news : List (Addr × Obj)} (J : Nat → (Str → Option Value) → List (Addr × Obj) → Prop)
    (hh : A.handled = none) (hl : (l, PySem.W.listOf vs.toArray nn) ∈ news) (F : Fr h₀ env.locals s.heap m₀) (N : News h₀ env.locals s.heap news) {nx₀ : List (Addr × Obj)} (hsub : ∀ p ∈ nx₀, p ∈ news) (hj : J 0 m₀ nx₀)
    (hJl : ∀ i m nx, J i m nx → (l, PySem.W.listOf vs.toArray nn) ∈ nx) (hx : env.kindOf x = some .local) (hp : (env.scope.kind == .class || (env.scope.kind == .module && env.locals != env.globals)) = false) (hE : PassesOwn (model prog w) A env E)
    (turn : ∀ i v m₁ news₁ h tk I oI, vs[i]? = some v → J i m₁ news₁ → (∀ p ∈ news₁, ∀ q ∈ [(I, oI)], p.1 ≠ q.1) → oI.cls = .type "list_iterator" → Fr h₀ env.locals h (fun y => if y = x then some v else m₁ y) → News h₀ env.locals h (news₁ ++ [(I, oI)]) →
      wpAny (model prog w) A (execs body env) (PostT h₀ env.locals (J (i + 1)) [(I, oI)] { s with heap := h, toks := tk } Q) E { s with heap := h, toks := tk })
    (done : ∀ m₁ news₁ h tk, J vs.length m₁ news₁ → Fr h₀ env.locals h m₁ → News h₀ env.locals h news₁ → Q .next { s with heap := h, toks := tk }) :
    wpAny (model prog w) A (pyIter (.ref l)) (fun it s₂ => ForAt prog w A env (.Name x px) body Q E it s₂) E s := by
  have hol : s.heap.get? l = some (PySem.W.listOf vs.toArray nn) := (N _ hl).1
  have hls : s.heap.IsList l vs.toArray := ⟨_, hol, rfl, nn, rfl⟩
  have hLs : env.locals < s.heap.objs.size := F.ns.lt
  have hab : h₀.objs.size ≤ env.locals := F.above
  refine wpAny_pyIter_list hls ?_
  have n2 : h₀.get? s.heap.objs.size = none := Heap.get?_none_of_le (Nat.le_trans hab (Nat.le_of_lt hLs))
  have hiL : s.heap.objs.size ≠ env.locals := Nat.ne_of_gt hLs
  have off0 : ∀ p ∈ nx₀, p.1 ≠ s.heap.objs.size := fun p hp => Nat.ne_of_lt (Heap.lt_size (N p (hsub p hp)).1)
  show codeAny _ _ _ _ _
  refine codeAny_forLoop_any
    (fun k s' => ∃ h' tk m' nx i, s' = { s with heap := h', toks := tk } ∧ h'.IsListIter s.heap.objs.size l i ∧ Fr h₀ env.locals h' m' ∧ News h₀ env.locals h' nx ∧ (∀ p ∈ nx, p.1 ≠ s.heap.objs.size) ∧ J i m' nx ∧ i ≤ vs.length ∧ k = vs.length + 1 - i) ?_ (vs.length + 1)
    ⟨_, s.toks, m₀, nx₀, 0, rfl, ⟨_, Heap.get?_push_size _ rfl, rfl, rfl⟩, F.push _, (fun p hp => ⟨Heap.get?_push_of_some _ (N p (hsub p hp)).1, (N p (hsub p hp)).2⟩), off0, hj, Nat.zero_le _, rfl⟩
  revert n2 hiL off0
  generalize s.heap.objs.size = it
  intro n2 hiL off0
  rintro k s' ⟨H, tk, m', nx, i, rfl, hit', F₁, N₁, off, hJ, hi, rfl⟩
  have hlm := hJl _ _ _ hJ
  have hlo : H.get? l = some (PySem.W.listOf vs.toArray nn) := (N₁ _ hlm).1
  have hl' : H.IsList l vs.toArray := ⟨_, hlo, rfl, nn, rfl⟩
  have hL0 : ∀ b o, h₀.get? b = some o → b ≠ it := fun b o q z => by rw [z, n2] at q; cases q
  cases hv : vs[i]? with
  | none =>
    have hsz : i = vs.length := Nat.le_antisymm hi (List.getElem?_eq_none_iff.mp hv)
    refine wpAny_pyNext_list_end hh hit' hl' (by simpa using hv) fun h₁ he₁ => wpAny_execs_nil ?_
    exact done m' nx h₁ tk (hsz ▸ hJ) ⟨F₁.ns.extBut he₁ (Ne.symm hiL), fun b o q => he₁ b o (hL0 b o q) (F₁.keep b o q), F₁.above⟩ (fun p hp => ⟨he₁ _ _ (off p hp) (N₁ p hp).1, (N₁ p hp).2⟩)
  | some v =>
    have hlt : i < vs.length := (List.getElem?_eq_some_iff.mp hv).1
    refine wpAny_pyNext_list_item hit' hl' (by simpa using hv) fun h₁ hit₁ hs₁ => ?_
    show wpAny _ A (pure ()) _ _ _
    refine wpAny_pure ?_
    replace hs₁ : Heap.SameBut it H h₁ := hs₁
    obtain ⟨oit, ho1, ho2, ho3⟩ := hit₁
    have F₃ : Fr h₀ env.locals h₁ m' := by
      obtain ⟨o, es, ep, ho, r⟩ := F₁.ns
      exact ⟨⟨o, es, ep, (hs₁.2 _ (Ne.symm hiL)).trans ho, r⟩, fun b o q => (hs₁.2 _ (hL0 b o q)).trans (F₁.keep b o q), F₁.above⟩
    have N₃ : News h₀ env.locals h₁ nx := fun p hp => ⟨(hs₁.2 _ (off p hp)).trans (N₁ p hp).1, (N₁ p hp).2⟩
    have O₃ : News h₀ env.locals h₁ [(it, oit)] := fun p hp => by
      rw [List.mem_singleton.mp hp]; exact ⟨ho1, hiL, n2⟩
    refine wpAny_assign_Name (wpAny_storeName_local hx F₃.ns (fun h₅ hn₅ hs₅ => ?_) hp)
    replace hs₅ : Heap.SameBut env.locals h₁ h₅ := hs₅
    have F₅ := F₃.set hn₅ hs₅
    have N₅ : News h₀ env.locals h₅ nx := N₃.set hs₅
    have O₅ := O₃.set hs₅
    refine wpAny_passesOwn hE ?_
    refine wpAny_mono (turn i v m' nx h₅ _ it oit hv hJ ?_ ho2 F₅ (fun p hp => (List.mem_append.mp hp).elim (N₅ p) (O₅ p))) (fun f s₃ h₆ => ?_) fun _ _ x => x
    · intro p hp q hq
      rw [List.mem_singleton.mp hq]; exact off p hp
    · have fin : ∀ tk5, EndT h₀ env.locals (J (i + 1)) [(it, oit)] { s with heap := h₅, toks := tk5 } s₃ → ∃ k, k < vs.length + 1 - i ∧ ∃ h' tk m' nx i, s₃ = { s with heap := h', toks := tk } ∧ h'.IsListIter it l i ∧ Fr h₀ env.locals h' m' ∧ News h₀ env.locals h' nx ∧ (∀ p ∈ nx, p.1 ≠ it) ∧ J i m' nx ∧ i ≤ vs.length ∧ k = vs.length + 1 - i := by
        rintro tk5 ⟨h₇, tk₆, m₂, nx₂, rfl, F₆, N₆, O₆, off₆, hJ₆⟩
        exact ⟨vs.length + 1 - (i + 1), by omega, h₇, tk₆, m₂, nx₂, i + 1, rfl, ⟨oit, (O₆ _ (.head _)).1, ho2, ho3⟩, F₆, N₆, fun p hp => off₆ p hp _ (.head _), hJ₆, hlt, rfl⟩
      cases f with
      | ret v => exact h₆
      | brk => exact h₆
      | next => exact fin _ h₆
      | cont => exact fin _ h₆
end
end Mine

end

/-! XJ -/
section
open PySem PySem.W PySem.Calls PyProof.Rows PyProof.V PySem.Spec
namespace Mine
/-! 05: the stations of a turn -/
section
variable {prog : Program} {w : World} {A : Around} {E : Value → Shared → Prop} {s : Shared} {h₀ : Heap} {L errs D a a' ta tw x y : Addr} {m : Str → Option Value} {b cn : Nat} {T own led : List (Addr × Obj)} {P : List (Addr × Addr)} {us ws : List Value} {c st : Str} {kt t1 t2 k1 k2 : Tok} {n : Int}
  {f : List (Str × Value) → List (Str × Value)}
abbrev base (errs D : Addr) (us ws : List Value) (cn : Nat) (T own : List (Addr × Obj)) : List (Addr × Obj) := (errs, PySem.W.listOf us.toArray cn) :: (D, PySem.W.listOf ws.toArray 0) :: (T ++ own)
/-- what the ledger of a turn keeps -/
structure Led (errs D : Addr) (us ws : List Value) (cn : Nat) (T own led : List (Addr × Obj)) : Prop where
  sub : ∀ p ∈ base errs D us ws cn T own, p ∈ led
  off : ∀ p ∈ T, p.1 ≠ errs ∧ p.1 ≠ D
  offo : ∀ p ∈ own, p.1 ≠ errs ∧ p.1 ≠ D
  eD : D ≠ errs
  apart : ∀ p ∈ T, ∀ q ∈ own, p.1 ≠ q.1
  cls : ∀ q ∈ own, q.2.cls = .type "list_iterator"
theorem Led.t (H : Led errs D us ws cn T own led) {p : Addr × Obj} (hp : p ∈ T) : p ∈ led := H.sub p (.tail _ (.tail _ (List.mem_append.mpr (.inl hp))))
theorem Led.o (H : Led errs D us ws cn T own led) {p : Addr × Obj} (hp : p ∈ own) : p ∈ led := H.sub p (.tail _ (.tail _ (List.mem_append.mpr (.inr hp))))
theorem Led.more (H : Led errs D us ws cn T own led) {led' : List (Addr × Obj)} (k : ∀ p ∈ base errs D us ws cn T own, p ∈ led') : Led errs D us ws cn T own led' := ⟨k, H.off, H.offo, H.eD, H.apart, H.cls⟩
/-- one dict of the ledger changes; a tuple comes in -/
theorem led_put {h h' : Heap} (H : Led errs D us ws cn T own led) (F : Fr h₀ L h m) (N : News h₀ L h led) {oa o' tup : Obj} (ha : (a, oa) ∈ T) (hc : oa.cls = .type "dict") (hx : (x, tup) ∈ led) (ht : isTup tup) (hs : Heap.SameBut a h h') (ho : h'.get? a = some o') :
    Fr h₀ L h' m ∧ News h₀ L h' (base errs D us ws cn ((x, tup) :: putL T a o') own) ∧ Led errs D us ws cn ((x, tup) :: putL T a o') own (base errs D us ws cn ((x, tup) :: putL T a o') own) ∧ Moved T ((x, tup) :: putL T a o') a := by
  have hm := N _ (H.t ha)
  have cls_ne : ∀ p ∈ led, p.2.cls ≠ .type "dict" → p.1 ≠ a := fun p hp hk => kind_ne N hp (H.t ha) (by rw [hc]; exact hk)
  have xa : x ≠ a := cls_ne (x, tup) hx (by rw [show tup.cls = .type "tuple" from ht]; decide)
  have e1 : (errs, PySem.W.listOf us.toArray cn) ∈ led := H.sub _ (.head _)
  have e2 : (D, PySem.W.listOf ws.toArray 0) ∈ led := H.sub _ (.tail _ (.head _))
  have keep : ∀ p ∈ led, p.1 ≠ a → h'.get? p.1 = some p.2 ∧ p.1 ≠ L ∧ h₀.get? p.1 = none := fun p hp hn => ⟨(hs.2 _ hn).trans (N p hp).1, (N p hp).2⟩
  have xT : ∀ p ∈ (x, tup) :: putL T a o', p = (a, o') ∨ (p ∈ led ∧ p.1 ≠ a) := fun p hp => by
    rcases List.mem_cons.mp hp with rfl | hp
    · exact .inr ⟨hx, xa⟩
    · rcases putL_cases hp with q | ⟨q, r⟩
      · exact .inl q
      · exact .inr ⟨H.t q, r⟩
  refine ⟨F.change hs hm.2.1 hm.2.2, fun p hp => ?_, ⟨fun _ z => z, fun p hp => ?_, H.offo, H.eD, fun p hp q hq => ?_, H.cls⟩, ⟨fun p hp hn => .tail _ (putL_keep hp hn), fun p hp hk => cls_ne p (H.t hp) (by rw [show p.2.cls = .type "tuple" from hk]; decide), fun p hp hk => cls_ne p (H.t hp) (by rw [hk]; exact fun z => nomatch z)⟩⟩
  · rcases List.mem_cons.mp hp with rfl | hp
    · exact keep _ e1 (cls_ne _ e1 (by show Value.type "list" ≠ _; decide))
    rcases List.mem_cons.mp hp with rfl | hp
    · exact keep _ e2 (cls_ne _ e2 (by show Value.type "list" ≠ _; decide))
    rcases List.mem_append.mp hp with hp | hp
    · rcases xT p hp with rfl | ⟨q, r⟩
      · exact ⟨ho, hm.2⟩
      · exact keep p q r
    · exact keep p (H.o hp) (cls_ne p (H.o hp) (by rw [H.cls p hp]; decide))
  · rcases List.mem_cons.mp hp with rfl | hp
    · exact ⟨kind_ne N hx e1 (by rw [show tup.cls = .type "tuple" from ht]; show _ ≠ Value.type "list"; decide), kind_ne N hx e2 (by rw [show tup.cls = .type "tuple" from ht]; show _ ≠ Value.type "list"; decide)⟩
    · rcases putL_cases hp with rfl | ⟨q, r⟩
      · exact H.off (a, oa) ha
      · exact H.off p q
  · rcases List.mem_cons.mp hp with rfl | hp
    · exact kind_ne N hx (H.o hq) (by rw [H.cls q hq, show tup.cls = .type "tuple" from ht]; decide)
    · rcases putL_cases hp with rfl | ⟨r, _⟩
      · exact H.apart (a, oa) ha q hq
      · exact H.apart p r q hq
theorem dict_cls {o : Obj} {kvs : List (Str × Value)} (h : o.IsDictOf (PySem.strKind prog w) kvs) : o.cls = .type "dict" := by
  obtain ⟨_, _, h, _⟩ := h
  exact h.1
theorem tab_set1 {Q : Unit → Shared → Prop} (F : Fr h₀ L s.heap m) (N : News h₀ L s.heap led) (H : Led errs D us ws cn T own led) (I : Inv prog w b T P us ta tw) (hp : (a, a') ∈ P) (hx : (x, tupObj [.int n t1, .str st k1]) ∈ led) (hb : b ≤ 100)
    (h : ∀ h' T' tk, Fr h₀ L h' m → News h₀ L h' (base errs D us ws cn T' own) → Led errs D us ws cn T' own (base errs D us ws cn T' own) → Half prog w b T' P us ta tw a a' (fun ka => PySem.stored ka c (.ref x)) → (x, tupObj [.int n t1, .str st k1]) ∈ T' → Q () { s with heap := h', toks := tk }) :
    wpAny (model prog w) A (setItem (.ref a) (.str c kt) (.ref x)) Q E s := by
  obtain ⟨l1, l2, l3, oa, ob, ka, kb, h1, h2, h3, h4, h5, h6⟩ := I.pairs _ hp
  have hm := N _ (H.t h1)
  refine wpAny_setItem_pairs (hsz := by rw [sizeLine_eq]; omega) (strKind_is _ _ _ _) (Heap.dictOf_iff.mpr ⟨oa, hm.1, h3⟩) fun h' hmm hs => ?_
  obtain ⟨o', ho', hd'⟩ := Heap.dictOf_iff.mp hmm
  obtain ⟨F', N', H', M⟩ := led_put H F N h1 (dict_cls h3) hx rfl hs ho'
  exact h h' _ _ F' N' H' (I.half hp M (.tail _ putL_self) hd' h2 h4 h5 h6) (.head _)
theorem tab_set2 {Q : Unit → Shared → Prop} (F : Fr h₀ L s.heap m) (N : News h₀ L s.heap led) (H : Led errs D us ws cn T own led) (I : Half prog w b T P us ta tw a a' (fun ka => PySem.stored ka c (.ref x))) (hx : (x, tupObj [.int n t1, .str st k1]) ∈ T) (hy : (y, tupObj [.int n t2, .str st k2]) ∈ led) (hb : b ≤ 100)
    (h : ∀ h' T' tk, Fr h₀ L h' m → News h₀ L h' (base errs D us ws cn T' own) → Led errs D us ws cn T' own (base errs D us ws cn T' own) → Inv prog w (b + 1) T' P us ta tw → Q () { s with heap := h', toks := tk }) :
    wpAny (model prog w) A (setItem (.ref a') (.str c kt) (.ref y)) Q E s := by
  obtain ⟨oa, ob, ka, kb, h1, h2, h3, h4, h5, h6⟩ := I.there
  have hm := N _ (H.t h2)
  have hl := h5.length
  refine wpAny_setItem_pairs (hsz := by rw [sizeLine_eq]; omega) (strKind_is _ _ _ _) (Heap.dictOf_iff.mpr ⟨ob, hm.1, h4⟩) fun h' hmm hs => ?_
  obtain ⟨o', ho', hd'⟩ := Heap.dictOf_iff.mp hmm
  obtain ⟨F', N', H', M⟩ := led_put H F N h2 (dict_cls h4) hy rfl hs ho'
  refine h h' _ _ F' N' H' (I.inv (g := fun kb => PySem.stored kb c (.ref y)) M (.tail _ putL_self) hd' h1 h3 ?_ (Nat.le_succ _) (Nat.le_trans (PySem.stored_length_le _ _ _) (Nat.succ_le_succ h6)))
  exact (h5.mono M.tups).stored ⟨x, y, n, t1, t2, st, k1, k2, rfl, rfl, M.tups _ hx rfl, .head _⟩
theorem Led.moved {h : Heap} (H : Led errs D us ws cn T own led) (N : News h₀ L h led) {oa : Obj} (ha : (a, oa) ∈ T) (hc : oa.cls = .type "dict") : Moved T T a :=
  ⟨fun _ hp _ => hp, fun p hp hk => kind_ne N (H.t hp) (H.t ha) (by rw [hc, show p.2.cls = .type "tuple" from hk]; decide), fun p hp hk => kind_ne N (H.t hp) (H.t ha) (by rw [hk, hc]; exact fun z => nomatch z)⟩
theorem led_put0 {h h' : Heap} (H : Led errs D us ws cn T own led) (F : Fr h₀ L h m) (N : News h₀ L h led) {oa o' : Obj} (ha : (a, oa) ∈ T) (hc : oa.cls = .type "dict") (hs : Heap.SameBut a h h') (ho : h'.get? a = some o') :
    Fr h₀ L h' m ∧ News h₀ L h' (base errs D us ws cn (putL T a o') own) ∧ Led errs D us ws cn (putL T a o') own (base errs D us ws cn (putL T a o') own) ∧ Moved T (putL T a o') a := by
  have hm := N _ (H.t ha)
  have cls_ne : ∀ p ∈ led, p.2.cls ≠ .type "dict" → p.1 ≠ a := fun p hp hk => kind_ne N hp (H.t ha) (by rw [hc]; exact hk)
  have e1 : (errs, PySem.W.listOf us.toArray cn) ∈ led := H.sub _ (.head _)
  have e2 : (D, PySem.W.listOf ws.toArray 0) ∈ led := H.sub _ (.tail _ (.head _))
  have keep : ∀ p ∈ led, p.1 ≠ a → h'.get? p.1 = some p.2 ∧ p.1 ≠ L ∧ h₀.get? p.1 = none := fun p hp hn => ⟨(hs.2 _ hn).trans (N p hp).1, (N p hp).2⟩
  refine ⟨F.change hs hm.2.1 hm.2.2, fun p hp => ?_, ⟨fun _ z => z, fun p hp => ?_, H.offo, H.eD, fun p hp q hq => ?_, H.cls⟩, ⟨fun p hp hn => putL_keep hp hn, (H.moved N ha hc).tup, (H.moved N ha hc).err⟩⟩
  · rcases List.mem_cons.mp hp with rfl | hp
    · exact keep _ e1 (cls_ne _ e1 (by show Value.type "list" ≠ _; decide))
    rcases List.mem_cons.mp hp with rfl | hp
    · exact keep _ e2 (cls_ne _ e2 (by show Value.type "list" ≠ _; decide))
    rcases List.mem_append.mp hp with hp | hp
    · rcases putL_cases hp with rfl | ⟨q, r⟩
      · exact ⟨ho, hm.2⟩
      · exact keep p (H.t q) r
    · exact keep p (H.o hp) (cls_ne p (H.o hp) (by rw [H.cls p hp]; decide))
  · rcases putL_cases hp with rfl | ⟨q, r⟩
    · exact H.off (a, oa) ha
    · exact H.off p q
  · rcases putL_cases hp with rfl | ⟨r, _⟩
    · exact H.apart (a, oa) ha q hq
    · exact H.apart p r q hq
theorem tab_pop1 {Q : Value → Shared → Prop} (F : Fr h₀ L s.heap m) (N : News h₀ L s.heap led) (H : Led errs D us ws cn T own led) (I : Inv prog w b T P us ta tw) (hp : (a, a') ∈ P) (hb : b ≤ 100)
    (h : ∀ v h' T' tk, Fr h₀ L h' m → News h₀ L h' (base errs D us ws cn T' own) → Led errs D us ws cn T' own (base errs D us ws cn T' own) → Half prog w b T' P us ta tw a a' (fun ka => PySem.without ka c) → Q v { s with heap := h', toks := tk }) :
    wpAny (model prog w) A (call (.builtin "dict.pop") [.ref a, .str c kt, .none]) Q E s := by
  obtain ⟨l1, l2, l3, oa, ob, ka, kb, h1, h2, h3, h4, h5, h6⟩ := I.pairs _ hp
  have hm := N _ (H.t h1)
  have hD : s.heap.DictOf (PySem.strKind prog w) a ka := Heap.dictOf_iff.mpr ⟨oa, hm.1, h3⟩
  cases hv : valueAt ka c with
  | none =>
    refine call_meetsIn PySem.F.slot_dict_pop hD.typeIs PySem.F.entry_dict_pop (PySem.F.args_dict_pop_3 _ _ _) (meets_dict_pop_default (PySem.strKind prog w) a (strKind_is _ _ _ _) l1 (by rfl) .none) ⟨ka, hD, hv, ?_⟩
    exact h .none s.heap T _ F (fun p hp => N p (H.sub p hp)) (H.more fun _ z => z) (I.half hp (H.moved N h1 (dict_cls h3)) h1 (by rw [without_none hv]; exact h3) h2 h4 h5 h6)
  | some v =>
    refine call_meetsIn PySem.F.slot_dict_pop hD.typeIs PySem.F.entry_dict_pop (PySem.F.args_dict_pop_3 _ _ _) (meets_dict_pop_there (PySem.strKind prog w) a (strKind_is _ _ _ _) [.none] (.inr ⟨_, rfl⟩) (by rfl)) ⟨ka, v, hD, by rw [sizeLine_eq]; omega, hv, fun h' hmm hs => ?_⟩
    obtain ⟨o', ho', hd'⟩ := Heap.dictOf_iff.mp hmm
    obtain ⟨F', N', H', M⟩ := led_put0 H F N h1 (dict_cls h3) hs ho'
    exact h v h' _ _ F' N' H' (I.half hp M putL_self hd' h2 h4 h5 h6)
theorem tab_pop2 {Q : Value → Shared → Prop} (F : Fr h₀ L s.heap m) (N : News h₀ L s.heap led) (H : Led errs D us ws cn T own led) (I : Half prog w b T P us ta tw a a' (fun ka => PySem.without ka c)) (hb : b ≤ 100)
    (h : ∀ v h' T' tk, Fr h₀ L h' m → News h₀ L h' (base errs D us ws cn T' own) → Led errs D us ws cn T' own (base errs D us ws cn T' own) → Inv prog w (b + 1) T' P us ta tw → Q v { s with heap := h', toks := tk }) :
    wpAny (model prog w) A (call (.builtin "dict.pop") [.ref a', .str c kt, .none]) Q E s := by
  obtain ⟨oa, ob, ka, kb, h1, h2, h3, h4, h5, h6⟩ := I.there
  have hm := N _ (H.t h2)
  have hl := h5.length
  have hD : s.heap.DictOf (PySem.strKind prog w) a' kb := Heap.dictOf_iff.mpr ⟨ob, hm.1, h4⟩
  have hz : (PySem.without ka c).length ≤ b + 1 := Nat.le_trans (Nat.le_trans (length_without c) h6) (Nat.le_succ _)
  cases hv : valueAt kb c with
  | none =>
    refine call_meetsIn PySem.F.slot_dict_pop hD.typeIs PySem.F.entry_dict_pop (PySem.F.args_dict_pop_3 _ _ _) (meets_dict_pop_default (PySem.strKind prog w) a' (strKind_is _ _ _ _) I.lo.2.1 (by rfl) .none) ⟨kb, hD, hv, ?_⟩
    exact h .none s.heap T _ F (fun p hp => N p (H.sub p hp)) (H.more fun _ z => z) (I.inv (g := fun kb => PySem.without kb c) (H.moved N h2 (dict_cls h4)) h2 (by rw [without_none hv]; exact h4) h1 h3 (h5.without c) (Nat.le_succ _) hz)
  | some v =>
    refine call_meetsIn PySem.F.slot_dict_pop hD.typeIs PySem.F.entry_dict_pop (PySem.F.args_dict_pop_3 _ _ _) (meets_dict_pop_there (PySem.strKind prog w) a' (strKind_is _ _ _ _) [.none] (.inr ⟨_, rfl⟩) (by rfl)) ⟨kb, v, hD, by rw [sizeLine_eq]; omega, hv, fun h' hmm hs => ?_⟩
    obtain ⟨o', ho', hd'⟩ := Heap.dictOf_iff.mp hmm
    obtain ⟨F', N', H', M⟩ := led_put0 H F N h2 (dict_cls h4) hs ho'
    exact h v h' _ _ F' N' H' (I.inv (g := fun kb => PySem.without kb c) M putL_self hd' h1 h3 ((h5.mono M.tups).without c) (Nat.le_succ _) hz)
end
end Mine

end

/-! R05 -/
section
open PySem PySem.W PyProof.Rows
set_option maxHeartbeats 3000000
namespace Mine
local macro_rules | `(tactic| walk_at "getAttr ref") => `(tactic| (k_here; (with_reducible show wpAny _ _ (getAttr (Value.ref _) (Str.ofString "args") _) _ _ _); k_dflt (refine get_args (by k_asm) (by k_asm) (by k_asm) (by assumption) (by assumption) (by k_mem) (by k_mem) ?_)))
local macro_rules | `(tactic| walk_at "getAttr ref") => `(tactic| (k_here; (with_reducible show wpAny _ _ (getAttr (Value.ref _) (Str.ofString "smtp_code") _) _ _ _); k_dflt (first
  | (refine get_own (by k_asm) (by k_asm) (by k_asm) (by assumption) (by assumption) (by k_mem) (by k_mem) en1 (by with_reducible assumption) (by with_reducible assumption) ?_)
  | (refine get_miss (by k_asm) (by k_asm) (by k_asm) (by assumption) (by assumption) (by k_mem) (by k_mem) en1 (by with_reducible assumption) rfl ?_; intro h' tk' e' hx'))))
local macro_rules | `(tactic| walk_at "getAttr ref") => `(tactic| (k_here; (with_reducible show wpAny _ _ (getAttr (Value.ref _) (Str.ofString "smtp_error") _) _ _ _); k_dflt (first
  | (refine get_own (by k_asm) (by k_asm) (by k_asm) (by assumption) (by assumption) (by k_mem) (by k_mem) en2 (by with_reducible assumption) (by with_reducible assumption) ?_)
  | (refine get_miss (by k_asm) (by k_asm) (by k_asm) (by assumption) (by assumption) (by k_mem) (by k_mem) en2 (by with_reducible assumption) rfl ?_; intro h' tk' e' hx'))))
local macro_rules | `(tactic| walk_at "getAttr ref") => `(tactic| (k_here; (with_reducible show wpAny _ _ (getAttr (Value.ref _) (Str.ofString "sender") _) _ _ _); k_dflt (first
  | (refine get_own (by k_asm) (by k_asm) (by k_asm) (by assumption) (by assumption) (by k_mem) (by k_mem) en3 (by with_reducible assumption) (by with_reducible assumption) ?_)
  | (refine get_miss (by k_asm) (by k_asm) (by k_asm) (by assumption) (by assumption) (by k_mem) (by k_mem) en3 (by with_reducible assumption) rfl ?_; intro h' tk' e' hx'))))
local macro_rules | `(tactic| walk_at "getAttr ref") => `(tactic| (k_here; (with_reducible show wpAny _ _ (getAttr (Value.ref _) (Str.ofString "recipients") _) _ _ _); k_dflt (first
  | (refine get_own (by k_asm) (by k_asm) (by k_asm) (by assumption) (by assumption) (by k_mem) (by k_mem) en4 (by with_reducible assumption) (by with_reducible assumption) ?_)
  | (refine get_miss (by k_asm) (by k_asm) (by k_asm) (by assumption) (by assumption) (by k_mem) (by k_mem) en4 (by with_reducible assumption) rfl ?_; intro h' tk' e' hx'))))
local macro_rules | `(tactic| walk_at "noteFrame ref") => `(tactic| (k_here; k_dflt (refine' caught_attr rfl rfl ?kk ?kc ?klt ?knl ?khx ?kF ?kN ?kX ?kT ?kex ?_ rfl rfl ?kE; (case khx => assumption); (case kF => assumption); (case kN => assumption); (case kc => assumption); (case knl => assumption); (case klt => first | assumption | exact And.left (by assumption)); (case kk => assumption); (case kX => assumption); (case kT => assumption); (case kex => k_is); (case kE => passes_own)); intro h' sl' F' N'))
theorem read_reply (w : World) (mean : ExcName → Option Value) (mg mb : Str → Option Value) (loose : List Str) (ns : List Int) (C e d t : Addr) (oe od ot : Obj) (v1 v2 : Value) (news : List (Addr × Obj)) (dp un : Nat) (gd : Option (List Code)) (cn : Str) (cs : Scope) (a : Addr) (ccd : Value) (h₀ : Heap) (L : Addr) (m : Str → Option Value) (s : Shared) (Q E : Value → Shared → Prop)
    (F : Fr h₀ L s.heap m) (X : (hd.heap_39 w.params).In h₀) (N : News h₀ L s.heap ((e, oe) :: (d, od) :: (t, ot) :: news)) (T : Top hd.view_39 loose mean mg mb h₀) (hk : cs.kind = .function) (hdp : dp + 1 < recursionLimit) (hun : un + 8 < cLine)
    (hC : ErrCls (hd.heap_39 w.params) C) (ho : ErrObj C d t oe) (hl1 : lookIn (Str.ofString "smtp_code") od = some (some v1)) (hl2 : lookIn (Str.ofString "smtp_error") od = some (some v2)) (hl3 : lookIn (Str.ofString "sender") od = some (none)) (hl4 : lookIn (Str.ofString "recipients") od = some (none)) (hv1 : handedIn v1 = true) (hv2 : handedIn v2 = true)
    (hret : ∀ D oD h' tk, (D == sysModules) = false → Obj.IsDictOf (PySem.strKind PySem.Challenge.rw_dn0159_05.row.prog w) oD [(Str.ofString "args", Value.ref t), (Str.ofString "code", v1), (Str.ofString "msg", v2)] → Fr h₀ L h' m → News h₀ L h' ((D, oD) :: (e, oe) :: (d, od) :: (t, ot) :: news) → (e < D ∧ d < D ∧ t < D ∧ AllLt D news) → Q (.ref D) { s with heap := h', toks := tk }) :
    wpAny (model PySem.Challenge.rw_dn0159_05.row.prog w) (ktrTop dp un gd cn cs L a ccd [] []) (call (.ref 72) [.ref e]) Q E s := by
  w_top off
  revert X hC; k_fill; intro X hC
  have kMark : KstMark := kstMark
  refine wpAny_call ?_
  refine TLgL.code_def F X N T (by rfl) (by k_is) (by k_is) (by ktr_room) (by first | exact binds_K (by k_in) rfl (by k_is) rfl rfl rfl | exact BindsTo.of_eq rfl) (locs rfl) ?_ hk
  intro oL h₁ tiC tiF tiE F' N'
  have N'' : News h₀ s.heap.objs.size h₁ ((L, oL) :: (e, oe) :: (d, od) :: (t, ot) :: news) := fun p hp => N' p (by
    rcases List.mem_cons.mp hp with rfl | hp
    · exact List.mem_append.mpr (.inr (.head _))
    · exact List.mem_append.mpr (.inl hp))
  clear N' N F
  k_steps
  rename_i FF NN
  rename (_ < _ ∧ _ < _ ∧ _ < _ ∧ _ < _ ∧ AllLt _ _) => l1
  obtain ⟨F2, N2⟩ := leave_in tiC (by assumption) (by assumption) l1.1 tiE
  exact hret _ _ _ _ (by assumption) (by assumption) F2 N2 l1.2
theorem read_sender (w : World) (mean : ExcName → Option Value) (mg mb : Str → Option Value) (loose : List Str) (ns : List Int) (C e d t : Addr) (oe od ot : Obj) (v1 v2 v3 : Value) (news : List (Addr × Obj)) (dp un : Nat) (gd : Option (List Code)) (cn : Str) (cs : Scope) (a : Addr) (ccd : Value) (h₀ : Heap) (L : Addr) (m : Str → Option Value) (s : Shared) (Q E : Value → Shared → Prop)
    (F : Fr h₀ L s.heap m) (X : (hd.heap_39 w.params).In h₀) (N : News h₀ L s.heap ((e, oe) :: (d, od) :: (t, ot) :: news)) (T : Top hd.view_39 loose mean mg mb h₀) (hk : cs.kind = .function) (hdp : dp + 1 < recursionLimit) (hun : un + 8 < cLine)
    (hC : ErrCls (hd.heap_39 w.params) C) (ho : ErrObj C d t oe) (hl1 : lookIn (Str.ofString "smtp_code") od = some (some v1)) (hl2 : lookIn (Str.ofString "smtp_error") od = some (some v2)) (hl3 : lookIn (Str.ofString "sender") od = some (some v3)) (hl4 : lookIn (Str.ofString "recipients") od = some (none)) (hv1 : handedIn v1 = true) (hv2 : handedIn v2 = true) (hv3 : handedIn v3 = true)
    (hret : ∀ D oD h' tk, (D == sysModules) = false → Obj.IsDictOf (PySem.strKind PySem.Challenge.rw_dn0159_05.row.prog w) oD [(Str.ofString "args", Value.ref t), (Str.ofString "code", v1), (Str.ofString "msg", v2), (Str.ofString "sender", v3)] → Fr h₀ L h' m → News h₀ L h' ((D, oD) :: (e, oe) :: (d, od) :: (t, ot) :: news) → (e < D ∧ d < D ∧ t < D ∧ AllLt D news) → Q (.ref D) { s with heap := h', toks := tk }) :
    wpAny (model PySem.Challenge.rw_dn0159_05.row.prog w) (ktrTop dp un gd cn cs L a ccd [] []) (call (.ref 72) [.ref e]) Q E s := by
  w_top off
  revert X hC; k_fill; intro X hC
  have kMark : KstMark := kstMark
  refine wpAny_call ?_
  refine TLgL.code_def F X N T (by rfl) (by k_is) (by k_is) (by ktr_room) (by first | exact binds_K (by k_in) rfl (by k_is) rfl rfl rfl | exact BindsTo.of_eq rfl) (locs rfl) ?_ hk
  intro oL h₁ tiC tiF tiE F' N'
  have N'' : News h₀ s.heap.objs.size h₁ ((L, oL) :: (e, oe) :: (d, od) :: (t, ot) :: news) := fun p hp => N' p (by
    rcases List.mem_cons.mp hp with rfl | hp
    · exact List.mem_append.mpr (.inr (.head _))
    · exact List.mem_append.mpr (.inl hp))
  clear N' N F
  k_steps
  rename_i FF NN
  rename (_ < _ ∧ _ < _ ∧ _ < _ ∧ _ < _ ∧ AllLt _ _) => l1
  obtain ⟨F2, N2⟩ := leave_in tiC (by assumption) (by assumption) l1.1 tiE
  exact hret _ _ _ _ (by assumption) (by assumption) F2 N2 l1.2
theorem read_rcpt (w : World) (mean : ExcName → Option Value) (mg mb : Str → Option Value) (loose : List Str) (ns : List Int) (C e d t : Addr) (oe od ot : Obj) (v4 : Value) (news : List (Addr × Obj)) (dp un : Nat) (gd : Option (List Code)) (cn : Str) (cs : Scope) (a : Addr) (ccd : Value) (h₀ : Heap) (L : Addr) (m : Str → Option Value) (s : Shared) (Q E : Value → Shared → Prop)
    (F : Fr h₀ L s.heap m) (X : (hd.heap_39 w.params).In h₀) (N : News h₀ L s.heap ((e, oe) :: (d, od) :: (t, ot) :: news)) (T : Top hd.view_39 loose mean mg mb h₀) (hk : cs.kind = .function) (hdp : dp + 1 < recursionLimit) (hun : un + 8 < cLine)
    (hC : ErrCls (hd.heap_39 w.params) C) (ho : ErrObj C d t oe) (hl1 : lookIn (Str.ofString "smtp_code") od = some (none)) (hl2 : lookIn (Str.ofString "smtp_error") od = some (none)) (hl3 : lookIn (Str.ofString "sender") od = some (none)) (hl4 : lookIn (Str.ofString "recipients") od = some (some v4)) (hv4 : handedIn v4 = true)
    (hret : ∀ D oD h' tk, (D == sysModules) = false → Obj.IsDictOf (PySem.strKind PySem.Challenge.rw_dn0159_05.row.prog w) oD [(Str.ofString "args", Value.ref t), (Str.ofString "recipients", v4)] → Fr h₀ L h' m → News h₀ L h' ((D, oD) :: (e, oe) :: (d, od) :: (t, ot) :: news) → (e < D ∧ d < D ∧ t < D ∧ AllLt D news) → Q (.ref D) { s with heap := h', toks := tk }) :
    wpAny (model PySem.Challenge.rw_dn0159_05.row.prog w) (ktrTop dp un gd cn cs L a ccd [] []) (call (.ref 72) [.ref e]) Q E s := by
  w_top off
  revert X hC; k_fill; intro X hC
  have kMark : KstMark := kstMark
  refine wpAny_call ?_
  refine TLgL.code_def F X N T (by rfl) (by k_is) (by k_is) (by ktr_room) (by first | exact binds_K (by k_in) rfl (by k_is) rfl rfl rfl | exact BindsTo.of_eq rfl) (locs rfl) ?_ hk
  intro oL h₁ tiC tiF tiE F' N'
  have N'' : News h₀ s.heap.objs.size h₁ ((L, oL) :: (e, oe) :: (d, od) :: (t, ot) :: news) := fun p hp => N' p (by
    rcases List.mem_cons.mp hp with rfl | hp
    · exact List.mem_append.mpr (.inr (.head _))
    · exact List.mem_append.mpr (.inl hp))
  clear N' N F
  k_steps
  rename_i FF NN
  rename (_ < _ ∧ _ < _ ∧ _ < _ ∧ _ < _ ∧ AllLt _ _) => l1
  obtain ⟨F2, N2⟩ := leave_in tiC (by assumption) (by assumption) l1.1 tiE
  exact hret _ _ _ _ (by assumption) (by assumption) F2 N2 l1.2
end Mine

end

/-! M05 -/
section
open PySem PySem.W PyProof.Rows
set_option maxHeartbeats 8000000
namespace Mine
open PySem.W.X
local macro_rules | `(tactic| x_close) => `(tactic| first
  | exact ⟨_, _, _, _, _, _, _, _, _, _, _, rfl, rfl, by assumption, ⟨rfl, rfl, _, rfl, rfl⟩, ⟨_, rfl, rfl⟩, by kernel_rfl, by kernel_rfl, by kernel_rfl, by kernel_rfl⟩
  | fail "left")
theorem mk63 (w : World) (s : Shared) (v1 : Value) (X : (hd.heap_39 w.params).In s.heap) :
    wpAny (model PySem.Challenge.rw_dn0159_05.row.prog w) A9 (call (.ref 63) [v1]) (MadeQ s 63 [v1] none none none (some v1)) (fun _ _ => False) s := by
  revert X; k_fill; intro X
  x_run
end Mine

end

/-! W05 -/
section
open PySem PySem.W PyProof.Rows
set_option maxHeartbeats 3000000
namespace Mine
theorem cls63 (P : Params) : ErrCls (hd.heap_39 P) 63 := errCls_of (by kernel_rfl)
theorem typ63 (P : Params) : typeIn (hd.heap_39 P) (.ref 63) = some (.type "type") := by kernel_rfl
theorem raise_end2 {h₀ h h1 : Heap} {L L' e d t T : Addr} {m m' m1 : Str → Option Value} {oe od ot oT oL oL0 : Obj} {sl : Array (Option Value)} {news : List (Addr × Obj)} (Cl : TI.Caller h₀ L m' oL) (F : Fr h₀ L' h m) (N : News h₀ L' h ((e, oe) :: (T, oT) :: (L, { oL with slots := sl }) :: (t, ot) :: (d, od) :: news)) (H : Held h₀ L' h1 m1 ((L, { oL with slots := sl }) :: (t, ot) :: (d, od) :: news) e oe T oT)
    (ap : Apart3 e d t ((L, oL0) :: news)) (hnL : ∀ p ∈ news, p.1 ≠ L) :
    Fr h₀ L h m' ∧ News h₀ L h ((e, oe) :: (t, ot) :: (d, od) :: news) := by
  refine leave_any Cl F N (.tail _ (.tail _ (.head _))) fun p hp => ?_
  rcases List.mem_cons.mp hp with rfl | hp
  · exact ⟨.head _, Ne.symm (ap.e _ (.head _))⟩
  rcases List.mem_cons.mp hp with rfl | hp
  · exact ⟨.tail _ (.tail _ (.tail _ (.head _))), Ne.symm (ap.t _ (.head _))⟩
  rcases List.mem_cons.mp hp with rfl | hp
  · exact ⟨.tail _ (.tail _ (.tail _ (.tail _ (.head _)))), Ne.symm (ap.d _ (.head _))⟩
  · exact ⟨.tail _ (.tail _ (.tail _ (.tail _ (.tail _ hp)))), hnL p hp⟩
local macro_rules | `(tactic| walk_at "exec Raise some none") => `(tactic| (k_here; (with_reducible show wpAny _ _ (exec (Stmt.Raise (some (Expr.Call _ _ _ _)) none _) _) _ _ _); k_dflt (refine raise_stmt' (by k_asm) rfl ?_)))
local macro_rules | `(tactic| walk_at "call ref") => `(tactic| (k_here; (with_reducible show wpAny _ _ (call (Value.ref 63) [_]) _ _ _); k_dflt (refine' made_use (mk63 _ _ _ ?kX) rfl ?kd ?ku ?kF ?kN ?_; (case kF => k_asm); (case kN => k_asm); (case kX => exact Frag.In.keeps (by k_asm) (Fr.keep (by k_asm))); (case kd => exact dp_ok (by assumption)); (case ku => exact un_ok (by assumption))); intro e' d' t' oe' od' h' tk' ho' hn' ha' F' N' ap'))
local macro_rules | `(tactic| walk_at "RaiseAt") => `(tactic| (k_here; k_dflt (refine' raise_at ?kX ?kF ?kN ?kC ?kt ?km ?ko ?kn ?_; (case kF => k_asm); (case kN => k_asm); (case kX => k_asm); (case ko => assumption); (case kn => assumption); (case kC => assumption); (case kt => assumption); (case km => k_mem))))
local macro_rules | `(tactic| walk_at "noteFrame ref") => `(tactic| (k_here; (with_reducible rename TbNone _ => hn); k_dflt (refine' raised_first rfl rfl ?kk ?kc ?knl ?kF ?kN ?ko hn ?kap rfl ?_; (case kF => assumption); (case kN => assumption); (case ko => assumption); (case kc => assumption); (case kap => assumption); (case knl => assumption); (case kk => assumption)); intro h' sl' T' oT' oe' ho' H'))
local macro_rules | `(tactic| walk_at "handleBy ref") => `(tactic| (k_here; (with_reducible rename Held _ _ _ _ _ _ _ _ _ => hH); (with_reducible rename ErrObj _ _ _ _ => hO); k_dflt (first
  | (refine' held_pass hH (ErrObj.cls hO) ?kX ?kT ?kt ?_; (case kX => k_asm); (case kT => exact topRead_of (by k_asm)); (case kt => kts_test); clear hH; intro h' H')
  | (refine' held_hitB hH (ErrObj.cls hO) ?kX ?kT ?kt ?_ rfl rfl; (case kX => k_asm); (case kT => exact topRead_of (by k_asm)); (case kt => kts_test); clear hH; intro h' oT' tk' H' l'; have F' := H'.fr; have N' := H'.nw))))
theorem raise_r (w : World) (mean : ExcName → Option Value) (mg mb : Str → Option Value) (loose : List Str) (v : Value) (news : List (Addr × Obj)) (dp un : Nat) (gd : Option (List Code)) (cn : Str) (cs : Scope) (a : Addr) (ccd : Value) (h₀ : Heap) (L : Addr) (m : Str → Option Value) (s : Shared) (Q E : Value → Shared → Prop)
    (F : Fr h₀ L s.heap m) (X : (hd.heap_39 w.params).In h₀) (N : News h₀ L s.heap news) (T : Top hd.view_39 loose mean mg mb h₀) (hk : cs.kind = .function) (hdp : dp + 1 < 800) (hun : un + 8 < 90)
    (hret : ∀ e d t oe od h' tk, ErrObj 63 d t oe → Attrs od none none none (some v) → Fr h₀ L h' m → News h₀ L h' ((e, oe) :: (t, tupObj [v]) :: (d, od) :: news) → Apart3 e d t news → Q (.ref e) { s with heap := h', toks := tk }) :
    wpAny (model PySem.Challenge.rw_dn0159_05.row.prog w) (ktrTop dp un gd cn cs L a ccd [] []) (call (.ref 79) [v]) Q E s := by
  w_top off
  have hC := cls63 w.params
  have hty := typ63 w.params
  revert X hC hty; k_fill; intro X hC hty
  have kMark : KstMark := kstMark
  refine wpAny_call ?_
  refine TLgL.code_def F X N T (by rfl) (by k_is) (by k_is) (rm_ok hdp) (by first | exact binds_K (by k_in) rfl (by k_is) rfl rfl rfl | exact BindsTo.of_eq rfl) (locs rfl) ?_ hk
  intro oL h₁ tiC tiF tiE F' N'
  have N'' : News h₀ s.heap.objs.size h₁ ((L, oL) :: news) := fun p hp => N' p (by
    rcases List.mem_cons.mp hp with rfl | hp
    · exact List.mem_append.mpr (.inr (.head _))
    · exact List.mem_append.mpr (.inl hp))
  clear N' N F
  k_steps
  rename Held _ _ _ _ _ _ _ _ _ => hH
  rename Apart3 _ _ _ _ => ap
  obtain ⟨F2, N2⟩ := raise_end2 (by assumption) (by assumption) (by assumption) hH ap (by assumption)
  exact hret _ _ _ _ _ _ _ (by assumption) (by assumption) F2 N2 ⟨ap.td, ap.te, ap.de, fun p hp => ap.e p (.tail _ hp), fun p hp => ap.d p (.tail _ hp), fun p hp => ap.t p (.tail _ hp)⟩
end Mine

end

/-! L05 -/
section
open PySem PySem.W PySem.Calls PyProof.Rows PyProof.V PySem.Spec
namespace Mine
/-! 05: the first loop -/
abbrev turn05 : List Str := [Str.ofString "way", Str.ofString "rest", Str.ofString "address", Str.ofString "elder", Str.ofString "live", Str.ofString "kept", Str.ofString "error", Str.ofString "other", Str.ofString "table", Str.ofString "twin"]
def Kept5 (prog : Program) (w : World) (errs D : Addr) (ws : List Value) (m₀ : Str → Option Value) (i : Nat) (m : Str → Option Value) (nx : List (Addr × Obj)) : Prop :=
  ∃ (us : List Value) (cn : Nat) (T : List (Addr × Obj)) (P : List (Addr × Addr)) (ta tw : Addr), nx = (errs, PySem.W.listOf us.toArray cn) :: (D, PySem.W.listOf ws.toArray 0) :: T ∧ Inv prog w (i + 1) T P us ta tw ∧ us ≠ [] ∧ us.length ≤ i + 1 ∧ (∀ p ∈ T, p.1 ≠ errs ∧ p.1 ≠ D) ∧ D ≠ errs ∧
    m (Str.ofString "table") = some (.ref ta) ∧ m (Str.ofString "twin") = some (.ref tw) ∧ ∀ z, z ≠ Str.ofString "n" → turn05.contains z = false → m z = m₀ z
theorem frame5 {m m₀ : Str → Option Value} {ta tw : Addr} (h1 : m (Str.ofString "table") = some (.ref ta)) (h2 : m (Str.ofString "twin") = some (.ref tw)) (h : ∀ z, z ≠ Str.ofString "n" → turn05.contains z = false → m z = m₀ z) (v : Option Value) :
    ∀ y, (if y = Str.ofString "n" then v else m y) = (if y = Str.ofString "n" then v else if y = Str.ofString "table" then some (.ref ta) else if y = Str.ofString "twin" then some (.ref tw) else if turn05.contains y then m y else m₀ y) := fun y => by
  by_cases y1 : y = Str.ofString "n"
  · simp [y1]
  · by_cases y2 : y = Str.ofString "table"
    · rw [if_neg y1, if_neg y1, if_pos y2, y2, h1]
    · by_cases y3 : y = Str.ofString "twin"
      · rw [if_neg y1, if_neg y1, if_neg y2, if_pos y3, y3, h2]
      · rw [if_neg y1, if_neg y1, if_neg y2, if_neg y3]
        cases y4 : turn05.contains y with
        | true => simp
        | false => simpa using h y y1 y4
section
variable {prog : Program} {w : World} {A : Around} {E : Value → Shared → Prop} {s : Shared} {env : Env} {h₀ : Heap} {body : List Stmt} {Q : Flow → Shared → Prop}
theorem iter5_1 {px : Pos} {errs D ta₀ tw₀ : Addr} {ws us₀ : List Value} {cn₀ : Nat} {T₀ led : List (Addr × Obj)} {P₀ : List (Addr × Addr)} {ns : List Int} {m₀ : Str → Option Value}
    (hh : A.handled = none) (hi : IntsAre ws ns) (h63 : ns.length ≤ 63) (F : Fr h₀ env.locals s.heap m₀) (N : News h₀ env.locals s.heap led) (hsub : ∀ p ∈ (errs, PySem.W.listOf us₀.toArray cn₀) :: (D, PySem.W.listOf ws.toArray 0) :: T₀, p ∈ led)
    (I₀ : Inv prog w 1 T₀ P₀ us₀ ta₀ tw₀) (hne : us₀ ≠ []) (h1 : us₀.length ≤ 1) (off₀ : ∀ p ∈ T₀, p.1 ≠ errs ∧ p.1 ≠ D) (eD : D ≠ errs) (e1 : m₀ (Str.ofString "table") = some (.ref ta₀)) (e2 : m₀ (Str.ofString "twin") = some (.ref tw₀))
    (hx : env.kindOf (Str.ofString "n") = some .local) (hp : (env.scope.kind == .class || (env.scope.kind == .module && env.locals != env.globals)) = false) (hE : PassesOwn (model prog w) A env E)
    (turn : ∀ (i : Nat) (n : Int) (nt : Tok) (us : List Value) (cn : Nat) (T : List (Addr × Obj)) (P : List (Addr × Addr)) (ta tw : Addr) (u : Str → Option Value) (h : Heap) (tk : Nat) (it : Addr) (oit : Obj), KstMark → i < 63 → us ≠ [] → us.length ≤ i + 1 → Inv prog w (i + 1) T P us ta tw →
      Led errs D us ws cn T [(it, oit)] (base errs D us ws cn T [(it, oit)]) →
      Fr h₀ env.locals h (fun y => if y = Str.ofString "n" then some (.int n nt) else if y = Str.ofString "table" then some (.ref ta) else if y = Str.ofString "twin" then some (.ref tw) else if turn05.contains y then u y else m₀ y) →
      News h₀ env.locals h ((errs, PySem.W.listOf us.toArray cn) :: (D, PySem.W.listOf ws.toArray 0) :: (T ++ [(it, oit)])) →
      wpAny (model prog w) A (execs body env) (PostT h₀ env.locals (Kept5 prog w errs D ws m₀ (i + 1)) [(it, oit)] { s with heap := h, toks := tk } Q) E { s with heap := h, toks := tk })
    (done : ∀ (us : List Value) (cn : Nat) (T : List (Addr × Obj)) (P : List (Addr × Addr)) (ta tw : Addr) (u : Str → Option Value) (h : Heap) (tk : Nat), KstMark → Inv prog w 64 T P us ta tw →
      Fr h₀ env.locals h (fun y => if y = Str.ofString "n" then u y else if y = Str.ofString "table" then some (.ref ta) else if y = Str.ofString "twin" then some (.ref tw) else if turn05.contains y then u y else m₀ y) →
      News h₀ env.locals h ((errs, PySem.W.listOf us.toArray cn) :: (D, PySem.W.listOf ws.toArray 0) :: T) → Q .next { s with heap := h, toks := tk }) :
    wpAny (model prog w) A (pyIter (.ref D)) (fun it s₂ => ForAt prog w A env (.Name (Str.ofString "n") px) body Q E it s₂) E s := by
  have hlen := hi.length
  refine iter_names (l := D) (vs := ws) (nn := 0) (Kept5 prog w errs D ws m₀) hh (hsub _ (.tail _ (.head _))) F N hsub ⟨us₀, cn₀, T₀, P₀, ta₀, tw₀, rfl, I₀, hne, h1, off₀, eD, e1, e2, fun _ _ _ => rfl⟩ ?_ hx hp hE ?_ ?_
  · rintro i m nx ⟨us, cn, T, P, ta, tw, rfl, _⟩
    exact .tail _ (.head _)
  · rintro i v m₁ nx h tk it oit hv ⟨us, cn, T, P, ta, tw, rfl, I, q1, q2, q3, q4, q5, q6, q7⟩ off hcl F₁ N₁
    have hil : i < ns.length := by have := (List.getElem?_eq_some_iff.mp hv).1; omega
    obtain ⟨n, nt, rfl⟩ : ∃ n nt, v = .int n nt := by
      obtain ⟨nt, ht⟩ := hi.get i ns[i] (by simp [hil])
      exact ⟨ns[i], nt, by rw [hv] at ht; exact Option.some.inj ht⟩
    refine turn i n nt us cn T P ta tw m₁ h tk it oit kstMark (by omega) q1 q2 I ⟨fun _ z => z, q3, ?_, q4, ?_, ?_⟩ (fr_ext F₁ (frame5 q5 q6 q7 _)) N₁
    · intro p hp
      rw [List.mem_singleton.mp hp]
      exact ⟨Ne.symm (off _ (.head _) _ (.head _)), Ne.symm (off _ (.tail _ (.head _)) _ (.head _))⟩
    · exact fun p hp q hq => off p (.tail _ (.tail _ hp)) q hq
    · intro q hq
      rw [List.mem_singleton.mp hq]; exact hcl
  · rintro m₁ nx h tk ⟨us, cn, T, P, ta, tw, rfl, I, q1, q2, q3, q4, q5, q6, q7⟩ F₁ N₁
    refine done us cn T P ta tw m₁ h tk kstMark ⟨I.cur, fun p hp => (I.pairs p hp).more (by omega), I.sep, I.errs⟩ (fr_ext F₁ fun y => ?_) N₁
    have z := frame5 q5 q6 q7 (m₁ y) y
    by_cases y1 : y = Str.ofString "n"
    · simp [y1]
    · rw [if_neg y1] at z; exact z
/-- a turn's end -/
theorem turn5_end {errs D ta tw : Addr} {us ws : List Value} {cn i : Nat} {T own led : List (Addr × Obj)} {P : List (Addr × Addr)} {m₀ mm : Str → Option Value} {h : Heap} {s₁ : Shared} {tk : Nat} (F : Fr h₀ env.locals h mm) (N : News h₀ env.locals h led) (H : Led errs D us ws cn T own led) (I : Inv prog w (i + 1) T P us ta tw)
    (hne : us ≠ []) (hl : us.length ≤ i + 1) (e1 : mm (Str.ofString "table") = some (.ref ta)) (e2 : mm (Str.ofString "twin") = some (.ref tw)) (hm : ∀ z, z ≠ Str.ofString "n" → turn05.contains z = false → mm z = m₀ z) :
    EndT h₀ env.locals (Kept5 prog w errs D ws m₀ i) own s₁ { s₁ with heap := h, toks := tk } :=
  ⟨h, tk, mm, _, rfl, F, fun p hp => N p (H.sub p (by
    rcases List.mem_cons.mp hp with rfl | hp
    · exact .head _
    rcases List.mem_cons.mp hp with rfl | hp
    · exact .tail _ (.head _)
    · exact .tail _ (.tail _ (List.mem_append.mpr (.inl hp))))), fun p hp => N p (H.o hp), fun p hp q hq => by
      rcases List.mem_cons.mp hp with rfl | hp
      · exact Ne.symm (H.offo q hq).1
      rcases List.mem_cons.mp hp with rfl | hp
      · exact Ne.symm (H.offo q hq).2
      · exact H.apart p hp q hq, us, cn, T, P, ta, tw, rfl, I, hne, hl, H.off, H.eD, e1, e2, hm⟩
theorem Inv.up {b b' : Nat} {T : List (Addr × Obj)} {P : List (Addr × Addr)} {us : List Value} {ta tw : Addr} (I : Inv prog w b T P us ta tw) (hb : b ≤ b') : Inv prog w b' T P us ta tw := ⟨I.cur, fun p hp => (I.pairs p hp).more hb, I.sep, I.errs⟩
end
theorem names5_ne {z : Str} (h : turn05.contains z = false) : z ≠ Str.ofString "way" ∧ z ≠ Str.ofString "rest" ∧ z ≠ Str.ofString "address" ∧ z ≠ Str.ofString "elder" ∧ z ≠ Str.ofString "live" ∧ z ≠ Str.ofString "kept" ∧ z ≠ Str.ofString "error" ∧ z ≠ Str.ofString "other" ∧ z ≠ Str.ofString "table" ∧ z ≠ Str.ofString "twin" := by
  have hn : z ∉ turn05 := by
    intro hm
    rw [List.contains_iff_mem.mpr hm] at h
    cases h
  refine ⟨?_, ?_, ?_, ?_, ?_, ?_, ?_, ?_, ?_, ?_⟩ <;> (rintro rfl; exact hn (by k_mem))
end Mine

end

/-! L05b -/
section
open PySem PySem.W PySem.Calls PyProof.Rows PyProof.V PySem.Spec
namespace Mine
section
variable {prog : Program} {w : World} {A : Around} {E : Value → Shared → Prop} {s : Shared} {env : Env} {h₀ : Heap} {L : Addr}
/-- the first table and its twin, the first error -/
theorem inv_start {h : Heap} {errs D ta tw u e d t x y : Addr} {oa ob oe od : Obj} {ws : List Value} {led nw : List (Addr × Obj)} {c st : Str} {n : Int} {t1 t2 k1 k2 : Tok} {cn : Nat} (N : News h₀ L h led) (m1 : (errs, PySem.W.listOf [Value.ref u].toArray cn) ∈ led) (m2 : (u, tupObj [.ref e, .ref ta, .ref tw]) ∈ led) (m3 : (e, oe) ∈ led) (m4 : (t, tupObj [.ref ta]) ∈ led) (m5 : (d, od) ∈ led)
    (m6 : (y, tupObj [.int n t2, .str st k2]) ∈ led) (m7 : (tw, ob) ∈ led) (m8 : (x, tupObj [.int n t1, .str st k1]) ∈ led) (m9 : (ta, oa) ∈ led) (mD : (D, PySem.W.listOf ws.toArray 0) ∈ led)
    (ho : ErrObj 63 d t oe) (ha : Attrs od none none none (some (.ref ta))) (ap : Apart3 e d t nw) (ma : (ta, oa) ∈ nw) (mw : (tw, ob) ∈ nw) (mn : (D, PySem.W.listOf ws.toArray 0) ∈ nw) (de : d < errs) (De : D < errs)
    (i1 : oa.IsDictOf (PySem.strKind prog w) [(c, .ref x)]) (i2 : ob.IsDictOf (PySem.strKind prog w) [(c, .ref y)]) (lo1 : (ta == sysModules) = false) (lo2 : (tw == sysModules) = false) (hne : ta < tw) :
    Inv prog w 1 [(u, tupObj [.ref e, .ref ta, .ref tw]), (e, oe), (t, tupObj [.ref ta]), (d, od), (y, tupObj [.int n t2, .str st k2]), (tw, ob), (x, tupObj [.int n t1, .str st k1]), (ta, oa)] [(ta, tw)] [.ref u] ta tw ∧
    (∀ p ∈ (errs, PySem.W.listOf [Value.ref u].toArray cn) :: (D, PySem.W.listOf ws.toArray 0) :: [(u, tupObj [.ref e, .ref ta, .ref tw]), (e, oe), (t, tupObj [.ref ta]), (d, od), (y, tupObj [.int n t2, .str st k2]), (tw, ob), (x, tupObj [.int n t1, .str st k1]), (ta, oa)], p ∈ led) ∧
    (∀ p ∈ [(u, tupObj [.ref e, .ref ta, .ref tw]), (e, oe), (t, tupObj [.ref ta]), (d, od), (y, tupObj [.int n t2, .str st k2]), (tw, ob), (x, tupObj [.int n t1, .str st k1]), (ta, oa)], p.1 ≠ errs ∧ p.1 ≠ D) ∧ D ≠ errs := by
  have c1 : oa.cls = .type "dict" := by obtain ⟨_, _, z, _⟩ := i1; exact z.1
  have c2 : ob.cls = .type "dict" := by obtain ⟨_, _, z, _⟩ := i2; exact z.1
  have c3 : oe.cls = .ref 63 := ho.cls
  refine ⟨⟨.head _, fun p hp => ?_, fun p hp q hq => ?_, fun v hv => ?_⟩, fun p hp => ?_, fun p hp => ?_, Nat.ne_of_lt De⟩
  · rw [List.mem_singleton.mp hp]
    refine ⟨lo1, lo2, Nat.ne_of_lt hne, oa, ob, [(c, .ref x)], [(c, .ref y)], ?_, ?_, i1, i2, .cons ⟨x, y, n, t1, t2, st, k1, k2, rfl, rfl, ?_, ?_⟩ .nil, Nat.le_refl _⟩ <;> simp
  · rw [List.mem_singleton.mp hp, List.mem_singleton.mp hq]; exact .inl rfl
  · rw [List.mem_singleton.mp hv]
    refine ⟨u, e, d, t, oe, od, ta, tw, rfl, ?_, ?_, ?_, ?_, ho, ha, .head _, fun p hp => ?_⟩
    · simp
    · simp
    · simp
    · simp
    · rw [List.mem_singleton.mp hp]
      exact ⟨Ne.symm (ap.d _ ma), Ne.symm (ap.d _ mw)⟩
  · simp only [List.mem_cons, List.not_mem_nil, or_false] at hp
    rcases hp with rfl | rfl | rfl | rfl | rfl | rfl | rfl | rfl | rfl | rfl <;> assumption
  · have kl : ∀ p ∈ led, p.2.cls ≠ .type "list" → p.1 ≠ errs ∧ p.1 ≠ D := fun p hp hk => ⟨kind_ne N hp m1 hk, kind_ne N hp mD hk⟩
    simp only [List.mem_cons, List.not_mem_nil, or_false] at hp
    rcases hp with rfl | rfl | rfl | rfl | rfl | rfl | rfl | rfl
    · exact kl _ m2 (by show Value.type "tuple" ≠ _; decide)
    · exact kl _ m3 (by rw [c3]; exact fun z => nomatch z)
    · exact kl _ m4 (by show Value.type "tuple" ≠ _; decide)
    · exact ⟨Nat.ne_of_lt de, Ne.symm (ap.d _ mn)⟩
    · exact kl _ m6 (by show Value.type "tuple" ≠ _; decide)
    · exact kl _ m7 (by rw [c2]; decide)
    · exact kl _ m8 (by show Value.type "tuple" ≠ _; decide)
    · exact kl _ m9 (by rw [c1]; decide)
end
section
variable {prog : Program} {w : World} {A : Around} {E : Value → Shared → Prop} {s : Shared} {h₀ : Heap} {L errs D ta tw : Addr} {m : Str → Option Value} {b cn : Nat} {T own led : List (Addr × Obj)} {P : List (Addr × Addr)} {us ws : List Value} {Q : Value → Shared → Prop}
/-- an elder error is picked -/
theorem pick_err {value slice : PySem.Expr} {k : Int} {u : Tok} (N : News h₀ L s.heap led) (H : Led errs D us ws cn T own led) (I : Inv prog w b T P us ta tw) (h0 : 0 ≤ k) (hk : k < us.length) (hn : us.length ≤ 100)
    (h : ∀ u e d t oe od a a', KstMark → ErrObj 63 d t oe → Attrs od none none none (some (.ref a)) → (a, a') ∈ P → News h₀ L s.heap ((u, tupObj [.ref e, .ref a, .ref a']) :: (e, oe) :: (d, od) :: (t, tupObj [.ref a]) :: led) → Q (.ref u) s)
    (hs : subscripted slice false (.ref errs) (.int k u) = operate [.ref errs, .int k u] (getItem (.ref errs) (.int k u))) :
    wpAny (model prog w) A (subscriptTail value slice (.ref errs) (.int k u)) Q E s := by
  refine pick_item N (H.sub _ (.head _)) h0 hk hn (fun v hv => ?_) hs
  obtain ⟨u, e, d, t, oe, od, a, a', rfl, h1, h2, h3, h4, h5, h6, h7, _⟩ := I.errs v hv
  refine h u e d t oe od a a' kstMark h5 h6 h7 fun p hp => N p ?_
  rcases List.mem_cons.mp hp with rfl | hp
  · exact H.t h1
  rcases List.mem_cons.mp hp with rfl | hp
  · exact H.t h2
  rcases List.mem_cons.mp hp with rfl | hp
  · exact H.t h3
  rcases List.mem_cons.mp hp with rfl | hp
  · exact H.t h4
  · exact hp
theorem len_errs {Q : Value → Shared → Prop} (N : News h₀ L s.heap led) (H : Led errs D us ws cn T own led) (hn : us.length ≤ 100) (h : Q (.int (us.length : Int) (s.toks + 1)) { s with toks := s.toks + 1 + 1 }) :
    wpAny (model prog w) A (call (.builtin "len") [.ref errs]) Q E s := by
  have hls : s.heap.IsList errs us.toArray := ⟨_, (N _ (H.sub _ (.head _))).1, rfl, cn, rfl⟩
  have : (2 : Int) ^ 63 = 9223372036854775808 := by decide
  refine len_list hls (by rw [List.size_toArray]; omega) ?_
  rw [List.size_toArray]; exact h
theorem pos_len {us : List Value} (h : us ≠ []) : (0 : Int) < (us.length : Int) := by
  have := List.length_pos_iff.mpr h
  omega
theorem PairAt.dict1 {a a' : Addr} (N : News h₀ L s.heap led) (hs : ∀ p ∈ T, p ∈ led) (I : PairAt prog w b T a a') : ∃ ka, s.heap.DictOf (PySem.strKind prog w) a ka ∧ ka.length ≤ b := by
  obtain ⟨l1, l2, l3, oa, ob, ka, kb, h1, h2, h3, h4, h5, h6⟩ := I
  exact ⟨ka, Heap.dictOf_iff.mpr ⟨oa, (N _ (hs _ h1)).1, h3⟩, h6⟩
theorem method1 {a a' : Addr} {pl : Sem Bool} {Q : Value × List Value → Shared → Prop} (N : News h₀ L s.heap led) (H : Led errs D us ws cn T own led) (I : Inv prog w b T P us ta tw) (hp : (a, a') ∈ P) (h : Q (.builtin "dict.pop", [.ref a]) s) :
    wpAny (model prog w) A (getMethod (.ref a) (Str.ofString "pop") pl) Q E s := by
  obtain ⟨ka, hD, _⟩ := (I.pairs _ hp).dict1 N fun p hp => H.t hp
  exact getMethod_builtin hD.typeIs PySem.F.plainAttrs_dict PySem.F.slot_dict_pop PySem.F.type_dict_pop hD.mapOf.noDict h
theorem method2 {a a' : Addr} {f : List (Str × Value) → List (Str × Value)} {pl : Sem Bool} {Q : Value × List Value → Shared → Prop} (N : News h₀ L s.heap led) (H : Led errs D us ws cn T own led) (I : Half prog w b T P us ta tw a a' f) (h : Q (.builtin "dict.pop", [.ref a']) s) :
    wpAny (model prog w) A (getMethod (.ref a') (Str.ofString "pop") pl) Q E s := by
  obtain ⟨oa, ob, ka, kb, h1, h2, h3, h4, h5, h6⟩ := I.there
  have hD : s.heap.DictOf (PySem.strKind prog w) a' kb := Heap.dictOf_iff.mpr ⟨ob, (N _ (H.t h2)).1, h4⟩
  exact getMethod_builtin hD.typeIs PySem.F.plainAttrs_dict PySem.F.slot_dict_pop PySem.F.type_dict_pop hD.mapOf.noDict h
theorem tab_list (hh : A.handled = none) (F : Fr h₀ L s.heap m) (N : News h₀ L s.heap led) (H : Led errs D us ws cn T own led) (I : Inv prog w b T P us ta tw) (hb : b ≤ 100)
    (h : ∀ (B : Addr) oB h' tk, Fr h₀ L h' m → News h₀ L h' ((B, oB) :: led) → (∀ q ∈ led, q.1 < B) → Q (.ref B) { s with heap := h', toks := tk }) :
    wpAny (model prog w) A (call (.type "list") [.ref ta]) Q E s := by
  obtain ⟨l1, l2, l3, oa, ob, ka, kb, h1, h2, h3, h4, h5, h6⟩ := I.pairs _ I.cur
  obtain ⟨ep, hat⟩ := (kda_dict N (H.t h1) h3).dictAt
  exact kdl_N (kdl_dict (knd := PySem.strKind prog w) (kvs := ka) (ep := ep) l1) hh F N hat (kdl_size (by omega)) fun B c h' tk vs F' N' l1 hl hv => h B _ h' tk F' N' l1
/-- another table with its twin -/
theorem inv_new {h : Heap} {x y a a' : Addr} {oa ob : Obj} {c st : Str} {n : Int} {t1 t2 k1 k2 : Tok} (N : News h₀ L h led) (H : Led errs D us ws cn T own led) (I : Inv prog w (b + 1) T P us ta tw)
    (m6 : (y, tupObj [.int n t2, .str st k2]) ∈ led) (m7 : (a', ob) ∈ led) (m8 : (x, tupObj [.int n t1, .str st k1]) ∈ led) (m9 : (a, oa) ∈ led)
    (i1 : oa.IsDictOf (PySem.strKind prog w) [(c, .ref x)]) (i2 : ob.IsDictOf (PySem.strKind prog w) [(c, .ref y)]) (lo1 : (a == sysModules) = false) (lo2 : (a' == sysModules) = false) (hne : a < a') (f1 : ∀ p ∈ T, p.1 < a) (f2 : ∀ p ∈ T, p.1 < a') :
    Inv prog w (b + 1) ((y, tupObj [.int n t2, .str st k2]) :: (a', ob) :: (x, tupObj [.int n t1, .str st k1]) :: (a, oa) :: T) ((a, a') :: P) us a a' ∧
    Led errs D us ws cn ((y, tupObj [.int n t2, .str st k2]) :: (a', ob) :: (x, tupObj [.int n t1, .str st k1]) :: (a, oa) :: T) own led := by
  have c1 : oa.cls = .type "dict" := by obtain ⟨_, _, z, _⟩ := i1; exact z.1
  have c2 : ob.cls = .type "dict" := by obtain ⟨_, _, z, _⟩ := i2; exact z.1
  have e1 : (errs, PySem.W.listOf us.toArray cn) ∈ led := H.sub _ (.head _)
  have e2 : (D, PySem.W.listOf ws.toArray 0) ∈ led := H.sub _ (.tail _ (.head _))
  have kl : ∀ p ∈ led, p.2.cls ≠ .type "list" → p.1 ≠ errs ∧ p.1 ≠ D := fun p hp hk => ⟨kind_ne N hp e1 hk, kind_ne N hp e2 hk⟩
  have ko : ∀ p ∈ led, p.2.cls ≠ .type "list_iterator" → ∀ q ∈ own, p.1 ≠ q.1 := fun p hp hk q hq => kind_ne N hp (H.o hq) (by rw [H.cls q hq]; exact hk)
  have up : ∀ p ∈ T, p ∈ ((y, tupObj [.int n t2, .str st k2]) :: (a', ob) :: (x, tupObj [.int n t1, .str st k1]) :: (a, oa) :: T) := fun p hp => .tail _ (.tail _ (.tail _ (.tail _ hp)))
  have old : ∀ p ∈ P, ∃ o o', (p.1, o) ∈ T ∧ (p.2, o') ∈ T := fun p hp => by
    obtain ⟨_, _, _, o, o', _, _, h1, h2, _⟩ := I.pairs p hp
    exact ⟨o, o', h1, h2⟩
  have sep : ∀ p ∈ P, p.1 ≠ a ∧ p.1 ≠ a' ∧ p.2 ≠ a ∧ p.2 ≠ a' := fun p hp => by
    obtain ⟨o, o', h1, h2⟩ := old p hp
    exact ⟨Nat.ne_of_lt (f1 _ h1), Nat.ne_of_lt (f2 _ h1), Nat.ne_of_lt (f1 _ h2), Nat.ne_of_lt (f2 _ h2)⟩
  refine ⟨⟨.head _, fun p hp => ?_, fun p hp q hq => ?_, fun v hv => ?_⟩, fun p hp => ?_, fun p hp => ?_, H.offo, H.eD, fun p hp q hq => ?_, H.cls⟩
  · rcases List.mem_cons.mp hp with rfl | hp
    · exact ⟨lo1, lo2, Nat.ne_of_lt hne, oa, ob, [(c, .ref x)], [(c, .ref y)], .tail _ (.tail _ (.tail _ (.head _))), .tail _ (.head _), i1, i2, .cons ⟨x, y, n, t1, t2, st, k1, k2, rfl, rfl, .tail _ (.tail _ (.head _)), .head _⟩ .nil, Nat.succ_le_succ (Nat.zero_le _)⟩
    · exact (I.pairs p hp).mono up
  · rcases List.mem_cons.mp hp with rfl | hp
    · rcases List.mem_cons.mp hq with rfl | hq
      · exact .inl rfl
      · obtain ⟨z1, z2, z3, z4⟩ := sep q hq
        exact .inr ⟨Ne.symm z1, Ne.symm z3, Ne.symm z2, Ne.symm z4⟩
    · rcases List.mem_cons.mp hq with rfl | hq
      · obtain ⟨z1, z2, z3, z4⟩ := sep p hp
        exact .inr ⟨z1, z2, z3, z4⟩
      · exact I.sep p hp q hq
  · obtain ⟨u, e, d, t, oe, od, c, c', h1, h2, h3, h4, h5, h6, h7, h8, h9⟩ := I.errs v hv
    refine ⟨u, e, d, t, oe, od, c, c', h1, up _ h2, up _ h3, up _ h4, up _ h5, h6, h7, .tail _ h8, fun p hp => ?_⟩
    rcases List.mem_cons.mp hp with rfl | hp
    · exact ⟨Nat.ne_of_lt (f1 _ h4), Nat.ne_of_lt (f2 _ h4)⟩
    · exact h9 p hp
  · rcases List.mem_cons.mp hp with rfl | hp
    · exact e1
    rcases List.mem_cons.mp hp with rfl | hp
    · exact e2
    rcases List.mem_append.mp hp with hp | hp
    · rcases List.mem_cons.mp hp with rfl | hp
      · exact m6
      rcases List.mem_cons.mp hp with rfl | hp
      · exact m7
      rcases List.mem_cons.mp hp with rfl | hp
      · exact m8
      rcases List.mem_cons.mp hp with rfl | hp
      · exact m9
      · exact H.t hp
    · exact H.o hp
  · rcases List.mem_cons.mp hp with rfl | hp
    · exact kl _ m6 (by show Value.type "tuple" ≠ _; decide)
    rcases List.mem_cons.mp hp with rfl | hp
    · exact kl _ m7 (by rw [c2]; decide)
    rcases List.mem_cons.mp hp with rfl | hp
    · exact kl _ m8 (by show Value.type "tuple" ≠ _; decide)
    rcases List.mem_cons.mp hp with rfl | hp
    · exact kl _ m9 (by rw [c1]; decide)
    · exact H.off p hp
  · rcases List.mem_cons.mp hp with rfl | hp
    · exact ko _ m6 (by show Value.type "tuple" ≠ _; decide) q hq
    rcases List.mem_cons.mp hp with rfl | hp
    · exact ko _ m7 (by rw [c2]; decide) q hq
    rcases List.mem_cons.mp hp with rfl | hp
    · exact ko _ m8 (by show Value.type "tuple" ≠ _; decide) q hq
    rcases List.mem_cons.mp hp with rfl | hp
    · exact ko _ m9 (by rw [c1]; decide) q hq
    · exact H.apart p hp q hq
end
section
variable {prog : Program} {w : World} {A : Around} {E : Value → Shared → Prop} {s : Shared} {env : Env} {h₀ : Heap} {body : List Stmt} {Q : Flow → Shared → Prop}
theorem iter5_s {px : Pos} {errs D ta tw u₀ e₀ d₀ t₀ x₀ y₀ : Addr} {oa ob oe od : Obj} {ws : List Value} {led nw : List (Addr × Obj)} {c₀ st₀ : Str} {n₀ : Int} {t1 t2 k1 k2 : Tok} {cn₀ : Nat} {ns : List Int} {m₀ : Str → Option Value}
    (F : Fr h₀ env.locals s.heap m₀) (N : News h₀ env.locals s.heap ((errs, PySem.W.listOf [Value.ref u₀].toArray cn₀) :: (u₀, tupObj [.ref e₀, .ref ta, .ref tw]) :: (e₀, oe) :: (t₀, tupObj [.ref ta]) :: (d₀, od) :: (y₀, tupObj [.int n₀ t2, .str st₀ k2]) :: (tw, ob) :: (x₀, tupObj [.int n₀ t1, .str st₀ k1]) :: (ta, oa) :: (D, PySem.W.listOf ws.toArray 0) :: led))
    (ho : ErrObj 63 d₀ t₀ oe) (ha : Attrs od none none none (some (.ref ta))) (ap : Apart3 e₀ d₀ t₀ nw) (ma : (ta, oa) ∈ nw) (mw : (tw, ob) ∈ nw) (mn : (D, PySem.W.listOf ws.toArray 0) ∈ nw)
    (i1 : oa.IsDictOf (PySem.strKind prog w) [(c₀, .ref x₀)]) (i2 : ob.IsDictOf (PySem.strKind prog w) [(c₀, .ref y₀)]) (lo1 : (ta == sysModules) = false) (lo2 : (tw == sysModules) = false) (de : @LT.lt Nat _ d₀ errs) (De : @LT.lt Nat _ D errs) (hlt : @LT.lt Nat _ ta tw)
    (hh : A.handled = none) (hi : IntsAre ws ns) (h63 : ns.length ≤ 63) (e1 : m₀ (Str.ofString "table") = some (.ref ta)) (e2 : m₀ (Str.ofString "twin") = some (.ref tw))
    (hx : env.kindOf (Str.ofString "n") = some .local) (hp : (env.scope.kind == .class || (env.scope.kind == .module && env.locals != env.globals)) = false) (hE : PassesOwn (model prog w) A env E)
    (turn : ∀ (i : Nat) (n : Int) (nt : Tok) (us : List Value) (cn : Nat) (T : List (Addr × Obj)) (P : List (Addr × Addr)) (ta tw : Addr) (u : Str → Option Value) (h : Heap) (tk : Nat) (it : Addr) (oit : Obj), KstMark → i < 63 → us ≠ [] → us.length ≤ i + 1 → Inv prog w (i + 1) T P us ta tw →
      Led errs D us ws cn T [(it, oit)] (base errs D us ws cn T [(it, oit)]) →
      Fr h₀ env.locals h (fun y => if y = Str.ofString "n" then some (.int n nt) else if y = Str.ofString "table" then some (.ref ta) else if y = Str.ofString "twin" then some (.ref tw) else if turn05.contains y then u y else m₀ y) →
      News h₀ env.locals h ((errs, PySem.W.listOf us.toArray cn) :: (D, PySem.W.listOf ws.toArray 0) :: (T ++ [(it, oit)])) →
      wpAny (model prog w) A (execs body env) (PostT h₀ env.locals (Kept5 prog w errs D ws m₀ (i + 1)) [(it, oit)] { s with heap := h, toks := tk } Q) E { s with heap := h, toks := tk })
    (done : ∀ (us : List Value) (cn : Nat) (T : List (Addr × Obj)) (P : List (Addr × Addr)) (ta tw : Addr) (u : Str → Option Value) (h : Heap) (tk : Nat), KstMark → Inv prog w 64 T P us ta tw →
      Fr h₀ env.locals h (fun y => if y = Str.ofString "n" then u y else if y = Str.ofString "table" then some (.ref ta) else if y = Str.ofString "twin" then some (.ref tw) else if turn05.contains y then u y else m₀ y) →
      News h₀ env.locals h ((errs, PySem.W.listOf us.toArray cn) :: (D, PySem.W.listOf ws.toArray 0) :: T) → Q .next { s with heap := h, toks := tk }) :
    wpAny (model prog w) A (pyIter (.ref D)) (fun it s₂ => ForAt prog w A env (.Name (Str.ofString "n") px) body Q E it s₂) E s := by
  obtain ⟨sI, sS, sO, sE⟩ := inv_start N (.head _) (.tail _ (.head _)) (.tail _ (.tail _ (.head _))) (.tail _ (.tail _ (.tail _ (.head _)))) (.tail _ (.tail _ (.tail _ (.tail _ (.head _))))) (.tail _ (.tail _ (.tail _ (.tail _ (.tail _ (.head _)))))) (.tail _ (.tail _ (.tail _ (.tail _ (.tail _ (.tail _ (.head _))))))) (.tail _ (.tail _ (.tail _ (.tail _ (.tail _ (.tail _ (.tail _ (.head _)))))))) (.tail _ (.tail _ (.tail _ (.tail _ (.tail _ (.tail _ (.tail _ (.tail _ (.head _))))))))) (.tail _ (.tail _ (.tail _ (.tail _ (.tail _ (.tail _ (.tail _ (.tail _ (.tail _ (.head _)))))))))) ho ha ap ma mw mn de De i1 i2 lo1 lo2 hlt
  exact iter5_1 hh hi h63 F N sS sI (List.cons_ne_nil _ _) (Nat.le_refl _) sO sE e1 e2 hx hp hE turn done
end
section
variable {prog : Program} {w : World} {A : Around} {E : Value → Shared → Prop} {s : Shared} {h₀ : Heap} {L errs D ta tw : Addr} {m : Str → Option Value} {b cn : Nat} {T own led nw : List (Addr × Obj)} {P : List (Addr × Addr)} {us ws : List Value} {Q : Value → Shared → Prop}
/-- another error around the table in hand -/
theorem append5 {tup e d t : Addr} {oe od : Obj} (F : Fr h₀ L s.heap m) (N : News h₀ L s.heap led) (H : Led errs D us ws cn T own led) (I : Inv prog w b T P us ta tw) (mt : (tup, tupObj [.ref e, .ref ta, .ref tw]) ∈ led) (me : (e, oe) ∈ led) (mk : (t, tupObj [.ref ta]) ∈ led) (md : (d, od) ∈ led)
    (ho : ErrObj 63 d t oe) (ha : Attrs od none none none (some (.ref ta))) (ap : Apart3 e d t nw) (hnw : ∀ p ∈ base errs D us ws cn T own, p ∈ nw) (hz : us.length ≤ 100)
    (h : ∀ h', Fr h₀ L h' m → News h₀ L h' ((errs, PySem.W.listOf (us ++ [Value.ref tup]).toArray (cn + 1)) :: (D, PySem.W.listOf ws.toArray 0) :: (((tup, tupObj [.ref e, .ref ta, .ref tw]) :: (e, oe) :: (t, tupObj [.ref ta]) :: (d, od) :: T) ++ own)) →
      Led errs D (us ++ [.ref tup]) ws (cn + 1) ((tup, tupObj [.ref e, .ref ta, .ref tw]) :: (e, oe) :: (t, tupObj [.ref ta]) :: (d, od) :: T) own (base errs D (us ++ [.ref tup]) ws (cn + 1) ((tup, tupObj [.ref e, .ref ta, .ref tw]) :: (e, oe) :: (t, tupObj [.ref ta]) :: (d, od) :: T) own) →
      Inv prog w b ((tup, tupObj [.ref e, .ref ta, .ref tw]) :: (e, oe) :: (t, tupObj [.ref ta]) :: (d, od) :: T) P (us ++ [.ref tup]) ta tw → Q .none { s with heap := h' }) :
    wpAny (model prog w) A (call (.builtin "list.append") [.ref errs, .ref tup]) Q E s := by
  have e1 : (errs, PySem.W.listOf us.toArray cn) ∈ led := H.sub _ (.head _)
  have e2 : (D, PySem.W.listOf ws.toArray 0) ∈ led := H.sub _ (.tail _ (.head _))
  have z := N _ e1
  have kl : ∀ p ∈ led, p.2.cls ≠ .type "list" → p.1 ≠ errs ∧ p.1 ≠ D := fun p hp hk => ⟨kind_ne N hp e1 hk, kind_ne N hp e2 hk⟩
  have ko : ∀ p ∈ led, p.2.cls ≠ .type "list_iterator" → ∀ q ∈ own, p.1 ≠ q.1 := fun p hp hk q hq => kind_ne N hp (H.o hq) (by rw [H.cls q hq]; exact hk)
  have inT : ∀ p ∈ T, p ∈ nw := fun p hp => hnw p (.tail _ (.tail _ (List.mem_append.mpr (.inl hp))))
  have ino : ∀ p ∈ own, p ∈ nw := fun p hp => hnw p (.tail _ (.tail _ (List.mem_append.mpr (.inr hp))))
  have c3 : oe.cls = .ref 63 := ho.cls
  have off : ∀ p ∈ (tup, tupObj [.ref e, .ref ta, .ref tw]) :: (e, oe) :: (t, tupObj [.ref ta]) :: (d, od) :: T, p.1 ≠ errs ∧ p.1 ≠ D := fun p hp => by
    rcases List.mem_cons.mp hp with rfl | hp
    · exact kl _ mt (by show Value.type "tuple" ≠ _; decide)
    rcases List.mem_cons.mp hp with rfl | hp
    · exact kl _ me (by rw [c3]; exact fun z => nomatch z)
    rcases List.mem_cons.mp hp with rfl | hp
    · exact kl _ mk (by show Value.type "tuple" ≠ _; decide)
    rcases List.mem_cons.mp hp with rfl | hp
    · exact ⟨Ne.symm (ap.d _ (hnw _ (.head _))), Ne.symm (ap.d _ (hnw _ (.tail _ (.head _))))⟩
    · exact H.off p hp
  have inl : ∀ p ∈ (tup, tupObj [.ref e, .ref ta, .ref tw]) :: (e, oe) :: (t, tupObj [.ref ta]) :: (d, od) :: T, p ∈ led := fun p hp => by
    rcases List.mem_cons.mp hp with rfl | hp
    · exact mt
    rcases List.mem_cons.mp hp with rfl | hp
    · exact me
    rcases List.mem_cons.mp hp with rfl | hp
    · exact mk
    rcases List.mem_cons.mp hp with rfl | hp
    · exact md
    · exact H.t hp
  have up : ∀ p ∈ T, p ∈ (tup, tupObj [.ref e, .ref ta, .ref tw]) :: (e, oe) :: (t, tupObj [.ref ta]) :: (d, od) :: T := fun p hp => .tail _ (.tail _ (.tail _ (.tail _ hp)))
  refine append_at (hsz := by rw [List.size_toArray]; show _ ≤ 2 ^ 24; omega) z.1 fun h' hsb ho' => ?_
  have kp : ∀ p ∈ led, p.1 ≠ errs → h'.get? p.1 = some p.2 ∧ p.1 ≠ L ∧ h₀.get? p.1 = none := fun p hp hne => ⟨(hsb.2 _ hne).trans (N p hp).1, (N p hp).2⟩
  refine h h' (F.change hsb z.2.1 z.2.2) (fun p hp => ?_) ⟨fun _ z => z, off, H.offo, H.eD, fun p hp q hq => ?_, H.cls⟩ ⟨I.cur, fun p hp => (I.pairs p hp).mono up, I.sep, fun v hv => ?_⟩
  · rcases List.mem_cons.mp hp with rfl | hp
    · refine ⟨?_, z.2⟩
      rw [ho']
      simp [PySem.W.listOf]
    rcases List.mem_cons.mp hp with rfl | hp
    · exact kp _ e2 H.eD
    rcases List.mem_append.mp hp with hp | hp
    · exact kp p (inl p hp) (off p hp).1
    · exact kp p (H.o hp) (H.offo p hp).1
  · rcases List.mem_cons.mp hp with rfl | hp
    · exact ko _ mt (by show Value.type "tuple" ≠ _; decide) q hq
    rcases List.mem_cons.mp hp with rfl | hp
    · exact ko _ me (by rw [c3]; exact fun z => nomatch z) q hq
    rcases List.mem_cons.mp hp with rfl | hp
    · exact ko _ mk (by show Value.type "tuple" ≠ _; decide) q hq
    rcases List.mem_cons.mp hp with rfl | hp
    · exact Ne.symm (ap.d _ (ino q hq))
    · exact H.apart p hp q hq
  · rcases List.mem_append.mp hv with hv | hv
    · exact (I.errs v hv).mono up
    · rw [List.mem_singleton.mp hv]
      refine ⟨tup, e, d, t, oe, od, ta, tw, rfl, .head _, .tail _ (.head _), .tail _ (.tail _ (.tail _ (.head _))), .tail _ (.tail _ (.head _)), ho, ha, I.cur, fun p hp => ?_⟩
      obtain ⟨_, _, _, o, o', _, _, q1, q2, _⟩ := I.pairs p hp
      exact ⟨Ne.symm (ap.d _ (inT _ q1)), Ne.symm (ap.d _ (inT _ q2))⟩
/-- what is read of an error that holds v, against what is due -/
theorem ne_rcpt {D D' t t' : Addr} {oD oD' : Obj} {v : Value} (N : News h₀ L s.heap led) (d1 : (D, oD) ∈ led) (d2 : (D', oD') ∈ led) (i1 : oD.IsDictOf (PySem.strKind prog w) [(Str.ofString "args", .ref t), (Str.ofString "recipients", v)])
    (i2 : oD'.IsDictOf (PySem.strKind prog w) [(Str.ofString "args", .ref t'), (Str.ofString "recipients", v)]) (l1 : (D == sysModules) = false) (l2 : (D' == sysModules) = false)
    (m1 : (t, tupObj [v]) ∈ led) (m2 : (t', tupObj [v]) ∈ led) (hu : A.units + 1 < cLine) (h : Q (.bool false) s) : wpAny (model prog w) A (compareOp .NotEq (.ref D) (.ref D')) Q E s := by
  refine kne_pairs (r := true) N d1 d2 i1 i2 l1 l2 rfl (Nat.lt_of_succ_lt hu) ?_ h
  exact KeqHits.hit (e := true) (b := true) (by rfl) (same_tuple N m1 m2 hu) (KeqHits.hit (e := true) (b := true) (by rfl) (SeqAt.EqAt.same _) KeqHits.nil)
theorem pair_eq {a a' : Addr} (N : News h₀ L s.heap led) (hs : ∀ p ∈ T, p ∈ led) (I : PairAt prog w b T a a') : EqW prog w s 2 (.ref a) (.ref a') := by
  obtain ⟨l1, l2, l3, oa, ob, ka, kb, h1, h2, h3, h4, h5, h6⟩ := I
  have z1 : s.heap.DictOf (PySem.strKind prog w) a ka := Heap.dictOf_iff.mpr ⟨oa, (N _ (hs _ h1)).1, h3⟩
  have z2 : s.heap.DictOf (PySem.strKind prog w) a' kb := Heap.dictOf_iff.mpr ⟨ob, (N _ (hs _ h2)).1, h4⟩
  have hn : (kb.map (·.1)).Nodup := by obtain ⟨_, _, _, _, _, _, z⟩ := h4; exact z
  refine EqW.dicts l1 l2 z1 z2 h5.length fun i c v hv => ?_
  obtain ⟨y, hy, hsv⟩ := h5.get i c v hv
  exact ⟨y, PySem.valueAt_of_get hn hy, hsv.eqW N fun p hp _ => hs p hp⟩
theorem ne_live {a a' : Addr} (N : News h₀ L s.heap led) (hs : ∀ p ∈ T, p ∈ led) (I : PairAt prog w b T a a') (hu : A.units + 2 < cLine) (h : Q (.bool false) s) : wpAny (model prog w) A (compareOp .NotEq (.ref a) (.ref a')) Q E s := by
  obtain ⟨l1, l2, l3, oa, ob, ka, kb, h1, h2, h3, h4, h5, h6⟩ := I
  have z1 : s.heap.DictOf (PySem.strKind prog w) a ka := Heap.dictOf_iff.mpr ⟨oa, (N _ (hs _ h1)).1, h3⟩
  have z2 : s.heap.DictOf (PySem.strKind prog w) a' kb := Heap.dictOf_iff.mpr ⟨ob, (N _ (hs _ h2)).1, h4⟩
  have hn : (kb.map (·.1)).Nodup := by obtain ⟨_, _, _, _, _, _, z⟩ := h4; exact z
  refine dicts_ne (k := 1) l1 l2 z1 z2 h5.length (by omega) (fun i c v hv => ?_) h
  obtain ⟨y, hy, hsv⟩ := h5.get i c v hv
  exact ⟨y, PySem.valueAt_of_get hn hy, hsv.eqW N fun p hp _ => hs p hp⟩
theorem ne_tab {a a' D D' t t' : Addr} {oD oD' : Obj} (N : News h₀ L s.heap led) (hs : ∀ p ∈ T, p ∈ led) (I : PairAt prog w b T a a') (d1 : (D, oD) ∈ led) (d2 : (D', oD') ∈ led) (i1 : oD.IsDictOf (PySem.strKind prog w) [(Str.ofString "args", .ref t), (Str.ofString "recipients", .ref a)])
    (i2 : oD'.IsDictOf (PySem.strKind prog w) [(Str.ofString "args", .ref t'), (Str.ofString "recipients", .ref a')]) (l1 : (D == sysModules) = false) (l2 : (D' == sysModules) = false)
    (m1 : (t, tupObj [.ref a]) ∈ led) (m2 : (t', tupObj [.ref a']) ∈ led) (hu : A.units + 4 < cLine) (h : Q (.bool false) s) : wpAny (model prog w) A (compareOp .NotEq (.ref D) (.ref D')) Q E s := by
  have z1 : s.heap.DictOf (PySem.strKind prog w) D _ := Heap.dictOf_iff.mpr ⟨oD, (N _ d1).1, i1⟩
  have z2 : s.heap.DictOf (PySem.strKind prog w) D' _ := Heap.dictOf_iff.mpr ⟨oD', (N _ d2).1, i2⟩
  have e := pair_eq N hs I
  refine dicts_ne (k := 3) l1 l2 z1 z2 rfl (by omega) (fun i c v hv => ?_) h
  match i, hv with
  | 0, hv =>
    simp only [List.getElem?_cons_zero, Option.some.injEq, Prod.mk.injEq] at hv
    obtain ⟨rfl, rfl⟩ := hv
    exact ⟨.ref t', by rfl, EqW.tuple1 (N _ m1).1 (N _ m2).1 e⟩
  | 1, hv =>
    simp only [List.getElem?_cons_succ, List.getElem?_cons_zero, Option.some.injEq, Prod.mk.injEq] at hv
    obtain ⟨rfl, rfl⟩ := hv
    exact ⟨.ref a', by rfl, e.mono (by omega)⟩
  | i + 2, hv => simp at hv
end
section
variable (w : World) (mean : ExcName → Option Value) (mg mb : Str → Option Value) (loose : List Str) (e d t : Addr) (oe od : Obj) (led : List (Addr × Obj)) (dp un : Nat) (gd : Option (List Code)) (cn : Str) (cs : Scope) (a : Addr) (ccd : Value) (h₀ : Heap) (L : Addr) (m : Str → Option Value) (s : Shared) (Q E : Value → Shared → Prop)
theorem read5 (v : Value) (F : Fr h₀ L s.heap m) (X : (hd.heap_39 w.params).In h₀) (N : News h₀ L s.heap led) (T : Top hd.view_39 loose mean mg mb h₀) (hk : cs.kind = .function) (hdp : dp + 1 < recursionLimit) (hun : un + 8 < cLine)
    (ho : ErrObj 63 d t oe) (ha : Attrs od none none none (some v)) (hv : handedIn v = true) (me : (e, oe) ∈ led) (md : (d, od) ∈ led) (mt : (t, tupObj [v]) ∈ led)
    (hret : ∀ D oD h' tk, (D == sysModules) = false → Obj.IsDictOf (PySem.strKind PySem.Challenge.rw_dn0159_05.row.prog w) oD [(Str.ofString "args", Value.ref t), (Str.ofString "recipients", v)] → Fr h₀ L h' m → News h₀ L h' ((D, oD) :: led) → Q (.ref D) { s with heap := h', toks := tk }) :
    wpAny (model PySem.Challenge.rw_dn0159_05.row.prog w) (ktrTop dp un gd cn cs L a ccd [] []) (call (.ref 72) [.ref e]) Q E s := by
  obtain ⟨a1, a2, a3, a4⟩ := ha
  refine read_rcpt w mean mg mb loose [] 63 e d t oe od (tupObj [v]) v led dp un gd cn cs a ccd h₀ L m s Q E F X (fun p hp => N p ?_) T hk hdp hun (cls63 _) ho a1 a2 a3 a4 hv fun D oD h' tk lo hdd F' N' _ => hret D oD h' tk lo hdd F' fun p hp => N' p ?_
  · rcases List.mem_cons.mp hp with rfl | hp
    · exact me
    rcases List.mem_cons.mp hp with rfl | hp
    · exact md
    rcases List.mem_cons.mp hp with rfl | hp
    · exact mt
    · exact hp
  · rcases List.mem_cons.mp hp with rfl | hp
    · exact .head _
    · exact .tail _ (.tail _ (.tail _ (.tail _ hp)))
end
/-! the second loop -/
abbrev look5 : List Str := [Str.ofString "error", Str.ofString "live", Str.ofString "kept"]
def Look5J (led : List (Addr × Obj)) (m₀ : Str → Option Value) (_ : Nat) (m : Str → Option Value) (nx : List (Addr × Obj)) : Prop := nx = led ∧ ∀ z, look5.contains z = false → m z = m₀ z
section
variable {prog : Program} {w : World} {A : Around} {E : Value → Shared → Prop} {s : Shared} {env : Env} {h₀ : Heap} {body : List Stmt} {Q : Flow → Shared → Prop}
theorem iter5_2 {elts : List Expr} {pt : Pos} {x1 : Nat} {errs ta tw : Addr} {b2 : Addr × Obj} {us : List Value} {cn : Nat} {T : List (Addr × Obj)} {P : List (Addr × Addr)} {m₀ : Str → Option Value}
    (hh : A.handled = none) (I : Inv prog w 64 T P us ta tw) (F : Fr h₀ env.locals s.heap m₀) (N : News h₀ env.locals s.heap ((errs, PySem.W.listOf us.toArray cn) :: b2 :: T)) (hE : PassesOwn (model prog w) A env E)
    (turn : ∀ (i : Nat) (u' e d t a a' : Addr) (oe od oI : Obj) (u : Str → Option Value) (h : Heap) (tk : Nat) (I : Addr), KstMark → ErrObj 63 d t oe → Attrs od none none none (some (.ref a)) → PairAt prog w 64 T a a' → (∀ p ∈ (errs, PySem.W.listOf us.toArray cn) :: b2 :: T, p.1 ≠ I) →
      Fr h₀ env.locals h (fun y => if look5.contains y then u y else m₀ y) →
      News h₀ env.locals h ((u', tupObj [.ref e, .ref a, .ref a']) :: (e, oe) :: (d, od) :: (t, tupObj [.ref a]) :: (((errs, PySem.W.listOf us.toArray cn) :: b2 :: T) ++ [(I, oI)])) →
      wpAny (model prog w) A (assign (.Tuple elts x1 pt) env (.ref u')) (fun _ s₂ => wpAny (model prog w) A (execs body env) (PostT h₀ env.locals (Look5J ((errs, PySem.W.listOf us.toArray cn) :: b2 :: T) m₀ (i + 1)) [(I, oI)] { s with heap := h, toks := tk } Q) E s₂) E { s with heap := h, toks := tk })
    (done : ∀ (u : Str → Option Value) (h : Heap) (tk : Nat), Fr h₀ env.locals h (fun y => if look5.contains y then u y else m₀ y) → News h₀ env.locals h ((errs, PySem.W.listOf us.toArray cn) :: b2 :: T) → Q .next { s with heap := h, toks := tk }) :
    wpAny (model prog w) A (pyIter (.ref errs)) (fun it s₂ => ForAt prog w A env (.Tuple elts x1 pt) body Q E it s₂) E s := by
  have fx : ∀ {h m₁}, Fr h₀ env.locals h m₁ → (∀ z, look5.contains z = false → m₁ z = m₀ z) → Fr h₀ env.locals h (fun y => if look5.contains y then m₁ y else m₀ y) := fun F hm => fr_ext F fun y => by
    cases y3 : look5.contains y with
    | true => simp
    | false => simpa using hm y y3
  refine iter_tuples (l := errs) (vs := us) (nn := cn) (Look5J ((errs, PySem.W.listOf us.toArray cn) :: b2 :: T) m₀) hh (.head _) F N ⟨rfl, fun _ _ => rfl⟩ ?_ ?_ hE ?_ ?_
  · rintro i m nx ⟨rfl, _⟩; exact .head _
  · intro v hv
    obtain ⟨u, _, _, _, _, _, _, _, h1, _⟩ := I.errs v hv
    exact ⟨u, h1⟩
  · rintro i v m₁ nx h tk It oI hv ⟨rfl, hm⟩ off F₁ N₁
    obtain ⟨u', e, d, t, oe, od, a, a', rfl, q1, q2, q3, q4, ho, ha, hP, _⟩ := I.errs v (List.mem_of_getElem? hv)
    have off' : ∀ p ∈ ((errs, PySem.W.listOf us.toArray cn) :: b2 :: T), p.1 ≠ It := fun p hp => off p hp _ (.head _)
    have up : ∀ p ∈ T, p ∈ (((errs, PySem.W.listOf us.toArray cn) :: b2 :: T) ++ [(It, oI)]) := fun p hp => List.mem_append.mpr (.inl (.tail _ (.tail _ hp)))
    have N₂ : News h₀ env.locals h ((u', tupObj [.ref e, .ref a, .ref a']) :: (e, oe) :: (d, od) :: (t, tupObj [.ref a]) :: (((errs, PySem.W.listOf us.toArray cn) :: b2 :: T) ++ [(It, oI)])) := fun p hp => N₁ p (by
      rcases List.mem_cons.mp hp with rfl | hp
      · exact up _ q1
      rcases List.mem_cons.mp hp with rfl | hp
      · exact up _ q2
      rcases List.mem_cons.mp hp with rfl | hp
      · exact up _ q3
      rcases List.mem_cons.mp hp with rfl | hp
      · exact up _ q4
      · exact hp)
    exact turn i u' e d t a a' oe od oI m₁ h tk It kstMark ho ha (I.pairs _ hP) off' (fx F₁ hm) N₂
  · rintro m₁ nx h tk ⟨rfl, hm⟩ F₁ N₁
    exact done m₁ h tk (fx F₁ hm) N₁
theorem turn5b_end {bs led : List (Addr × Obj)} {I : Addr} {oI : Obj} {i : Nat} {m₀ mm : Str → Option Value} {h : Heap} {s₁ : Shared} {tk : Nat} (F : Fr h₀ env.locals h mm) (N : News h₀ env.locals h led) (hs : ∀ p ∈ bs ++ [(I, oI)], p ∈ led) (off : ∀ p ∈ bs, p.1 ≠ I)
    (hm : ∀ z, look5.contains z = false → mm z = m₀ z) : EndT h₀ env.locals (Look5J bs m₀ i) [(I, oI)] s₁ { s₁ with heap := h, toks := tk } :=
  ⟨h, tk, mm, bs, rfl, F, fun p hp => N p (hs p (List.mem_append.mpr (.inl hp))), fun p hp => N p (hs p (List.mem_append.mpr (.inr hp))), fun p hp q hq => by rw [List.mem_singleton.mp hq]; exact off p hp, rfl, hm⟩
theorem turn5_new {errs D ta tw x y a a' : Addr} {oa ob : Obj} {c st : Str} {n : Int} {t1 t2 k1 k2 : Tok} {us ws : List Value} {cn i : Nat} {T own led led₀ : List (Addr × Obj)} {P : List (Addr × Addr)} {m₀ mm : Str → Option Value} {h : Heap} {s₁ : Shared} {tk : Nat} (F : Fr h₀ env.locals h mm)
    (N : News h₀ env.locals h ((y, tupObj [.int n t2, .str st k2]) :: (a', ob) :: (x, tupObj [.int n t1, .str st k1]) :: (a, oa) :: led)) (H : Led errs D us ws cn T own led₀) (sub : ∀ p ∈ base errs D us ws cn T own, p ∈ led) (I : Inv prog w (i + 1) T P us ta tw)
    (i1 : oa.IsDictOf (PySem.strKind prog w) [(c, .ref x)]) (i2 : ob.IsDictOf (PySem.strKind prog w) [(c, .ref y)]) (lo1 : (a == sysModules) = false) (lo2 : (a' == sysModules) = false) (f1 : AllLt a (T ++ own)) (f2 : AllLt a' (T ++ own)) (hlt : @LT.lt Nat _ a a')
    (hne : us ≠ []) (hl : us.length ≤ i + 1) (e1 : mm (Str.ofString "table") = some (.ref a)) (e2 : mm (Str.ofString "twin") = some (.ref a')) (hm : ∀ z, z ≠ Str.ofString "n" → turn05.contains z = false → mm z = m₀ z) :
    EndT h₀ env.locals (Kept5 prog w errs D ws m₀ (i + 1)) own s₁ { s₁ with heap := h, toks := tk } := by
  have H' := H.more (led' := (y, tupObj [.int n t2, .str st k2]) :: (a', ob) :: (x, tupObj [.int n t1, .str st k1]) :: (a, oa) :: led) fun p hp => .tail _ (.tail _ (.tail _ (.tail _ (sub p hp))))
  obtain ⟨I2, H2⟩ := inv_new N H' I (.head _) (.tail _ (.head _)) (.tail _ (.tail _ (.head _))) (.tail _ (.tail _ (.tail _ (.head _)))) i1 i2 lo1 lo2 hlt (fun p hp => allLt_off f1 p (List.mem_append.mpr (.inl hp))) (fun p hp => allLt_off f2 p (List.mem_append.mpr (.inl hp)))
  exact turn5_end F N H2 (I2.up (Nat.le_succ _)) hne (by omega) e1 e2 hm
theorem look5_ne {z : Str} (h : look5.contains z = false) : z ≠ Str.ofString "error" ∧ z ≠ Str.ofString "live" ∧ z ≠ Str.ofString "kept" := by
  have hn : z ∉ look5 := by
    intro hm
    rw [List.contains_iff_mem.mpr hm] at h
    cases h
  refine ⟨?_, ?_, ?_⟩ <;> (rintro rfl; exact hn (by k_mem))
end
end Mine

end

/-! A05 -/
open PySem PySem.W PyProof.Rows
namespace Mine
theorem ne0_len {us : List Value} (h : us ≠ []) : (us.length : Int) ≠ 0 := Int.ne_of_gt (pos_len h)
theorem mod_lt (n : Int) (m : Int) (h : 0 < m) : 0 ≤ Int.fmod n m ∧ Int.fmod n m < m := ⟨Int.fmod_nonneg_of_pos n h, Int.fmod_lt_of_pos n h⟩
theorem handed_mem {v : Value} {l : List Value} (h : v ∈ l) (hl : l.all handedIn = true) : handedIn v = true := List.all_eq_true.mp hl v h
end Mine
local macro_rules | `(tactic| walk_at "call ref") => `(tactic| (k_here; (with_reducible show wpAny _ _ (call (Value.ref 79) [_]) _ _ _); k_dflt (refine' Mine.raise_r _ _ _ _ _ _ _ _ _ _ _ _ _ _ _ _ _ _ _ _ ?kF ?kX ?kN ?kT ?kk ?kd ?ku ?_; (case kF => k_asm); (case kX => k_asm); (case kN => k_asm); (case kT => k_asm); (case kk => exact rfl); (case kd => exact Nat.le_of_ble_eq_true rfl); (case ku => exact Nat.le_of_ble_eq_true rfl)); intro re rd rt roe rod h' rtk ro rat F' N' rap; (try dsimp only); (try k_fold)))
local macro_rules | `(tactic| walk_at "eval Dict") => `(tactic| (k_here; k_dflt (refine' kdn_eval (knd := PySem.strKind _ _) ?F ?N ?b ?a ?l ?e ?n ?_; (case F => k_asm); (case N => first | k_asm | exact News.nil); (case b => exact Top.nolimit (by k_asm)); (case a => rfl); (case l => rfl); (case e => exact List.cons_ne_nil _ _); (case n => exact Nat.le_of_ble_eq_true rfl)); intro d' h' o' F' N' l1 lo' hd'; (try k_lt l1)))
local macro_rules | `(tactic| walk_at "exec For Name Name cons nil") => `(tactic| (k_here; (with_reducible show wpAny _ _ (exec (Stmt.For (Expr.Name (Str.ofString "n") _) (Expr.Name (Str.ofString "script") _) _ _ _) _) _ _ _); k_dflt (refine Mine.For_at ?_ (by intro _; rfl))))
local macro_rules | `(tactic| walk_at "pyIter ref") => `(tactic| (k_here; (with_reducible show wpAny _ _ (pyIter (Value.ref _)) (fun it s₂ => Mine.ForAt _ _ _ _ (Expr.Name _ _) _ _ _ it s₂) _ _); (rename Fr _ _ _ _ => lF'); (rename News _ _ _ _ => lN'); (with_reducible rename Mine.Apart3 _ _ _ _ => sap); (with_reducible rename Mine.ErrObj _ _ _ _ => sho); (with_reducible rename Mine.Attrs _ _ _ _ _ => sha); k_dflt (refine' Mine.iter5_s lF' lN' sho sha sap (.tail _ (.tail _ (.tail _ (.head _)))) (.tail _ (.head _)) (.tail _ (.tail _ (.tail _ (.tail _ (.head _))))) ?i1 ?i2 ?lo1 ?lo2 ?de ?De ?hlt (by rfl) ?khi ?kh (by rfl) (by rfl) (by rfl) (by rfl) ?kE ?kturn ?kdone; (case i1 => assumption); (case i2 => assumption); (case lo1 => assumption); (case lo2 => assumption); (case de => omega); (case De => omega); (case hlt => omega)); (case khi => with_reducible assumption); (case kh => omega); (case kE => passes_own); (case' kturn => (clear sap sho sha lF' lN'; intro ki kn knt kus kcn kT kP kta ktw ku kh ktk kit koit _ ki63 kune kul kInv kLed kFr kNews)); (case' kdone => (clear sap sho sha lF' lN'; intro kus kcn kT kP kta ktw ku kh ktk _ kInv kFr kNews)); (all_goals (try k_fold))))
local macro_rules | `(tactic| walk_at "call builtin:len") => `(tactic| (k_here; (with_reducible show wpAny _ _ (call (Value.builtin "len") [Value.ref _]) _ _ _); (rename Mine.Led _ _ _ _ _ _ _ _ => kled); k_dflt (refine' Mine.len_errs ?kN kled ?kz ?_; (case kN => k_asm); (case kz => omega))))
local macro_rules | `(tactic| walk_at "binaryOp Mod int int") => `(tactic| (k_here; (with_reducible show wpAny _ _ (binaryOp Operator.Mod (Value.int _ _) (Value.int (Nat.cast (List.length _)) _)) _ _ _); k_dflt (refine' PyProof.Rows.mod_int' ?kb ?_; (case kb => exact Mine.ne0_len (by with_reducible assumption)))))
local macro_rules | `(tactic| walk_at "subscriptTail") => `(tactic| (k_here; (with_reducible show wpAny _ _ (subscriptTail _ _ (Value.ref _) (Value.int (Int.fmod _ (Nat.cast (List.length _))) _)) _ _ _); (rename Mine.Led _ _ _ _ _ _ _ _ => kled); (rename Mine.Inv _ _ _ _ _ _ _ _ => kinv); (rename News _ _ _ _ => lN'); k_dflt (refine' Mine.pick_err lN' kled kinv ?k0 ?k1 ?k2 ?_ ?k3; (case k0 => exact (Mine.mod_lt _ _ (Mine.pos_len (by with_reducible assumption))).1); (case k1 => exact (Mine.mod_lt _ _ (Mine.pos_len (by with_reducible assumption))).2); (case k2 => omega); (case k3 => with_unfolding_all rfl)); intro ku ke kd kt koe kod ka ka' _ kho kha kmem N'))
local macro_rules | `(tactic| walk_at "setItem ref str") => `(tactic| (k_here; (with_reducible show wpAny _ _ (setItem (Value.ref _) (Value.str _ _) (Value.ref _)) _ _ _); (rename Mine.Led _ _ _ _ _ _ _ _ => kled); (rename Fr _ _ _ _ => lF'); (rename News _ _ _ _ => lN'); first
  | ((with_reducible rename Mine.Half _ _ _ _ _ _ _ _ _ _ _ => khalf); k_dflt (refine' Mine.tab_set2 lF' lN' (kled.more ?sub) khalf ?hx (.head _) ?hb ?_; (case sub => (intro p hp; repeat (first | exact hp | refine List.Mem.tail _ ?_))); (case hx => assumption); (case hb => omega)); clear khalf kled lF' lN'; intro h' kT' tk' F' N' kled' kinv'; (try dsimp only [Mine.base] at N'))
  | ((rename Mine.Inv _ _ _ _ _ _ _ _ => kinv); k_dflt (refine' Mine.tab_set1 lF' lN' (kled.more ?sub) kinv ?hp (.head _) ?hb ?_; (case sub => (intro p hp; repeat (first | exact hp | refine List.Mem.tail _ ?_))); (case hp => first | exact kinv.cur | with_reducible assumption); (case hb => omega)); clear kinv kled lF' lN'; intro h' kT' tk' F' N' kled' khalf' kxm'; (try dsimp only [Mine.base] at N'))))
local macro_rules | `(tactic| walk_at "getMethod ref") => `(tactic| (k_here; (with_reducible show wpAny _ _ (getMethod (Value.ref _) (Str.ofString "pop") _) _ _ _); (rename Mine.Led _ _ _ _ _ _ _ _ => kled); (rename News _ _ _ _ => lN'); first
  | ((with_reducible rename Mine.Half _ _ _ _ _ _ _ _ _ _ _ => khalf); k_dflt (refine' Mine.method2 lN' (kled.more ?sub) khalf ?_; (case sub => (intro p hp; repeat (first | exact hp | refine List.Mem.tail _ ?_)))))
  | ((rename Mine.Inv _ _ _ _ _ _ _ _ => kinv); k_dflt (refine' Mine.method1 lN' (kled.more ?sub) kinv ?hp ?_; (case sub => (intro p hp; repeat (first | exact hp | refine List.Mem.tail _ ?_))); (case hp => first | exact kinv.cur | with_reducible assumption)))))
local macro_rules | `(tactic| walk_at "call builtin:dict.pop") => `(tactic| (k_here; (with_reducible show wpAny _ _ (call (Value.builtin "dict.pop") [Value.ref _, Value.str _ _, Value.none]) _ _ _); (rename Mine.Led _ _ _ _ _ _ _ _ => kled); (rename Fr _ _ _ _ => lF'); (rename News _ _ _ _ => lN'); first
  | ((with_reducible rename Mine.Half _ _ _ _ _ _ _ _ _ _ _ => khalf); k_dflt (refine' Mine.tab_pop2 lF' lN' (kled.more ?sub) khalf ?hb ?_; (case sub => (intro p hp; repeat (first | exact hp | refine List.Mem.tail _ ?_))); (case hb => omega)); clear khalf kled lF' lN'; intro kv' h' kT' tk' F' N' kled' kinv'; (try dsimp only [Mine.base] at N'))
  | ((rename Mine.Inv _ _ _ _ _ _ _ _ => kinv); k_dflt (refine' Mine.tab_pop1 lF' lN' (kled.more ?sub) kinv ?hp ?hb ?_; (case sub => (intro p hp; repeat (first | exact hp | refine List.Mem.tail _ ?_))); (case hp => first | exact kinv.cur | with_reducible assumption); (case hb => omega)); clear kinv kled lF' lN'; intro kv' h' kT' tk' F' N' kled' khalf'; (try dsimp only [Mine.base] at N'))))
local macro_rules | `(tactic| walk_at "call type:list") => `(tactic| (k_here; (with_reducible show wpAny _ _ (call (Value.type "list") [Value.ref _]) _ _ _); (rename Mine.Led _ _ _ _ _ _ _ _ => kled); (rename Mine.Inv _ _ _ _ _ _ _ _ => kinv); (rename Fr _ _ _ _ => lF'); (rename News _ _ _ _ => lN'); k_dflt (refine' Mine.tab_list rfl lF' lN' (kled.more ?sub) kinv ?hb ?_; (case sub => (intro p hp; repeat (first | exact hp | refine List.Mem.tail _ ?_))); (case hb => omega)); clear lF' lN'; intro kB koB h' tk' F' N' l1; (try k_lt l1)))
local macro_rules | `(tactic| walk_at "getAttr ref") => `(tactic| (k_here; (with_reducible show wpAny _ _ (getAttr (Value.ref _) (Str.ofString "args") _) _ _ _); k_dflt (refine Mine.get_args (by k_asm) (by k_asm) (by k_asm) (Mine.cls63 _) (by assumption) (by k_mem) (by k_mem) ?_)))
local macro_rules | `(tactic| walk_at "getAttr ref") => `(tactic| (k_here; (with_reducible show wpAny _ _ (getAttr (Value.ref _) (Str.ofString "recipients") _) _ _ _); (with_reducible rename Mine.Attrs _ _ _ _ _ => kat); k_dflt (refine Mine.get_own (by k_asm) (by k_asm) (by k_asm) (Mine.cls63 _) (by assumption) (by k_mem) (by k_mem) Mine.en4 kat.2.2.2 rfl ?_)))
local macro_rules | `(tactic| walk_at "call builtin:list.append") => `(tactic| (k_here; (with_reducible show wpAny _ _ (call (Value.builtin "list.append") [Value.ref _, Value.ref _]) _ _ _); (rename Mine.Led _ _ _ _ _ _ _ _ => kled); (rename Mine.Inv _ _ _ _ _ _ _ _ => kinv); (rename Fr _ _ _ _ => lF'); (rename News _ _ _ _ => lN'); (with_reducible rename Mine.Apart3 _ _ _ _ => kap); (with_reducible rename Mine.ErrObj _ _ _ _ => kho); (with_reducible rename Mine.Attrs _ _ _ _ _ => kat); k_dflt (refine' Mine.append5 lF' lN' (kled.more ?sub) kinv (.head _) (.tail _ (.head _)) (.tail _ (.tail _ (.head _))) (.tail _ (.tail _ (.tail _ (.head _)))) kho kat kap ?nw ?hz ?_; (case sub => (intro p hp; repeat (first | exact hp | refine List.Mem.tail _ ?_))); (case nw => (intro p hp; repeat (first | exact hp | refine List.Mem.tail _ ?_))); (case hz => omega)); clear kinv kled lF' lN'; intro h' F' N' kled' kinv'))
local macro_rules | `(tactic| walk_at "call ref") => `(tactic| (k_here; (with_reducible show wpAny _ _ (call (Value.ref 72) [Value.ref _]) _ _ _); (with_reducible rename Mine.ErrObj _ _ _ _ => kho); (with_reducible rename Mine.Attrs _ _ _ _ _ => kat); (rename Fr _ _ _ _ => lF'); (rename News _ _ _ _ => lN'); k_dflt (refine' Mine.read5 _ _ _ _ _ _ _ _ _ _ _ _ _ _ _ _ _ _ _ _ _ _ _ _ _ lF' ?kX lN' ?kT ?kk ?kd ?ku kho kat ?hv ?me ?md ?mt ?_; (case kX => k_asm); (case kT => k_asm); (case kk => exact rfl); (case kd => exact Nat.le_of_ble_eq_true rfl); (case ku => exact Nat.le_of_ble_eq_true rfl); (case hv => first | exact rfl | exact Mine.handed_mem (by with_reducible assumption) rfl); (case me => k_mem); (case md => k_mem); (case mt => k_mem)); intro rD roD h' rtk rlo rdi F' N'; (try dsimp only); (try k_fold)))
local macro_rules | `(tactic| walk_at "subscriptTail") => `(tactic| (k_here; (with_reducible show wpAny _ _ (subscriptTail _ _ (Value.ref _) (Value.int (Int.fmod _ 5) _)) _ _ _); k_dflt (refine' Mine.pick_item ?kN ?kl ?k0 ?k1 ?k2 ?_ ?k3; (case kN => k_asm); (case kl => k_mem); (case k0 => exact (Mine.mod_lt _ _ (by decide)).1); (case k1 => exact (Mine.mod_lt _ _ (by decide)).2); (case k2 => exact Nat.le_of_ble_eq_true rfl); (case k3 => with_unfolding_all rfl)); intro pv' pm'))
local macro_rules | `(tactic| walk_at "exec For Tuple Name") => `(tactic| (k_here; (with_reducible show wpAny _ _ (exec (Stmt.For (Expr.Tuple _ _ _) (Expr.Name (Str.ofString "errors") _) _ _ _) _) _ _ _); k_dflt (refine Mine.For_at ?_ (by intro _; rfl))))
local macro_rules | `(tactic| walk_at "pyIter ref") => `(tactic| ((with_reducible show wpAny _ _ (pyIter (Value.ref _)) (fun it s₂ => Mine.ForAt _ _ _ _ (Expr.Tuple _ _ _) _ _ _ it s₂) _ _); (rename Mine.Inv _ _ _ _ _ _ _ _ => kinv); (rename Fr _ _ _ _ => lF'); (rename News _ _ _ _ => lN'); k_dflt (refine' Mine.iter5_2 (by rfl) kinv lF' lN' ?kE2 ?kT2 ?kdone2); (case kE2 => passes_own); (case' kT2 => (clear lF' lN' kinv; intro ki ku' ke kd kt ka ka' koe kod koI ku kh ktk kIt _ kho kat kpair kOff kFr kNews)); (case' kdone2 => (clear lF' lN' kinv; intro ku kh ktk kFr kNews)); (all_goals (try k_fold))))
local macro_rules | `(tactic| walk_at "compareOp NotEq ref ref") => `(tactic| (k_here; (with_reducible show wpAny _ _ (compareOp CmpOp.NotEq (Value.ref _) (Value.ref _)) _ _ _); (rename News _ _ _ _ => lN'); k_dflt (first
  | (refine' Mine.ne_rcpt lN' ?d1 ?d2 ?i1 ?i2 ?l1 ?l2 ?m1 ?m2 ?ku ?_; (case d1 => k_mem); (case d2 => k_mem); (case i1 => assumption); (case i2 => assumption); (case l1 => assumption); (case l2 => assumption); (case m1 => k_mem); (case m2 => k_mem); (case ku => exact Nat.le_of_ble_eq_true rfl))
  | ((rename Mine.PairAt _ _ _ _ _ _ => kpr); refine' Mine.ne_live lN' ?hs kpr ?ku ?_; (case hs => (intro p hp; repeat (first | exact List.mem_append.mpr (.inl hp) | refine List.Mem.tail _ ?_))); (case ku => exact Nat.le_of_ble_eq_true rfl))
  | ((rename Mine.PairAt _ _ _ _ _ _ => kpr); refine' Mine.ne_tab lN' ?hs kpr ?d1 ?d2 ?i1 ?i2 ?l1 ?l2 ?m1 ?m2 ?ku ?_; (case hs => (intro p hp; repeat (first | exact List.mem_append.mpr (.inl hp) | refine List.Mem.tail _ ?_))); (case d1 => k_mem); (case d2 => k_mem); (case i1 => assumption); (case i2 => assumption); (case l1 => assumption); (case l2 => assumption); (case m1 => k_mem); (case m2 => k_mem); (case ku => exact Nat.le_of_ble_eq_true rfl)))))
set_option maxHeartbeats 8000000 in
theorem PySem.Challenge.cw_dn0159_05_holds : PySem.Challenge.rw_dn0159_05.Holds := by
  refine Mine.hd (by (k_go0; (all_goals try k_fold); k_steps; all_goals first
    | exact absurd rfl (by assumption)
    | (exfalso; omega)
    | ((rename Fr _ _ _ _ => lF'); (rename News _ _ _ _ => lN'); refine' Mine.turn5b_end lF' lN' ?hs ?off ?hm; (case hs => (intro p hp; repeat (first | exact hp | refine List.Mem.tail _ ?_))); (case off => assumption); (case hm => (intro z z3; obtain ⟨a1, a2, a3⟩ := Mine.look5_ne z3; simp only [z3, a1, a2, a3, if_false, Bool.false_eq_true])))
    | ((rename Mine.Led _ _ _ _ _ _ _ _ => kled); (rename Mine.Inv _ _ _ _ _ _ _ _ => kinv); (rename Fr _ _ _ _ => lF'); (rename News _ _ _ _ => lN'); refine' Mine.turn5_end lF' lN' (kled.more ?sub) (Mine.Inv.up kinv ?up) ?ne ?len ?e1 ?e2 ?hm; (case e1 => rfl); (case e2 => rfl); (case sub => (intro p hp; repeat (first | exact hp | refine List.Mem.tail _ ?_))); (case up => omega); (case ne => first | assumption | simp); (case len => first | omega | (simp only [List.length_append, List.length_cons, List.length_nil]; omega)); (case hm => (intro z z1 z3; obtain ⟨a1, a2, a3, a4, a5, a6, a7, a8, a9, a10⟩ := Mine.names5_ne z3; simp only [z1, z3, a1, a2, a3, a4, a5, a6, a7, a8, a9, a10, if_false, Bool.false_eq_true])))
    | ((rename Mine.Led _ _ _ _ _ _ _ _ => kled); (rename Mine.Inv _ _ _ _ _ _ _ _ => kinv); (rename Fr _ _ _ _ => lF'); (rename News _ _ _ _ => lN'); (rename (_ < _ ∧ _ < _ ∧ _ < _ ∧ _ < _ ∧ _ < _ ∧ _ < _ ∧ AllLt _ _) => q1); (rename (_ < _ ∧ _ < _ ∧ _ < _ ∧ _ < _ ∧ _ < _ ∧ _ < _ ∧ _ < _ ∧ _ < _ ∧ AllLt _ _) => q2); refine' Mine.turn5_new lF' lN' kled ?sub kinv ?i1 ?i2 ?lo1 ?lo2 q1.2.2.2.2.2.2 q2.2.2.2.2.2.2.2.2 q2.2.1 ?ne ?len ?e1 ?e2 ?hm; (case i1 => assumption); (case i2 => assumption); (case lo1 => assumption); (case lo2 => assumption); (case e1 => rfl); (case e2 => rfl); (case sub => (intro p hp; repeat (first | exact hp | refine List.Mem.tail _ ?_))); (case ne => assumption); (case len => assumption); (case hm => (intro z z1 z3; obtain ⟨a1, a2, a3, a4, a5, a6, a7, a8, a9, a10⟩ := Mine.names5_ne z3; simp only [z1, z3, a1, a2, a3, a4, a5, a6, a7, a8, a9, a10, if_false, Bool.false_eq_true])))
    ))

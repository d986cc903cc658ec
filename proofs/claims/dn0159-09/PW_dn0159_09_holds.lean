import PyProof.Rows.All
import Wide.All
import OpenK.AllK
import Wide.FinOn
import OpenK.XGo
import PySem.Challenge.RW_dn0159_09
set_option Elab.async false
set_option maxRecDepth 100000

/-! the head -/
namespace Mine
set_option maxHeartbeats 8000000 in
open_top hd for PySem.Challenge.rw_dn0159_09
end Mine

/-! XE -/
section
open PySem PySem.W PySem.Calls PyProof.Rows Builtin Builtin.ObjectAttr
namespace Mine
/-! errors of own classes below OSError: their attributes -/
theorem wpAny_wide {α : Type} {M : Model} {A A' : Around} {t : Sem α} {Q : α → Shared → Prop} {E : Value → Shared → Prop} {s : Shared} (h : wpAny M A t Q E s)
    (e : A'.handled = A.handled) (hd : A'.depth ≤ A.depth) (hu : A'.units ≤ A.units) (hf : A.frames = none) (hg : A.guards = none) : wpAny M A' t Q E s := by
  intro Γ p hΓ
  refine h Γ p ⟨hΓ.1.trans e, Nat.le_trans hΓ.2.1 hd, ?_, ?_, Nat.le_trans hΓ.2.2.2.2 hu⟩
  · intro l hl; rw [hf] at hl; cases hl
  · intro l hl; rw [hg] at hl; cases hl

structure ExcCls (K : Frag) (C : Addr) : Prop where
  ga : findIn K (.ref C) "__getattribute__" = some (some (.builtin "BaseException.__getattribute__"))
  gh : findIn K (.ref C) "__getattr__" = some none
  args : findIn K (.ref C) "args" = some (some (.builtin "BaseException.args"))
  sub : mroIn K C (.type "BaseException") = some true

theorem ga_slot : Slot "OSError" "__getattribute__" "BaseException.__getattribute__" :=
  .of (owner := "BaseException") (n := "__getattribute__") (by rw [typeLookup_type, builtinLookup_eq_fast]; kernel_rfl) (by decide +kernel) (by decide +kernel) (by decide +kernel)
    (by first | exact .inl (by decide +kernel) | exact .inr (by decide +kernel)) (by rw [isSubtype_type]; kernel_rfl)

section
variable {prog : Program} {w : World} {A : Around} {E : Value → Shared → Prop} {s : Shared} {K : Frag} {x C : Addr} {ox : Obj} {od : Option Obj} {name : Str} {expr : Bool} {Q : Value → Shared → Prop}
theorem exc_check {nameV : Value} {Q : Unit → Shared → Prop} (X : K.In s.heap) (hC : ExcCls K C) (I : InstAt s.heap x ox C od) (hq : Q () s) :
    wpAny (model prog w) A (checkBuiltinCall "BaseException.__getattribute__" ⟨[.ref x, nameV], []⟩) Q E s := by
  have hk : builtinKind "BaseException.__getattribute__" = some .slot := by decide +kernel
  have hsplit : splitId "BaseException.__getattribute__" = some ("BaseException", "__getattribute__") := by decide +kernel
  have ha := F.args_bexc_ga (.ref x) nameV
  obtain ⟨hh', g, d, t, os⟩ := s
  have L0 := I.type (M := model prog w)
  have L1 := looks_mroIn (M := model prog w) X hC.sub
  simp only [checkBuiltinCall, hk, hsplit]
  refine wpAny_bind ?_
  unfold isInstance
  refine wpAny_bind (L0.at (L1.at ?_))
  repeat (any_goals (first | assumption | wp_step))

theorem exc_open (X : K.In s.heap) (hC : ExcCls K C) (I : InstAt s.heap x ox C od)
    (h : wpAny (model prog w) A.in1 (Builtin.«object.__getattribute__» ⟨[.ref x, .str name s.toks], []⟩) (fun fin s' => match fin with | .done (.ret v) => wpAny (model prog w) A (handedOut v) Q E s' | _ => False)
      (fun e s' => wpAny (model prog w) A (getattributeRaised (.ref x) (.str name s.toks) (.ref C) e none true expr) Q E s') { s with toks := s.toks + 1 }) :
    wpAny (model prog w) A (getAttr (.ref x) name expr) Q E s := by
  obtain ⟨hh, g, d, t, os⟩ := s
  have L0 := I.type (M := model prog w)
  have L1 := looks_findIn (M := model prog w) X hC.ga
  have L2 := looks_findIn (M := model prog w) X hC.gh
  have f3 := ga_slot.bind (.ref x)
  have hx0 : (expr && onTheHeap (Value.builtin "BaseException.__getattribute__")) = false := by cases expr <;> rfl
  unfold getAttr getAttrBy
  refine wpAny_bind (wpAny_mkText (wpAny_holding (wpAny_bind (L0.at (wpAny_bind (L1.at ?_))))))
  show wpAny _ _ (getAttrByItsOwn (.ref x) (.str name t) (.ref C) (.builtin "BaseException.__getattribute__") true expr) _ _ _
  unfold getAttrByItsOwn
  refine wpAny_bind (L2.at ?_)
  refine wpAny_bind (wpAny_attempt (wpAny_holding ?_))
  unfold callGetattribute
  rw [hx0]
  show wpAny _ _ (boundAndCalled _ _ _) _ _ _
  unfold boundAndCalled
  rw [f3]
  refine wpAny_bind (wpAny_pure ?_)
  refine wpAny_call ?_
  refine codeAny_call_builtin ga_slot.plain F.entry_bexc_ga (exc_check X hC I ?_)
  refine wpAny_mono h (fun fin s' z => ?_) fun _ _ z => z
  rcases fin with (_ | _ | _ | _) | _ <;> first | exact z | exact z.elim
theorem exc_value {v : Value} (X : K.In s.heap) (hC : ExcCls K C) (I : InstAt s.heap x ox C od) (hf : findObj K C od name = some (.value v)) (hh : handedIn v = true) (h : Q v { s with toks := s.toks + 1 }) :
    wpAny (model prog w) A (getAttr (.ref x) name expr) Q E s := by
  refine exc_open X hC I ?_
  obtain ⟨hh', g, d, t, os⟩ := s
  have L0 := I.type (M := model prog w)
  have L1 := looks_find (M := model prog w) X I hf
  refine wpAny_bind (wpAny_pure (wpAny_bind (wpAny_pure (wpAny_bind (L0.at (wpAny_bind (L1.at ?_)))))))
  refine wpAny_pure ?_
  show wpAny _ _ (handedOut v) _ _ _
  rw [handedOut_of hh]; exact wpAny_pure h
theorem args_get' {R : Result → Shared → Prop} {vs : Array Value} {t0 : Addr} (X : K.In s.heap) (hC : ExcCls K C) (I : InstAt s.heap x ox C od) (hd : ox.data = .fields vs) (h0 : vs[0]? = some (.ref t0)) (hq : R (.ok (.ret (.ref t0))) s) :
    codeAny (model prog w) A (.call (.builtin "getset_descriptor.__get__") ⟨[.builtin "BaseException.args", .ref x, .ref C], []⟩) R s := by
  obtain ⟨hh', g, d, t, os⟩ := s
  have hT5 : (⟨hh', g, d, t, os⟩ : Shared).TypeIs (.builtin "BaseException.args") "getset_descriptor" := F.typeOf_bexc_args
  have L0 := I.type (M := model prog w)
  have L1 := looks_mroIn (M := model prog w) X hC.sub
  have hx := I.at_
  refine codeAny_call_builtin F.slot_gs_get.plain F.entry_gs_get (F.slot_gs_get.check _ _ _ _ _ _ _ _ hT5 (F.args_gs_get _ _ _) ?_)
  have e1 := F.owner_bexc_args
  repeat (any_goals (first | assumption | (with_reducible refine wpAny_bind (L0.at ?_)) | (with_reducible refine L0.at ?_) | (rw [F.owner_bexc_args]; refine L1.at ?_) | wp_step))
  refine ⟨Code.quiet_builtin _ (by decide +kernel), codeAny_builtin F.entry_bexc_args ?_⟩
  have hnd : (Value.ref t0 == doubtfulMember) = false := by first | rfl | decide | simp [doubtfulMember, rawInt]
  unfold Builtin.«BaseException.args»
  repeat (any_goals (first | assumption | with_reducible refine wpAny_field hx hd h0 ?_ | wp_step))
theorem exc_args {vs : Array Value} {t0 : Addr} (X : K.In s.heap) (hC : ExcCls K C) (I : InstAt s.heap x ox C od) (hf : findObj K C od "args" = some (.bind (.builtin "getset_descriptor.__get__") (.builtin "BaseException.args")))
    (hd : ox.data = .fields vs) (h0 : vs[0]? = some (.ref t0)) (h : Q (.ref t0) { s with toks := s.toks + 1 }) :
    wpAny (model prog w) A (getAttr (.ref x) "args" expr) Q E s := by
  refine exc_open X hC I ?_
  obtain ⟨hh', g, d, t, os⟩ := s
  have L0 := I.type (M := model prog w)
  have L1 := looks_find (M := model prog w) X I hf
  refine wpAny_bind (wpAny_pure (wpAny_bind (wpAny_pure (wpAny_bind (L0.at (wpAny_bind (L1.at ?_)))))))
  show wpAny _ _ (holding [_] (call (.builtin "getset_descriptor.__get__") [.builtin "BaseException.args", .ref x, .ref C]) >>= ret) _ _ _
  refine wpAny_bind (wpAny_holding (wpAny_call (args_get' (s := ⟨hh', g, d, t + 1, os⟩) X hC I hd h0 ?_)))
  refine wpAny_pure ?_
  show wpAny _ _ (handedOut (.ref t0)) _ _ _
  exact wpAny_pure h
def shortName (K : Frag) (C : Addr) : Bool := match clsIn K C with
  | some cd => decide (cd.name.cps.foldl (fun k c => k + (Str.utf8Of c).length) 0 ≤ 100) && decide (cd.name.toString.length ≤ 50)
  | none => false
theorem exc_miss (X : K.In s.heap) (hC : ExcCls K C) (hn : shortName K C = true) (I : InstAt s.heap x ox C od) (hf : findObj K C od name = some .missing) (hA : A.handled = none) (hsz : name.length + 100 ≤ sizeLine)
    (h : ∀ h' tk e, Heap.NewExcOf s.heap h' e "AttributeError" → E (.ref e) { s with heap := h', toks := tk }) :
    wpAny (model prog w) A (getAttr (.ref x) name true) Q E s := by
  refine exc_open X hC I ?_
  obtain ⟨hh', g, d, t, os⟩ := s
  have L0 := I.type (M := model prog w)
  have L1 := looks_find (M := model prog w) X I hf
  refine wpAny_bind (wpAny_pure (wpAny_bind (wpAny_pure (wpAny_bind (L0.at (wpAny_bind (L1.at ?_)))))))
  unfold shortName at hn
  split at hn
  · rename_i cd hcd
    rw [Bool.and_eq_true, decide_eq_true_eq, decide_eq_true_eq] at hn
    have L2 := looks_clsIn (M := model prog w) X hcd
    show wpAny _ _ (noSuchAttribute (.ref x) name) _ _ _
    unfold noSuchAttribute typeNameOfCut shownTypeOf
    refine wpAny_bind (wpAny_bind (wpAny_bind (L0.at ?_)))
    refine wpAny_pure ?_
    unfold typeNameCut
    refine wpAny_bind (L2.at ?_)
    rw [if_pos hn.1]
    refine wpAny_pure ?_
    refine wpAny_raiseAttrError hA (fun h' tk e hx => ?_) (attrMsg_fits ?_ hsz)
    · have f1 := sub_AttributeError
      have f5 := looks_findIn (M := model prog w) X hC.gh
      obtain ⟨t', u', he⟩ := hx.there
      unfold getattributeRaised
      repeat (any_goals (first | assumption | wp_step))
      exact h _ _ _ hx.of
    · have q := hn.2
      show (toString "'" ++ toString cd.name.toString ++ toString "' object has no attribute '").length ≤ 90
      simp only [String.length_append, toString]
      have e1 : "'".length = 1 := by decide
      have e2 : "' object has no attribute '".length = 27 := by decide
      omega
  · cases hn
end
end Mine

end

/-! XS -/
section
open PySem PySem.W PySem.Calls PyProof.Rows
namespace Mine
/-! what noteFrame and setFlight do to the heap, to the letter -/
structure Noted (fs : List Addr) (h h' : Heap) (e : Addr) (oe : Obj) (T : Addr) (oT : Obj) : Prop where
  keep : ∀ b o, b ∉ fs → b ≠ e → h.get? b = some o → h'.get? b = some o
  frames : ∀ b o, b ∈ fs → b ≠ e → h.get? b = some o → ∃ sl, h'.get? b = some { o with slots := sl }
  new : h.get? T = none
  err : h'.get? e = some (Obj.mapFields (·.setIfInBounds 1 (.ref T)) oe)
  ne : T ≠ e
  at_ : h'.get? T = some oT
  flds : ∃ ts, oT.data = .fields ts ∧ 3 < ts.size
section
variable {M : Model} {A : Around} {E : Value → Shared → Prop} {s : Shared}
theorem entry_exact {env : Env} {outer : List Env} {L e : Addr} {oe : Obj} {vs : Array Value} {head : Value} {hadNext : Bool} {Q : Unit → Shared → Prop}
    (hfr : A.frames = some (env :: outer)) (hl : s.heap.FunFrames {} (env :: outer)) (hf : env.frame = some L)
    (he : s.heap.get? e = some oe) (hd : oe.data = .fields vs) (hsz : 1 < vs.size)
    (h : ∀ h' T oT, Noted ((env :: outer).filterMap (·.frame)) s.heap h' e oe T oT → Q () { s with heap := h' }) :
    wpAny M A (do let a ← frameOf env; let pl ← entryPlaceOf L hadNext; let b ← EntryCells.newEntry head a .none (rawInt L) .none pl; setField (.ref e) 1 b) Q E s := by
  have hene : e ∉ (env :: outer).filterMap (·.frame) := fun hm => by
    obtain ⟨_, o, ho, hnf⟩ := hl.mem hm
    rw [he] at ho; injection ho with ho; subst ho; exact hnf vs hd
  refine wpAny_bind (wpAny_frameOf_fun hfr hl hf fun h₁ hs₁ => ?_)
  refine wpAny_bind (wpAny_entryPlaceOf fun pl hpl => ?_)
  unfold EntryCells.newEntry newFields
  refine wpAny_bind (wpAny_newObj_type ?_ (hpl.sizeOk5 _ _ _ _ _))
  have he₁ : h₁.get? e = some oe := (hs₁.2.1 e hene).trans he
  have he₂ := Heap.get?_push_of_some (h := h₁) { cls := .type "traceback", dict := none, data := .fields ([head, .ref L, .none, rawInt L, .none] ++ (if pl.isEmpty then List.replicate 6 Value.none else pl)).toArray } he₁
  have hTe : h₁.objs.size ≠ e := Nat.ne_of_gt (Heap.lt_size he₁)
  have hd₃ := Obj.data_mapFields hd (·.setIfInBounds 1 (Value.ref h₁.objs.size))
  refine wpAny_setField he₂ hd hsz (h _ h₁.objs.size { cls := .type "traceback", dict := none, data := .fields ([head, .ref L, .none, rawInt L, .none] ++ (if pl.isEmpty then List.replicate 6 Value.none else pl)).toArray } ⟨fun b o hb hbe hbo => ?_, fun b o hb hbe hbo => ?_, ?_, ?_, hTe, ?_, ?_⟩)
  · rw [Heap.get?_update_other _ _ (Ne.symm hbe)]
    exact Heap.get?_push_of_some _ ((hs₁.2.1 b hb).trans hbo)
  · obtain ⟨sl, hsl⟩ := hs₁.2.2 b o hbo
    refine ⟨sl, ?_⟩
    rw [Heap.get?_update_other _ _ (Ne.symm hbe)]
    exact Heap.get?_push_of_some _ hsl
  · exact Heap.get?_none_of_le (by rw [hs₁.1]; exact Nat.le_refl _)
  · exact Heap.get?_update_self _ he₂ (Obj.isFreed_of_fields hd₃)
  · exact (Heap.get?_update_other _ _ (Ne.symm hTe)).trans (Heap.get?_push_size h₁ rfl)
  · exact ⟨_, rfl, by simp only [List.size_toArray, List.length_append, List.length_cons, List.length_nil]; omega⟩
theorem note_first {env : Env} {outer : List Env} {L e : Addr} {oe : Obj} {vs : Array Value} {Q : Unit → Shared → Prop}
    (hfr : A.frames = some (env :: outer)) (hl : s.heap.FunFrames {} (env :: outer)) (hf : env.frame = some L)
    (he : s.heap.get? e = some oe) (hd : oe.data = .fields vs) (h1 : vs[1]? = some .none)
    (h : ∀ h' T oT, Noted ((env :: outer).filterMap (·.frame)) s.heap h' e oe T oT → Q () { s with heap := h' }) :
    wpAny M A (noteFrame (.ref e) env) Q E s := by
  unfold noteFrame
  simp only [hf]
  refine wpAny_bind (wpAny_field he hd h1 ?_)
  rw [if_neg (by decide)]
  exact entry_exact hfr hl hf he hd (Array.getElem?_eq_some_iff.mp h1).1 h
end
/-- an error with its traceback, beside the ledger -/
structure Held (h₀ : Heap) (L : Addr) (h : Heap) (m : Str → Option Value) (news : List (Addr × Obj)) (e : Addr) (oe : Obj) (T : Addr) (oT : Obj) : Prop where
  fr : Fr h₀ L h m
  nw : News h₀ L h ((e, oe) :: (T, oT) :: news)
  ne : T ≠ e
  off : ∀ p ∈ news, p.1 ≠ T
  vs : ∃ vs ts, oe.data = .fields vs ∧ vs[1]? = some (.ref T) ∧ oT.data = .fields ts ∧ 3 < ts.size
/-- a traceback that is in flight nowhere -/
def Landed (oT : Obj) : Prop := ∃ ts, oT.data = .fields ts ∧ ts[3]? = some .none
theorem ns_keep {h h' : Heap} {L : Addr} {m : Str → Option Value} (n : h.Ns L m) (k : ∀ o, h.get? L = some o → ∃ sl, h'.get? L = some { o with slots := sl }) : h'.Ns L m := by
  obtain ⟨o, es, ep, ho, hd, r⟩ := n
  obtain ⟨sl, hs⟩ := k o ho
  exact ⟨_, es, ep, hs, hd, r⟩
section
variable {M : Model} {A : Around} {E : Value → Shared → Prop} {s : Shared} {h₀ : Heap} {L : Addr} {m : Str → Option Value} {news : List (Addr × Obj)} {e T : Addr} {oe oT : Obj}
theorem Held.flight' {Q : Unit → Shared → Prop} (H : Held h₀ L s.heap m news e oe T oT) (k : ∀ h' oT', Held h₀ L h' m news e oe T oT' → Landed oT' → Q () { s with heap := h' }) :
    wpAny M A (setFlight (.ref e) none) Q E s := by
  obtain ⟨F, N, ne, off, vs, ts, hd, h1, hdT, h3⟩ := H
  have he := (N _ (.head _)).1
  have hT := (N _ (.tail _ (.head _))).1
  have hTL : L ≠ T := fun q => (N _ (.tail _ (.head _))).2.1 q.symm
  have hd₃ := Obj.data_mapFields hdT (·.setIfInBounds 3 Value.none)
  have hs : Heap.SameBut T s.heap (s.heap.update T (Obj.mapFields (·.setIfInBounds 3 Value.none))) := Heap.SameBut.update ..
  refine wpAny_setFlight_none he hd h1 hT hdT h3 (k _ (Obj.mapFields (·.setIfInBounds 3 Value.none) oT) ⟨F.change hs (Ne.symm hTL) (N _ (.tail _ (.head _))).2.2, fun p hp => ?_, ne, off, vs, _, hd, h1, hd₃, by simpa using h3⟩ ⟨_, hd₃, by simp [h3]⟩)
  rcases List.mem_cons.mp hp with rfl | hp
  · exact ⟨(hs.2 _ (Ne.symm ne)).trans he, (N _ (.head _)).2⟩
  rcases List.mem_cons.mp hp with rfl | hp
  · exact ⟨Heap.get?_update_self _ hT (Obj.isFreed_of_fields hd₃), (N _ (.tail _ (.head _))).2⟩
  · have z := N p (.tail _ (.tail _ hp))
    exact ⟨(hs.2 _ (off p hp)).trans z.1, z.2⟩
theorem Held.flight {Q : Unit → Shared → Prop} (H : Held h₀ L s.heap m news e oe T oT) (k : ∀ h' oT', Held h₀ L h' m news e oe T oT' → Q () { s with heap := h' }) :
    wpAny M A (setFlight (.ref e) none) Q E s := H.flight' fun h' oT' H' _ => k h' oT' H'
end
section
variable {M : Model} {A₀ : Around} {E : Value → Shared → Prop} {s : Shared} {h₀ : Heap} {L L' a : Addr} {m : Str → Option Value} {news : List (Addr × Obj)} {e : Addr} {oe oL : Obj} {name : Str} {scope : Scope} {cd : Value} {env : Env} {vs : Array Value}
theorem funFrame_of {h h₀ : Heap} {L : Addr} {m : Str → Option Value} (F : Fr h₀ L h m) (hk : scope.kind = .function) : h.FunFrames {} [envOf name scope L a cd] := by
  obtain ⟨o, es, ep, ho, hd, _⟩ := F.ns
  refine ⟨?_, ⟨L, o, rfl, rfl, ho, fun vs q => by rw [hd] at q; cases q⟩, trivial⟩
  show scope.kind ≠ .module
  rw [hk]; decide
/-- the first frame of an error, in the outermost function -/
theorem note_own {Q : Unit → Shared → Prop} (hfr : A₀.frames = some []) (F : Fr h₀ L s.heap m) (N : News h₀ L s.heap ((e, oe) :: news)) (hne : ∀ p ∈ news, p.1 ≠ e)
    (hd : oe.data = .fields vs) (h1 : vs[1]? = some .none) (hk : scope.kind = .function)
    (k : ∀ h' T oT, Held h₀ L h' m news e (Obj.mapFields (·.setIfInBounds 1 (.ref T)) oe) T oT → Q () { s with heap := h' }) :
    wpAny M (A₀.deeper (envOf name scope L a cd)) (noteFrame (.ref e) (envOf name scope L a cd)) Q E s := by
  have he := (N _ (.head _)).1
  have hsz := (Array.getElem?_eq_some_iff.mp h1).1
  refine note_first (Around.frames_deeper hfr) (funFrame_of F hk) rfl he hd h1 fun h' T oT n => k h' T oT ?_
  have hT0 : h₀.get? T = none := by
    cases q : h₀.get? T with
    | none => rfl
    | some o => have := F.keep _ _ q; rw [n.new] at this; cases this
  have hTL : T ≠ L := by
    intro q
    obtain ⟨o, _, _, ho, _⟩ := F.ns
    have z := n.new
    rw [q, ho] at z; cases z
  have memL : ∀ b, b ≠ L → b ∉ ([envOf name scope L a cd].filterMap (·.frame)) := fun b hb hm => hb (List.mem_singleton.mp hm)
  have heL : e ≠ L := (N _ (.head _)).2.1
  refine ⟨⟨ns_keep F.ns fun o ho => n.frames L o (List.mem_singleton.mpr rfl) (Ne.symm heL) ho, fun b o hb => ?_, F.above⟩, fun p hp => ?_, n.ne, fun p hp q => ?_, ?_⟩
  · have b1 : b ≠ L := Nat.ne_of_lt (Nat.lt_of_lt_of_le (Heap.lt_size hb) F.above)
    have b2 : b ≠ e := fun q => by have z := (N _ (.head _)).2.2; rw [q] at hb; rw [z] at hb; cases hb
    exact n.keep b o (memL b b1) b2 (F.keep b o hb)
  · rcases List.mem_cons.mp hp with rfl | hp
    · exact ⟨n.err, heL, (N _ (.head _)).2.2⟩
    rcases List.mem_cons.mp hp with rfl | hp
    · exact ⟨n.at_, hTL, hT0⟩
    · have z := N p (.tail _ hp)
      exact ⟨n.keep _ _ (memL _ z.2.1) (hne p hp) z.1, z.2⟩
  · have z := N p (.tail _ hp)
    have y := n.new
    rw [← q, z.1] at y; cases y
  · obtain ⟨ts, t1, t2⟩ := n.flds
    exact ⟨_, ts, Obj.data_mapFields hd _, by simp [hsz], t1, t2⟩
/-- the first frame of an error, in a function that the outermost one called -/
theorem note_in {Q : Unit → Shared → Prop} (hfr : A₀.frames = some [env]) (henv : env.frame = some L) (hkind : env.scope.kind ≠ .module) (hdL : ∃ es ep, oL.data = .dict es ep)
    (F : Fr h₀ L' s.heap m) (N : News h₀ L' s.heap ((e, oe) :: (L, oL) :: news)) (hne : ∀ p ∈ news, p.1 ≠ e) (hnL : ∀ p ∈ news, p.1 ≠ L)
    (hd : oe.data = .fields vs) (h1 : vs[1]? = some .none) (hk : scope.kind = .function)
    (k : ∀ h' sl T oT, Held h₀ L' h' m ((L, { oL with slots := sl }) :: news) e (Obj.mapFields (·.setIfInBounds 1 (.ref T)) oe) T oT → Q () { s with heap := h' }) :
    wpAny M (A₀.deeper (envOf name scope L' a cd)) (noteFrame (.ref e) (envOf name scope L' a cd)) Q E s := by
  have he := (N _ (.head _)).1
  have hLo := (N _ (.tail _ (.head _)))
  have hsz := (Array.getElem?_eq_some_iff.mp h1).1
  have fs : s.heap.FunFrames {} [envOf name scope L' a cd, env] := by
    obtain ⟨q1, q2, _⟩ := funFrame_of (a := a) (name := name) (cd := cd) F hk
    obtain ⟨es, ep, hdd⟩ := hdL
    exact ⟨q1, q2, hkind, ⟨L, oL, henv, rfl, hLo.1, fun vs q => by rw [hdd] at q; cases q⟩, trivial⟩
  have fsE : [envOf name scope L' a cd, env].filterMap (·.frame) = [L', L] := by
    simp only [List.filterMap_cons, List.filterMap_nil, henv]; rfl
  have heL : e ≠ L := by
    intro q
    obtain ⟨es, ep, hdd⟩ := hdL
    have z := hLo.1
    change s.heap.get? L = some oL at z
    rw [← q, he] at z
    injection z with z
    have z' : oe = oL := z
    rw [← z', hd] at hdd; cases hdd
  refine note_first (Around.frames_deeper hfr) fs rfl he hd h1 fun h' T oT n => ?_
  rw [fsE] at n
  obtain ⟨sl, hsl⟩ := n.frames L oL (.tail _ (.head _)) (Ne.symm heL) hLo.1
  have hT0 : h₀.get? T = none := by
    cases q : h₀.get? T with
    | none => rfl
    | some o => have := F.keep _ _ q; rw [n.new] at this; cases this
  have hTL : T ≠ L' := by
    intro q
    obtain ⟨o, _, _, ho, _⟩ := F.ns
    have z := n.new
    rw [q, ho] at z; cases z
  have hTL2 : L ≠ T := by
    intro q
    have z := n.new
    rw [← q, hLo.1] at z; cases z
  have heL' : e ≠ L' := (N _ (.head _)).2.1
  have mem2 : ∀ b, b ≠ L' → b ≠ L → b ∉ [L', L] := fun b h1 h2 hm => by
    rcases List.mem_cons.mp hm with q | hm
    · exact h1 q
    · exact h2 (List.mem_singleton.mp hm)
  refine k h' sl T oT ⟨⟨ns_keep F.ns fun o ho => n.frames L' o (.head _) (Ne.symm heL') ho, fun b o hb => ?_, F.above⟩, fun p hp => ?_, n.ne, fun p hp q => ?_, ?_⟩
  · have b1 : b ≠ L' := Nat.ne_of_lt (Nat.lt_of_lt_of_le (Heap.lt_size hb) F.above)
    have b2 : b ≠ e := fun q => by have z := (N _ (.head _)).2.2; rw [q] at hb; rw [z] at hb; cases hb
    have b3 : b ≠ L := fun q => by have z := hLo.2.2; rw [q] at hb; rw [z] at hb; cases hb
    exact n.keep b o (mem2 b b1 b3) b2 (F.keep b o hb)
  · rcases List.mem_cons.mp hp with rfl | hp
    · exact ⟨n.err, heL', (N _ (.head _)).2.2⟩
    rcases List.mem_cons.mp hp with rfl | hp
    · exact ⟨n.at_, hTL, hT0⟩
    rcases List.mem_cons.mp hp with rfl | hp
    · exact ⟨hsl, hLo.2⟩
    · have z := N p (.tail _ (.tail _ hp))
      exact ⟨n.keep _ _ (mem2 _ z.2.1 (hnL p hp)) (hne p hp) z.1, z.2⟩
  · rcases List.mem_cons.mp hp with rfl | hp
    · exact hTL2 q
    · have z := N p (.tail _ (.tail _ hp))
      have y := n.new
      rw [← q, z.1] at y; cases y
  · obtain ⟨ts, t1, t2⟩ := n.flds
    exact ⟨_, ts, Obj.data_mapFields hd _, by simp [hsz], t1, t2⟩
end
end Mine

end

/-! XC -/
section
open PySem PySem.W PySem.Calls PyProof.Rows
namespace Mine
/-! a new built-in error caught by an except clause of its class or one above -/
section
variable {prog : Program} {w : World} {A₀ : Around} {E : Value → Shared → Prop} {s' : Shared} {h₀ h : Heap} {L L' a e : Addr} {m : Str → Option Value} {name : Str} {scope : Scope} {cd : Value}
  {b₀ : Stmt} {suite : List Stmt} {pos np : Pos} {rest : List ExceptHandler} {Q : Flow → Shared → Prop} {news : List (Addr × Obj)} {KF : Frag} {oL : Obj} {env : Env}
  {p : Program} {loose : List Str} {mean : ExcName → Option Value} {mg mb : Str → Option Value} {x : Str} {X T' : String}
theorem news_up {news : List (Addr × Obj)} (N : News h₀ L h news) {h' : Heap} (k : ∀ b o, h.get? b = some o → h'.get? b = some o) : News h₀ L h' news := fun p hp => ⟨k _ _ (N p hp).1, (N p hp).2⟩
theorem fr_up (F : Fr h₀ L h m) {h' : Heap} (k : ∀ b o, h.get? b = some o → h'.get? b = some o) : Fr h₀ L h' m :=
  ⟨ns_keep F.ns fun o ho => ⟨o.slots, k _ _ ho⟩, fun b o hb => k _ _ (F.keep b o hb), F.above⟩
theorem new_off {X : String} {h' : Heap} (hx : Heap.NewExcOf h h' e X) (N : News h₀ L h news) : ∀ p ∈ news, p.1 ≠ e := fun p hp q => by
  have z := (N p hp).1
  rw [q, hx.new] at z; cases z
theorem new_led {X : String} {h' : Heap} (hx : Heap.NewExcOf h h' e X) (F : Fr h₀ L h m) (N : News h₀ L h news) : ∃ oe vs, oe.cls = .type X ∧ oe.data = .fields vs ∧ vs[1]? = some .none ∧ News h₀ L h' ((e, oe) :: news) := by
  obtain ⟨oe, vs, he, hc, hd, h1⟩ := hx.there
  refine ⟨oe, vs, hc, hd, h1, fun p hp => ?_⟩
  rcases List.mem_cons.mp hp with rfl | hp
  · refine ⟨he, fun q => ?_, ?_⟩
    · obtain ⟨o, _, _, ho, _⟩ := F.ns
      have z := hx.new
      have q : e = L := q
      rw [q, ho] at z; cases z
    · cases z : h₀.get? e with
      | none => rfl
      | some o => have y := F.keep _ _ z; rw [hx.new] at y; cases y
  · exact ⟨hx.keeps _ _ (N p hp).1, (N p hp).2⟩
theorem held_suite {T : Addr} {oe oT : Obj} {envf : Env} (henvf : envf = envOf name scope L' a cd) (H : Held h₀ L' s'.heap m news e oe T oT) (hc : oe.cls = .type X) (KX : KF.In h₀) (TT : TopRead p loose mg mb h₀)
    (ex : nsIn KF mainGlobals x = some none) (hv : bootBuiltins x = some (.type T')) (hn' : x ≠ "__name__")
    (hexc : isSubtype (.type T') (.type "BaseException") = pure true) (hnt : isSubtype (.type ((Manifest.find? T').elim "type" fun y => y.metatype)) (.type "tuple") = pure false) (hsub : isSubtype (.type X) (.type T') = pure true)
    (k : ∀ h' oT', Held h₀ L' h' m news e oe T oT' → wpAny (model prog w) ((A₀.deeper envf).mark (some (.ref e))) (execs (b₀ :: suite) envf) Q E { s' with heap := h' })
    (hk : scope.kind = .function) (hxk : envf.kindOf x = some .globalImplicit) (hdb : (x == ("__debug__" : Str)) = false)
    (hE : PassesOwnAt (model prog w) ((A₀.deeper envf).mark (some (.ref e))) (A₀.deeper envf) envf E) :
    wpAny (model prog w) (A₀.deeper envf) (setFlight (.ref e) none) (fun _ s₃ => wpAny (model prog w) (A₀.deeper envf) (handleBy (.ref e) envf (.ExceptHandler (some (.Name x np)) none (b₀ :: suite) pos :: rest)) Q E s₃) E s' := by
  subst henvf
  refine H.flight fun h₂ oT₂ H₂ => ?_
  refine wpAny_handleBy_builtin (X := X) (T := T') (b := true) hexc hnt hsub (name_B H₂.fr KX TT ex hv hn' ⟨rfl, ⟨oe, (H₂.nw _ (.head _)).1, hc⟩, ?_⟩ hk hxk hdb)
  rw [if_pos rfl]
  exact H₂.flight fun h₃ oT₃ H₃ => wpAny_passesOwnAt hE (k h₃ oT₃ H₃)
theorem caught_own (hfr : A₀.frames = some []) (hx : Heap.NewExcOf h s'.heap e X) (F : Fr h₀ L h m) (N : News h₀ L h news) (KX : KF.In h₀) (TT : TopRead p loose mg mb h₀)
    (ex : nsIn KF mainGlobals x = some none) (hv : bootBuiltins x = some (.type T')) (hn' : x ≠ "__name__")
    (hexc : isSubtype (.type T') (.type "BaseException") = pure true) (hnt : isSubtype (.type ((Manifest.find? T').elim "type" fun y => y.metatype)) (.type "tuple") = pure false) (hsub : isSubtype (.type X) (.type T') = pure true)
    (k : ∀ h', Fr h₀ L h' m → News h₀ L h' news → wpAny (model prog w) ((A₀.deeper (envOf name scope L a cd)).mark (some (.ref e))) (execs (b₀ :: suite) (envOf name scope L a cd)) Q E { s' with heap := h' })
    (hk : scope.kind = .function) (hxk : (envOf name scope L a cd).kindOf x = some .globalImplicit) (hdb : (x == ("__debug__" : Str)) = false)
    (hE : PassesOwnAt (model prog w) ((A₀.deeper (envOf name scope L a cd)).mark (some (.ref e))) (A₀.deeper (envOf name scope L a cd)) (envOf name scope L a cd) E) :
    wpAny (model prog w) (A₀.deeper (envOf name scope L a cd)) (noteFrame (.ref e) (envOf name scope L a cd))
      (fun _ s₂ => wpAny (model prog w) (A₀.deeper (envOf name scope L a cd)) (setFlight (.ref e) none) (fun _ s₃ =>
        wpAny (model prog w) (A₀.deeper (envOf name scope L a cd)) (handleBy (.ref e) (envOf name scope L a cd) (.ExceptHandler (some (.Name x np)) none (b₀ :: suite) pos :: rest)) Q E s₃) E s₂) E s' := by
  obtain ⟨oe, vs, hc, hd, h1, N'⟩ := new_led hx F N
  refine note_own hfr (fr_up F hx.keeps) N' (new_off hx N) hd h1 hk fun h₁ T oT H => ?_
  exact held_suite (s' := { s' with heap := h₁ }) rfl H ((Obj.cls_mapFields _ _).trans hc) KX TT ex hv hn' hexc hnt hsub (fun h' oT' H' => k h' H'.fr fun q hq => H'.nw q (.tail _ (.tail _ hq))) hk hxk hdb hE
theorem caught_in (hfr : A₀.frames = some [env]) (henv : env.frame = some L) (hkind : env.scope.kind ≠ .module) (hdL : ∃ es ep, oL.data = .dict es ep) (hnL : ∀ p ∈ news, p.1 ≠ L)
    (hx : Heap.NewExcOf h s'.heap e X) (F : Fr h₀ L' h m) (N : News h₀ L' h ((L, oL) :: news)) (KX : KF.In h₀) (TT : TopRead p loose mg mb h₀)
    (ex : nsIn KF mainGlobals x = some none) (hv : bootBuiltins x = some (.type T')) (hn' : x ≠ "__name__")
    (hexc : isSubtype (.type T') (.type "BaseException") = pure true) (hnt : isSubtype (.type ((Manifest.find? T').elim "type" fun y => y.metatype)) (.type "tuple") = pure false) (hsub : isSubtype (.type X) (.type T') = pure true)
    (k : ∀ h' sl, Fr h₀ L' h' m → News h₀ L' h' ((L, { oL with slots := sl }) :: news) → wpAny (model prog w) ((A₀.deeper (envOf name scope L' a cd)).mark (some (.ref e))) (execs (b₀ :: suite) (envOf name scope L' a cd)) Q E { s' with heap := h' })
    (hk : scope.kind = .function) (hxk : (envOf name scope L' a cd).kindOf x = some .globalImplicit) (hdb : (x == ("__debug__" : Str)) = false)
    (hE : PassesOwnAt (model prog w) ((A₀.deeper (envOf name scope L' a cd)).mark (some (.ref e))) (A₀.deeper (envOf name scope L' a cd)) (envOf name scope L' a cd) E) :
    wpAny (model prog w) (A₀.deeper (envOf name scope L' a cd)) (noteFrame (.ref e) (envOf name scope L' a cd))
      (fun _ s₂ => wpAny (model prog w) (A₀.deeper (envOf name scope L' a cd)) (setFlight (.ref e) none) (fun _ s₃ =>
        wpAny (model prog w) (A₀.deeper (envOf name scope L' a cd)) (handleBy (.ref e) (envOf name scope L' a cd) (.ExceptHandler (some (.Name x np)) none (b₀ :: suite) pos :: rest)) Q E s₃) E s₂) E s' := by
  obtain ⟨oe, vs, hc, hd, h1, N'⟩ := new_led hx F N
  refine note_in hfr henv hkind hdL (fr_up F hx.keeps) N' (fun p hp => new_off hx N p (.tail _ hp)) hnL hd h1 hk fun h₁ sl T oT H => ?_
  exact held_suite (s' := { s' with heap := h₁ }) rfl H ((Obj.cls_mapFields _ _).trans hc) KX TT ex hv hn' hexc hnt hsub (fun h' oT' H' => k h' sl H'.fr fun q hq => H'.nw q (.tail _ (.tail _ hq))) hk hxk hdb hE
end
end Mine

end

/-! XA -/
section
open PySem PySem.W PySem.Calls PyProof.Rows
namespace Mine
/-! the errors' objects in the ledger; their attributes -/
def errNames : List Str := [Str.ofString "smtp_code", Str.ofString "smtp_error", Str.ofString "sender", Str.ofString "recipients"]
def errCls (K : Frag) (C : Addr) : Bool :=
  findIn K (.ref C) "__getattribute__" == some (some (.builtin "BaseException.__getattribute__")) && findIn K (.ref C) "__getattr__" == some none && findIn K (.ref C) "args" == some (some (.builtin "BaseException.args")) &&
  mroIn K C (.type "BaseException") == some true && (match clsIn K C with | some cd => cd.hasDict | none => false) && errNames.all (fun n => findIn K (.ref C) n == some none) && shortName K C
structure ErrCls (K : Frag) (C : Addr) : Prop extends ExcCls K C where
  cls : ∃ cd, clsIn K C = some cd ∧ cd.hasDict = true
  no : ∀ n ∈ errNames, findIn K (.ref C) n = some none
  short : shortName K C = true
theorem errCls_of {K : Frag} {C : Addr} (h : errCls K C = true) : ErrCls K C := by
  simp only [errCls, Bool.and_eq_true, beq_iff_eq, List.all_eq_true] at h
  obtain ⟨⟨⟨⟨⟨⟨h1, h2⟩, h3⟩, h4⟩, h5⟩, h6⟩, h7⟩ := h
  refine ⟨⟨h1, h2, h3, h4⟩, ?_, h6, h7⟩
  split at h5
  · rename_i cd hcd; exact ⟨cd, hcd, h5⟩
  · cases h5
structure ErrObj (C d t : Addr) (oe : Obj) : Prop where
  cls : oe.cls = .ref C
  dict : oe.dict = some d
  data : ∃ vs, oe.data = .fields vs ∧ vs[0]? = some (.ref t)
section
variable {K : Frag} {h : Heap} {C e d t : Addr} {oe od : Obj} {name : Str} {v : Value}
theorem inst_of (ho : ErrObj C d t oe) (he : h.get? e = some oe) (hd : h.get? d = some od) : InstAt h e oe C (some od) := by
  obtain ⟨vs, h1, h2⟩ := ho.data
  refine ⟨he, ho.cls, ?_, ?_⟩
  · unfold notCls; rw [h1]
  · rw [ho.dict]; exact hd
theorem spec_get (K : Frag) : specialIn K (.builtin "BaseException.args") "__get__" = some (some (.builtin "getset_descriptor.__get__")) := by
  have e : typeIn K (.builtin "BaseException.args") = some (.type "getset_descriptor") := by
    show pureOf (fastBuiltinType "BaseException.args") = _
    kernel_rfl
  unfold specialIn
  rw [e]
  show fastLookup "getset_descriptor" "__get__" = _
  kernel_rfl
theorem spec_set (K : Frag) : specialIn K (.builtin "BaseException.args") "__set__" = some (some (.builtin "getset_descriptor.__set__")) := by
  have e : typeIn K (.builtin "BaseException.args") = some (.type "getset_descriptor") := by
    show pureOf (fastBuiltinType "BaseException.args") = _
    kernel_rfl
  unfold specialIn
  rw [e]
  show fastLookup "getset_descriptor" "__set__" = _
  kernel_rfl
theorem find_args (hC : ErrCls K C) (od : Option Obj) : findObj K C od "args" = some (.bind (.builtin "getset_descriptor.__get__") (.builtin "BaseException.args")) := by
  obtain ⟨cd, hcd, _⟩ := hC.cls
  have e : takesIn K (.builtin "BaseException.args") = some true := by unfold takesIn; rw [spec_set]
  unfold findObj
  simp only [hcd, hC.args, spec_get, e, Option.bind_some]
theorem find_own (hC : ErrCls K C) (hn : name ∈ errNames) (hl : lookIn name od = some (some v)) : findObj K C (some od) name = some (.value v) := by
  obtain ⟨cd, hcd, hh⟩ := hC.cls
  unfold findObj W.ownOf
  simp only [hcd, hC.no name hn, hh, hl, Option.bind_some, if_true]
theorem names_plain (hn : name ∈ errNames) : copiedNames.contains name = false := by
  have h : ∀ n ∈ errNames, copiedNames.contains n = false := by decide +kernel
  exact h name hn
theorem names_short (hn : name ∈ errNames) : name.length + 100 ≤ sizeLine := by
  have h : ∀ n ∈ errNames, n.length + 100 ≤ sizeLine := by decide +kernel
  exact h name hn
theorem find_miss (hC : ErrCls K C) (hn : name ∈ errNames) (hl : lookIn name od = some none) : findObj K C (some od) name = some .missing := by
  obtain ⟨cd, hcd, hh⟩ := hC.cls
  unfold findObj W.ownOf
  simp only [hcd, hC.no name hn, hh, hl, Option.bind_some, if_true, names_plain hn, Bool.false_and]
  rfl
end
section
variable {prog : Program} {w : World} {A : Around} {E : Value → Shared → Prop} {s : Shared} {K : Frag} {h₀ : Heap} {L C e d t : Addr} {m : Str → Option Value} {oe od : Obj} {name : Str} {expr : Bool} {v : Value} {Q : Value → Shared → Prop} {news : List (Addr × Obj)}
theorem get_args (F : Fr h₀ L s.heap m) (N : News h₀ L s.heap news) (X : K.In h₀) (hC : ErrCls K C) (ho : ErrObj C d t oe) (m1 : (e, oe) ∈ news) (m2 : (d, od) ∈ news) (h : Q (.ref t) { s with toks := s.toks + 1 }) :
    wpAny (model prog w) A (getAttr (.ref e) "args" expr) Q E s := by
  obtain ⟨vs, h1, h2⟩ := ho.data
  exact exc_args (X.keeps F.keep) hC.toExcCls (inst_of ho (N _ m1).1 (N _ m2).1) (find_args hC _) h1 h2 h
theorem get_own (F : Fr h₀ L s.heap m) (N : News h₀ L s.heap news) (X : K.In h₀) (hC : ErrCls K C) (ho : ErrObj C d t oe) (m1 : (e, oe) ∈ news) (m2 : (d, od) ∈ news) (hn : name ∈ errNames) (hl : lookIn name od = some (some v)) (hv : handedIn v = true)
    (h : Q v { s with toks := s.toks + 1 }) : wpAny (model prog w) A (getAttr (.ref e) name expr) Q E s :=
  exc_value (X.keeps F.keep) hC.toExcCls (inst_of ho (N _ m1).1 (N _ m2).1) (find_own hC hn hl) hv h
theorem get_miss (F : Fr h₀ L s.heap m) (N : News h₀ L s.heap news) (X : K.In h₀) (hC : ErrCls K C) (ho : ErrObj C d t oe) (m1 : (e, oe) ∈ news) (m2 : (d, od) ∈ news) (hn : name ∈ errNames) (hl : lookIn name od = some none) (hA : A.handled = none)
    (h : ∀ h' tk e', Heap.NewExcOf s.heap h' e' "AttributeError" → E (.ref e') { s with heap := h', toks := tk }) : wpAny (model prog w) A (getAttr (.ref e) name true) Q E s :=
  exc_miss (X.keeps F.keep) hC.toExcCls hC.short (inst_of ho (N _ m1).1 (N _ m2).1) (find_miss hC hn hl) hA (names_short hn) h
end
theorem isExc_AttributeError : isSubtype (.type "AttributeError") (.type "BaseException") = pure true := by rw [isSubtype_type]; kernel_rfl
theorem notTuple_AttributeError : isSubtype (.type ((Manifest.find? "AttributeError").elim "type" fun y => y.metatype)) (.type "tuple") = pure false := by
  have e : ((Manifest.find? "AttributeError").elim "type" fun y => y.metatype) = "type" := by decide +kernel
  rw [e, isSubtype_type]; kernel_rfl
theorem boot_AttributeError : bootBuiltins "AttributeError" = some (.type "AttributeError") := by decide +kernel
section
variable {prog : Program} {w : World} {A₀ : Around} {E : Value → Shared → Prop} {s' : Shared} {h₀ h : Heap} {L L' a e D : Addr} {m m' : Str → Option Value} {name : Str} {scope : Scope} {cd : Value}
  {b₀ : Stmt} {suite : List Stmt} {pos np : Pos} {rest : List ExceptHandler} {Q : Flow → Shared → Prop} {news : List (Addr × Obj)} {KF : Frag} {oL oD : Obj} {env : Env}
  {p : Program} {loose : List Str} {mean : ExcName → Option Value} {mg mb : Str → Option Value} {x : Str}
theorem news_swap {p q : Addr × Obj} {r : List (Addr × Obj)} (N : News h₀ L h (p :: q :: r)) : News h₀ L h (q :: p :: r) := fun z hz => N z (by
  rcases List.mem_cons.mp hz with rfl | hz
  · exact .tail _ (.head _)
  rcases List.mem_cons.mp hz with rfl | hz
  · exact .head _
  · exact .tail _ (.tail _ hz))
theorem caught_attr (hfr : A₀.frames = some [env]) (henv : env.frame = some L) (hkind : env.scope.kind = .function) (C : TI.Caller h₀ L m' oL) (hlt : L < D) (hnL : ∀ p ∈ news, p.1 ≠ L)
    (hx : Heap.NewExcOf h s'.heap e "AttributeError") (F : Fr h₀ L' h m) {sl₀ : Array (Option Value)} (N : News h₀ L' h ((D, oD) :: (L, { oL with slots := sl₀ }) :: news)) (KX : KF.In h₀) (TT : Top p loose mean mg mb h₀)
    (ex : nsIn KF mainGlobals (Str.ofString "AttributeError") = some none)
    (k : ∀ h' sl, Fr h₀ L' h' m → News h₀ L' h' ((D, oD) :: (L, { oL with slots := sl }) :: news) → wpAny (model prog w) ((A₀.deeper (envOf name scope L' a cd)).mark (some (.ref e))) (execs (b₀ :: suite) (envOf name scope L' a cd)) Q E { s' with heap := h' })
    (hk : scope.kind = .function) (hxk : (envOf name scope L' a cd).kindOf (Str.ofString "AttributeError") = some .globalImplicit)
    (hE : PassesOwnAt (model prog w) ((A₀.deeper (envOf name scope L' a cd)).mark (some (.ref e))) (A₀.deeper (envOf name scope L' a cd)) (envOf name scope L' a cd) E) :
    wpAny (model prog w) (A₀.deeper (envOf name scope L' a cd)) (noteFrame (.ref e) (envOf name scope L' a cd))
      (fun _ s₂ => wpAny (model prog w) (A₀.deeper (envOf name scope L' a cd)) (setFlight (.ref e) none) (fun _ s₃ =>
        wpAny (model prog w) (A₀.deeper (envOf name scope L' a cd)) (handleBy (.ref e) (envOf name scope L' a cd) (.ExceptHandler (some (.Name (Str.ofString "AttributeError") np)) none (b₀ :: suite) pos :: rest)) Q E s₃) E s₂) E s' := by
  refine caught_in (oL := { oL with slots := sl₀ }) hfr henv (by rw [hkind]; decide) C.dict (news := (D, oD) :: news) ?_ hx F (news_swap N) KX (topRead_of TT) ex boot_AttributeError (by decide) isExc_AttributeError notTuple_AttributeError sub_AttributeError (fun h' sl F' N' => k h' sl F' (news_swap N')) hk hxk (by decide) hE
  intro p hp
  rcases List.mem_cons.mp hp with rfl | hp
  · exact Nat.ne_of_gt hlt
  · exact hnL p hp
theorem leave_in (C : TI.Caller h₀ L m' oL) (F : Fr h₀ L' h m) {sl : Array (Option Value)} (N : News h₀ L' h ((D, oD) :: (L, { oL with slots := sl }) :: news)) (hlt : L < D) (hnL : ∀ p ∈ news, p.1 ≠ L) :
    Fr h₀ L h m' ∧ News h₀ L h ((D, oD) :: news) := by
  have hL := (N _ (.tail _ (.head _))).1
  refine ⟨⟨C.ns _ sl hL, F.keep, C.above⟩, fun p hp => ?_⟩
  rcases List.mem_cons.mp hp with rfl | hp
  · exact ⟨(N _ (.head _)).1, Nat.ne_of_gt hlt, (N _ (.head _)).2.2⟩
  · have z := N p (.tail _ (.tail _ hp))
    exact ⟨z.1, hnL p hp, z.2.2⟩
end
theorem en1 : Str.ofString "smtp_code" ∈ errNames := .head _
theorem en2 : Str.ofString "smtp_error" ∈ errNames := .tail _ (.head _)
theorem en3 : Str.ofString "sender" ∈ errNames := .tail _ (.tail _ (.head _))
theorem en4 : Str.ofString "recipients" ∈ errNames := .tail _ (.tail _ (.tail _ (.head _)))
end Mine

end

/-! XM -/
section
open PySem PySem.W PySem.Calls PyProof.Rows PySem.W.X
namespace Mine
/-! making an error: what x_run is asked for, and how it is used -/
def A9 : Around := { handled := none, depth := 900, frames := none, guards := none, units := 100 }
def tupObj (vs : List Value) : Obj := { cls := .type "tuple", data := .seq vs.toArray }
def TbNone (oe : Obj) : Prop := ∃ vs, oe.data = .fields vs ∧ vs[1]? = some .none
def Attrs (od : Obj) (a1 a2 a3 a4 : Option Value) : Prop :=
  lookIn (Str.ofString "smtp_code") od = some a1 ∧ lookIn (Str.ofString "smtp_error") od = some a2 ∧ lookIn (Str.ofString "sender") od = some a3 ∧ lookIn (Str.ofString "recipients") od = some a4
def MadeQ (s : Shared) (C : Addr) (vs : List Value) (a1 a2 a3 a4 : Option Value) (v : Value) (s' : Shared) : Prop :=
  ∃ e d t f t0 oe od of o0 h tk, v = .ref e ∧ s' = { s with heap := h, toks := tk } ∧ Mem s.heap h [] [(t, tupObj vs), (d, od), (f, of), (e, oe), (t0, o0)] ∧ ErrObj C d t oe ∧ TbNone oe ∧ Attrs od a1 a2 a3 a4
def FailQ (s : Shared) (r : Except Value Value) (s' : Shared) : Prop :=
  ∃ e h tk, r = .error (.ref e) ∧ s' = { s with heap := h, toks := tk } ∧ Heap.NewExcOf s.heap h e "TypeError"
theorem failQ_of {s : Shared} {e : Addr} {oe : Obj} {rest : List (Addr × Obj)} {h : Heap} {g : Array GenState} {d : Drawn} {tk : Nat} {os : OsState} {vs : Array Value} (D : Mem s.heap h [] ((e, oe) :: rest)) (hc : oe.cls = .type "TypeError") (hd : oe.data = .fields vs) (h1 : vs[1]? = some .none)
    (e1 : g = s.gens) (e2 : d = s.drawn) (e3 : os = s.os) : FailQ s (.error (.ref e)) ⟨h, g, d, tk, os⟩ := by
  subst e1 e2 e3
  exact ⟨e, h, tk, rfl, rfl, fun b o hb => D.keep b o hb (by cases hasCls o <;> rfl), (D.nw _ (.head _)).2, oe, vs, (D.nw _ (.head _)).1, hc, hd, h1⟩
end Mine

end

/-! XR -/
section
open PySem PySem.W PySem.Calls PyProof.Rows
namespace Mine
/-! own errors raised, passed by, caught -/
/-- a value that may be raised -/
def RaiseAt (M : Model) (A : Around) (K : Frag) (E : Value → Shared → Prop) (v : Value) (s : Shared) : Prop :=
  ∃ e oe C vs, v = .ref e ∧ K.In s.heap ∧ mroIn K C (.type "BaseException") = some true ∧ typeIn K (.ref C) = some (.type "type") ∧ s.heap.get? e = some oe ∧ oe.cls = .ref C ∧ oe.data = .fields vs ∧
    wpAny M A (setFlight (.ref e) none) (fun _ s₂ => E (.ref e) s₂) E s
section
variable {M : Model} {A : Around} {E : Value → Shared → Prop} {s : Shared} {env : Env} {K : Frag}
theorem raise_stmt {x : Expr} {pos : Pos} {Q : Flow → Shared → Prop} (K : Frag) (hh : A.handled = none) (h : wpAny M A (eval x env) (RaiseAt M A K E) E s) : wpAny M A (exec (.Raise (some x) none pos) env) Q E s := by
  show wpAny M A (do standAt pos; raiseStmt env (some (do let v ← eval x env; standAt pos; pure v)) none) Q E s
  refine wpAny_bind (wpAny_standAt ?_)
  unfold raiseStmt
  dsimp only
  refine wpAny_bind (wpAny_bind (wpAny_mono h (fun v s₁ h₁ => wpAny_bind (wpAny_standAt (wpAny_pure ?_))) fun _ _ x => x))
  obtain ⟨a, ob, C, vs, rfl, X, hm, ht, ha, hcls, hd, hE⟩ := h₁
  have hnt : ∀ {Q' : Bool → Shared → Prop}, Q' false s₁ → wpAny M A (isType (.ref a)) Q' E s₁ := by
    intro Q' hq
    simp only [isType, loadHead]
    refine wpAny_bind (wpAny_loadPart ha ?_)
    rw [hd]; exact wpAny_pure hq
  obtain ⟨hh', g, d, t, os⟩ := s₁
  have L0 : Looks M hh' (typeOf (.ref a)) (.ref C) := hcls ▸ (Looks.ld ha).andThen .now
  have L1 := looks_mroIn (M := M) X hm
  have L2 := looks_typeIn (M := M) X ht
  refine wpAny_bind (wpAny_pure ?_)
  dsimp only
  refine wpAny_bind (wpAny_holding ?_)
  unfold excFromValue isExcClass
  refine wpAny_bind (wpAny_bind (hnt ?_))
  simp only [Bool.false_eq_true, if_false]
  refine wpAny_pure ?_
  simp only [Bool.false_eq_true, if_false]
  unfold isInstance
  refine wpAny_bind (wpAny_bind (L0.at (L1.at ?_)))
  simp only [if_true]
  refine wpAny_pure ?_
  refine wpAny_bind (hnt ?_)
  simp only [Bool.false_eq_true, if_false]
  unfold raisedInstance
  refine wpAny_bind (wpAny_bind (L0.at (wpAny_bind (L2.at ?_))))
  rw [if_pos (by decide)]
  refine wpAny_pure ?_
  refine wpAny_bind (wpAny_mono hE (fun _ s₂ h₂ => ?_) fun _ _ x => x)
  unfold raiseNew
  refine wpAny_bind (wpAny_handled ?_)
  rw [hh]
  first
    | exact wpAny_throw h₂
    | exact wpAny_bind (wpAny_pure (wpAny_throw h₂))
/-- an error without a traceback: nothing is in flight -/
theorem flight_first {e : Addr} {oe : Obj} {Q : Unit → Shared → Prop} (he : s.heap.get? e = some oe) (ht : TbNone oe) (h : Q () s) : wpAny M A (setFlight (.ref e) none) Q E s := by
  obtain ⟨vs, hd, h1⟩ := ht
  unfold setFlight
  refine wpAny_bind (wpAny_field he hd h1 ?_)
  rw [if_neg (by decide)]
  exact wpAny_pure h
end
section
variable {prog : Program} {w : World} {A₀ : Around} {E : Value → Shared → Prop} {s' : Shared} {h₀ : Heap} {L L' a e C : Addr} {m : Str → Option Value} {name : Str} {scope : Scope} {cd : Value} {oe oT oL : Obj} {T : Addr} {n : Str}
  {b₀ : Stmt} {suite body : List Stmt} {pos np : Pos} {rest : List ExceptHandler} {Q : Flow → Shared → Prop} {news : List (Addr × Obj)} {KF : Frag} {tt : Expr} {nm : Option Str}
  {p : Program} {loose : List Str} {mean : ExcName → Option Value} {mg mb : Str → Option Value}
theorem Held.keeps {h h' : Heap} (H : Held h₀ L' h m news e oe T oT) (k : ∀ b o, h.get? b = some o → h'.get? b = some o) : Held h₀ L' h' m news e oe T oT :=
  ⟨fr_up H.fr k, news_up H.nw k, H.ne, H.off, H.vs⟩
theorem Held.ty {M : Model} {h : Heap} {cls : Value} (H : Held h₀ L' h m news e oe T oT) (hc : oe.cls = cls) : Looks M h (typeOf (.ref e)) cls := hc ▸ (Looks.ld (H.nw _ (.head _)).1).andThen .now
theorem held_pass {cls : Value} (H : Held h₀ L' s'.heap m news e oe T oT) (hc : oe.cls = cls) (KX : KF.In h₀) (TT : TopRead p loose mg mb h₀) (Te : KtsTest prog w KF p loose mg mb name scope L' a cd cls tt false)
    (k : ∀ h', Held h₀ L' h' m news e oe T oT → wpAny (model prog w) (A₀.deeper (envOf name scope L' a cd)) (handleBy (.ref e) (envOf name scope L' a cd) rest) Q E { s' with heap := h' }) :
    wpAny (model prog w) (A₀.deeper (envOf name scope L' a cd)) (handleBy (.ref e) (envOf name scope L' a cd) (.ExceptHandler (some tt) nm body pos :: rest)) Q E s' :=
  wpAny_handleBy_cons (codeAny_handlers_test (Te _ _ _ _ h₀ e m H.fr KX TT (H.ty hc) fun h' kp => k h' (H.keeps kp))) (by intro q; cases q)
theorem held_hit0 {cls : Value} (H : Held h₀ L' s'.heap m news e oe T oT) (hc : oe.cls = cls) (KX : KF.In h₀) (TT : TopRead p loose mg mb h₀) (Te : KtsTest prog w KF p loose mg mb name scope L' a cd cls tt true)
    (k : ∀ h' oT', Held h₀ L' h' m news e oe T oT' → Landed oT' → wpAny (model prog w) ((A₀.deeper (envOf name scope L' a cd)).mark (some (.ref e))) (execs (b₀ :: suite) (envOf name scope L' a cd)) Q E { s' with heap := h' })
    (hE : PassesOwnAt (model prog w) ((A₀.deeper (envOf name scope L' a cd)).mark (some (.ref e))) (A₀.deeper (envOf name scope L' a cd)) (envOf name scope L' a cd) E) :
    wpAny (model prog w) (A₀.deeper (envOf name scope L' a cd)) (handleBy (.ref e) (envOf name scope L' a cd) (.ExceptHandler (some tt) none (b₀ :: suite) pos :: rest)) Q E s' := by
  refine wpAny_handleBy_cons (codeAny_handlers_test (Te _ _ _ _ h₀ e m H.fr KX TT (H.ty hc) fun h' kp => ?_)) (by intro q; cases q)
  refine codeAny_handlers_suite ?_
  exact Held.flight' (s := { s' with heap := h' }) (H.keeps kp) fun h₂ oT₂ H₂ l₂ => wpAny_passesOwnAt hE (k h₂ oT₂ H₂ l₂)
theorem held_hitB {cls : Value} (H : Held h₀ L' s'.heap m news e oe T oT) (hc : oe.cls = cls) (KX : KF.In h₀) (TT : TopRead p loose mg mb h₀) (Te : KtsTest prog w KF p loose mg mb name scope L' a cd cls tt true)
    (k : ∀ h' oT' tk, Held h₀ L' h' (fun y => if y = n then some (.ref e) else m y) news e oe T oT' → Landed oT' →
      wpAny (model prog w) ((A₀.deeper (envOf name scope L' a cd)).mark (some (.ref e))) (execs (b₀ :: suite) (envOf name scope L' a cd))
        (fun f s₄ => wpAny (model prog w) (A₀.deeper (envOf name scope L' a cd)) (do bindName (envOf name scope L' a cd) n .none; unbindBehindTheSuite (envOf name scope L' a cd) n pos) (fun _ s₅ => Q f s₅) E s₄)
        (AsSuiteRaised (model prog w) ((A₀.deeper (envOf name scope L' a cd)).mark (some (.ref e))) (envOf name scope L' a cd) n pos (notedBy (model prog w) ((A₀.deeper (envOf name scope L' a cd)).mark (some (.ref e))) (envOf name scope L' a cd) (cameBackBy (model prog w) (A₀.deeper (envOf name scope L' a cd)) (envOf name scope L' a cd) E)))
        { s' with heap := h', toks := tk })
    (hk : scope.kind = .function) (hlo : (envOf name scope L' a cd).kindOf n = some .local) :
    wpAny (model prog w) (A₀.deeper (envOf name scope L' a cd)) (handleBy (.ref e) (envOf name scope L' a cd) (.ExceptHandler (some tt) (some n) (b₀ :: suite) pos :: rest)) Q E s' := by
  refine wpAny_handleBy_cons (codeAny_handlers_test (Te _ _ _ _ h₀ e m H.fr KX TT (H.ty hc) fun h' kp => ?_)) (by intro q; cases q)
  refine codeAny_handlers_suite_as ?_
  refine Held.flight' (s := { s' with heap := h' }) (H.keeps kp) fun h₂ oT₂ H₂ l₂ => ?_
  refine stN (s := { s' with heap := h₂ }) H₂.fr H₂.nw (fun h₃ F₃ N₃ => ?_) hk hlo
  exact k h₃ oT₂ _ ⟨F₃, N₃, H₂.ne, H₂.off, H₂.vs⟩ l₂
end
/-! an error that is raised once more: its traceback grows -/
section
variable {M : Model} {A : Around} {E : Value → Shared → Prop} {s : Shared}
theorem raw_ne (L : Addr) : ¬ ((Value.none == rawInt L) = true) := by simp [rawInt]
theorem note_again {A₀ : Around} {h₀ : Heap} {L L' a e T₀ : Addr} {m : Str → Option Value} {news : List (Addr × Obj)} {oe oL oT₀ : Obj} {name : Str} {scope : Scope} {cd : Value} {env : Env} {Q : Unit → Shared → Prop}
    (hfr : A₀.frames = some [env]) (henv : env.frame = some L) (hkind : env.scope.kind ≠ .module) (hdL : ∃ es ep, oL.data = .dict es ep)
    (H : Held h₀ L' s.heap m ((L, oL) :: news) e oe T₀ oT₀) (hts : Landed oT₀) (hne : ∀ p ∈ news, p.1 ≠ e) (hnL : ∀ p ∈ news, p.1 ≠ L) (hk : scope.kind = .function)
    (k : ∀ h' sl T oT, Held h₀ L' h' m ((L, { oL with slots := sl }) :: news) e (Obj.mapFields (·.setIfInBounds 1 (.ref T)) oe) T oT → Q () { s with heap := h' }) :
    wpAny M (A₀.deeper (envOf name scope L' a cd)) (noteFrame (.ref e) (envOf name scope L' a cd)) Q E s := by
  obtain ⟨F, N, neT, off, vs, ts', hd, h1, hdT', h3'⟩ := H
  obtain ⟨ts, hdT, h3⟩ := hts
  have he := (N _ (.head _)).1
  have hT := (N _ (.tail _ (.head _))).1
  have hLo := N _ (.tail _ (.tail _ (.head _)))
  have hLT : L ≠ T₀ := off _ (.head _)
  have hTL' : T₀ ≠ L' := (N _ (.tail _ (.head _))).2.1
  have hs : Heap.SameBut T₀ s.heap (s.heap.update T₀ (Obj.mapFields (·.setIfInBounds 3 Value.none))) := Heap.SameBut.update ..
  have F₁ := F.change hs hTL' (N _ (.tail _ (.head _))).2.2
  have N₁ : News h₀ L' (s.heap.update T₀ (Obj.mapFields (·.setIfInBounds 3 Value.none))) ((e, oe) :: (L, oL) :: news) := fun p hp => by
    rcases List.mem_cons.mp hp with rfl | hp
    · exact ⟨(hs.2 _ (Ne.symm neT)).trans he, (N _ (.head _)).2⟩
    · have z := N p (.tail _ (.tail _ hp))
      exact ⟨(hs.2 _ (off p hp)).trans z.1, z.2⟩
  unfold noteFrame
  simp only [show (envOf name scope L' a cd).frame = some L' from rfl]
  refine wpAny_bind (wpAny_field he hd h1 ?_)
  rw [if_pos (show (Value.ref T₀ != Value.none) = true from by simp)]
  refine wpAny_bind (wpAny_field hT hdT h3 ?_)
  rw [if_neg (raw_ne L')]
  refine wpAny_bind (wpAny_setField hT hdT (Array.getElem?_eq_some_iff.mp h3).1 ?_)
  have hsz := (Array.getElem?_eq_some_iff.mp h1).1
  have he₁ := (N₁ _ (.head _)).1
  have hLo₁ := N₁ _ (.tail _ (.head _))
  have fs : (s.heap.update T₀ (Obj.mapFields (·.setIfInBounds 3 Value.none))).FunFrames {} [envOf name scope L' a cd, env] := by
    obtain ⟨q1, q2, _⟩ := funFrame_of (a := a) (name := name) (cd := cd) F₁ hk
    obtain ⟨es, ep, hdd⟩ := hdL
    exact ⟨q1, q2, hkind, ⟨L, oL, henv, rfl, hLo₁.1, fun vs q => by rw [hdd] at q; cases q⟩, trivial⟩
  have fsE : [envOf name scope L' a cd, env].filterMap (·.frame) = [L', L] := by
    simp only [List.filterMap_cons, List.filterMap_nil, henv]; rfl
  have heL : e ≠ L := by
    intro q
    obtain ⟨es, ep, hdd⟩ := hdL
    have z := hLo.1
    change s.heap.get? L = some oL at z
    rw [← q, he] at z
    injection z with z
    have z' : oe = oL := z
    rw [← z', hd] at hdd; cases hdd
  refine entry_exact (s := { s with heap := s.heap.update T₀ (Obj.mapFields (·.setIfInBounds 3 Value.none)) }) (Around.frames_deeper hfr) fs rfl he₁ hd hsz fun h' T oT n => ?_
  rw [fsE] at n
  obtain ⟨sl, hsl⟩ := n.frames L oL (.tail _ (.head _)) (Ne.symm heL) hLo₁.1
  have hT0 : h₀.get? T = none := by
    cases q : h₀.get? T with
    | none => rfl
    | some o => have := F₁.keep _ _ q; rw [n.new] at this; cases this
  have hTL : T ≠ L' := by
    intro q
    obtain ⟨o, _, _, ho, _⟩ := F₁.ns
    have z := n.new
    rw [q, ho] at z; cases z
  have hTL2 : L ≠ T := by
    intro q
    have z := n.new
    rw [← q, hLo₁.1] at z; cases z
  have heL' : e ≠ L' := (N _ (.head _)).2.1
  have mem2 : ∀ b, b ≠ L' → b ≠ L → b ∉ [L', L] := fun b h1 h2 hm => by
    rcases List.mem_cons.mp hm with q | hm
    · exact h1 q
    · exact h2 (List.mem_singleton.mp hm)
  refine k h' sl T oT ⟨⟨ns_keep F₁.ns fun o ho => n.frames L' o (.head _) (Ne.symm heL') ho, fun b o hb => ?_, F.above⟩, fun p hp => ?_, n.ne, fun p hp q => ?_, ?_⟩
  · have b1 : b ≠ L' := Nat.ne_of_lt (Nat.lt_of_lt_of_le (Heap.lt_size hb) F.above)
    have b2 : b ≠ e := fun q => by have z := (N _ (.head _)).2.2; rw [q] at hb; rw [z] at hb; cases hb
    have b3 : b ≠ L := fun q => by have z := hLo.2.2; rw [q] at hb; rw [z] at hb; cases hb
    exact n.keep b o (mem2 b b1 b3) b2 (F₁.keep b o hb)
  · rcases List.mem_cons.mp hp with rfl | hp
    · exact ⟨n.err, heL', (N _ (.head _)).2.2⟩
    rcases List.mem_cons.mp hp with rfl | hp
    · exact ⟨n.at_, hTL, hT0⟩
    rcases List.mem_cons.mp hp with rfl | hp
    · exact ⟨hsl, hLo.2⟩
    · have z := N₁ p (.tail _ (.tail _ hp))
      exact ⟨n.keep _ _ (mem2 _ z.2.1 (hnL p hp)) (hne p hp) z.1, z.2⟩
  · rcases List.mem_cons.mp hp with rfl | hp
    · exact hTL2 q
    · have z := N₁ p (.tail _ (.tail _ hp))
      have y := n.new
      rw [← q, z.1] at y; cases y
  · obtain ⟨us, t1, t2⟩ := n.flds
    exact ⟨_, us, Obj.data_mapFields hd _, by simp [hsz], t1, t2⟩
end
end Mine

end

/-! XK -/
section
open PySem PySem.W PySem.Calls PyProof.Rows PySem.W.X
namespace Mine
/-! what x_run gives, as a rule over frame and ledger -/
structure Apart3 (e d t : Addr) (news : List (Addr × Obj)) : Prop where
  td : t ≠ d
  te : t ≠ e
  de : d ≠ e
  e : ∀ p ∈ news, p.1 ≠ e
  d : ∀ p ∈ news, p.1 ≠ d
  t : ∀ p ∈ news, p.1 ≠ t
section
variable {prog : Program} {w : World} {A : Around} {E : Value → Shared → Prop} {s : Shared} {h₀ : Heap} {L C : Addr} {m : Str → Option Value} {news : List (Addr × Obj)} {vs : List Value} {a1 a2 a3 a4 : Option Value} {Q : Value → Shared → Prop}
theorem made_use (h : wpAny (model prog w) A9 (call (.ref C) vs) (MadeQ s C vs a1 a2 a3 a4) (fun _ _ => False) s) (hh : A.handled = none) (hd : A.depth ≤ 900) (hu : A.units ≤ 100) (F : Fr h₀ L s.heap m) (N : News h₀ L s.heap news)
    (k : ∀ e d t oe od h' tk, ErrObj C d t oe → TbNone oe → Attrs od a1 a2 a3 a4 → Fr h₀ L h' m → News h₀ L h' ((t, tupObj vs) :: (d, od) :: (e, oe) :: news) → Apart3 e d t news → Q (.ref e) { s with heap := h', toks := tk }) :
    wpAny (model prog w) A (call (.ref C) vs) Q E s := by
  refine wpAny_mono (wpAny_wide h (by rw [hh]; rfl) hd hu rfl rfl) (fun v s' q => ?_) fun _ _ q => q.elim
  obtain ⟨e, d, t, f, t0, oe, od, of, o0, h', tk, rfl, rfl, D, ho, hn, ha⟩ := q
  have keep : ∀ b o, s.heap.get? b = some o → h'.get? b = some o := fun b o hb => D.keep b o hb (by cases hasCls o <;> rfl)
  have new : ∀ p ∈ [(t, tupObj vs), (d, od), (f, of), (e, oe), (t0, o0)], h'.get? p.1 = some p.2 ∧ p.1 ≠ L ∧ h₀.get? p.1 = none := fun p hp => by
    have z := D.nw p hp
    refine ⟨z.1, fun q => ?_, ?_⟩
    · obtain ⟨o, _, _, hL, _⟩ := F.ns
      have y := z.2
      rw [q, hL] at y; cases y
    · cases q : h₀.get? p.1 with
      | none => rfl
      | some o => have y := F.keep _ _ q; rw [z.2] at y; cases y
  have off : ∀ x ∈ [(t, tupObj vs), (d, od), (f, of), (e, oe), (t0, o0)], ∀ p ∈ news, p.1 ≠ x.1 := fun x hx p hp q => by
    have z := (D.nw x hx).2
    rw [← q, (N p hp).1] at z; cases z
  have o := D.ord
  simp only [List.map_cons, List.map_nil, List.pairwise_cons, List.mem_cons] at o
  have m1 : (t, tupObj vs) ∈ [(t, tupObj vs), (d, od), (f, of), (e, oe), (t0, o0)] := .head _
  have m2 : (d, od) ∈ [(t, tupObj vs), (d, od), (f, of), (e, oe), (t0, o0)] := .tail _ (.head _)
  have m4 : (e, oe) ∈ [(t, tupObj vs), (d, od), (f, of), (e, oe), (t0, o0)] := .tail _ (.tail _ (.tail _ (.head _)))
  refine k e d t oe od h' tk ho hn ha (fr_up F keep) (fun p hp => ?_) ⟨Nat.ne_of_gt (o.1 d (.inl rfl)), Nat.ne_of_gt (o.1 e (.inr (.inr (.inl rfl)))), Nat.ne_of_gt (o.2.1 e (.inr (.inl rfl))), off _ m4, off _ m2, off _ m1⟩
  rcases List.mem_cons.mp hp with rfl | hp
  · exact new _ m1
  rcases List.mem_cons.mp hp with rfl | hp
  · exact new _ m2
  rcases List.mem_cons.mp hp with rfl | hp
  · exact new _ m4
  · exact ⟨keep _ _ (N p hp).1, (N p hp).2⟩
end
end Mine

end

/-! XN -/
section
open PySem PySem.W PySem.Calls PyProof.Rows
namespace Mine
section
variable {prog : Program} {w : World} {A₀ : Around} {E : Value → Shared → Prop} {s' : Shared} {h₀ h : Heap} {L L' a e d t C u : Addr} {m m' : Str → Option Value} {name : Str} {scope : Scope} {cd : Value} {oe od ot oL ou : Obj} {env : Env}
  {hs : List ExceptHandler} {Q : Flow → Shared → Prop} {news : List (Addr × Obj)} {KF : Frag}
theorem ErrObj.map (ho : ErrObj C d t oe) (v : Value) : ErrObj C d t (Obj.mapFields (·.setIfInBounds 1 v) oe) := by
  obtain ⟨h1, h2, vs, h3, h4⟩ := ho
  refine ⟨(Obj.cls_mapFields _ _).trans h1, ?_, _, Obj.data_mapFields h3 _, ?_⟩
  · obtain ⟨c, di, da, sl⟩ := oe
    subst h3
    exact h2
  · rw [Array.getElem?_setIfInBounds_ne (by decide)]; exact h4
/-- a made error is raised: what the try's clauses are asked -/
theorem raised_first (hfr : A₀.frames = some [env]) (henv : env.frame = some L) (hkind : env.scope.kind = .function) (Cl : TI.Caller h₀ L m' oL) (hnL : ∀ p ∈ news, p.1 ≠ L)
    (F : Fr h₀ L' s'.heap m) {sl₀ : Array (Option Value)} (N : News h₀ L' s'.heap ((t, ot) :: (d, od) :: (e, oe) :: (L, { oL with slots := sl₀ }) :: news)) (ho : ErrObj C d t oe) (hn : TbNone oe) (ap : Apart3 e d t ((L, { oL with slots := sl₀ }) :: news)) (hk : scope.kind = .function)
    (k : ∀ h' sl T oT oe', ErrObj C d t oe' → Held h₀ L' h' m ((L, { oL with slots := sl }) :: (t, ot) :: (d, od) :: news) e oe' T oT →
      wpAny (model prog w) (A₀.deeper (envOf name scope L' a cd)) (handleBy (.ref e) (envOf name scope L' a cd) hs) Q E { s' with heap := h' }) :
    wpAny (model prog w) (A₀.deeper (envOf name scope L' a cd)) (noteFrame (.ref e) (envOf name scope L' a cd))
      (fun _ s₂ => wpAny (model prog w) (A₀.deeper (envOf name scope L' a cd)) (setFlight (.ref e) none) (fun _ s₃ =>
        wpAny (model prog w) (A₀.deeper (envOf name scope L' a cd)) (handleBy (.ref e) (envOf name scope L' a cd) hs) Q E s₃) E s₂) E s' := by
  obtain ⟨vs, hd, h1⟩ := hn
  refine note_in (oL := { oL with slots := sl₀ }) (oe := oe) (news := (t, ot) :: (d, od) :: news) hfr henv (by rw [hkind]; decide) Cl.dict F (fun p hp => N p ?_) (fun p hp => ?_) (fun p hp => ?_) hd h1 hk fun h₁ sl T oT H => ?_
  · rcases List.mem_cons.mp hp with rfl | hp
    · exact .tail _ (.tail _ (.head _))
    rcases List.mem_cons.mp hp with rfl | hp
    · exact .tail _ (.tail _ (.tail _ (.head _)))
    rcases List.mem_cons.mp hp with rfl | hp
    · exact .head _
    rcases List.mem_cons.mp hp with rfl | hp
    · exact .tail _ (.head _)
    · exact .tail _ (.tail _ (.tail _ (.tail _ hp)))
  · rcases List.mem_cons.mp hp with rfl | hp
    · exact ap.te
    rcases List.mem_cons.mp hp with rfl | hp
    · exact ap.de
    · exact ap.e p (.tail _ hp)
  · rcases List.mem_cons.mp hp with rfl | hp
    · exact Ne.symm (ap.t _ (.head _))
    rcases List.mem_cons.mp hp with rfl | hp
    · exact Ne.symm (ap.d _ (.head _))
    · exact hnL p hp
  · exact Held.flight (s := { s' with heap := h₁ }) H fun h₂ oT₂ H₂ => k h₂ sl T oT₂ _ (ho.map _) H₂
theorem leave_any {led out : List (Addr × Obj)} (Cl : TI.Caller h₀ L m' oL) (F : Fr h₀ L' h m) (N : News h₀ L' h led) {sl : Array (Option Value)} (hL : (L, { oL with slots := sl }) ∈ led) (ho : ∀ p ∈ out, p ∈ led ∧ p.1 ≠ L) :
    Fr h₀ L h m' ∧ News h₀ L h out :=
  ⟨⟨Cl.ns _ sl (N _ hL).1, F.keep, Cl.above⟩, fun p hp => ⟨(N p (ho p hp).1).1, (ho p hp).2, (N p (ho p hp).1).2.2⟩⟩
theorem raise_at {M : Model} {A : Around} (KX : KF.In h₀) (F : Fr h₀ L' s'.heap m) (N : News h₀ L' s'.heap news) (hC : ErrCls KF C) (hty : typeIn KF (.ref C) = some (.type "type")) (he : (e, oe) ∈ news) (ho : ErrObj C d t oe) (hn : TbNone oe) (h : E (.ref e) s') :
    RaiseAt M A KF E (.ref e) s' := by
  obtain ⟨vs, h1, _⟩ := ho.data
  exact ⟨e, oe, C, vs, rfl, KX.keeps F.keep, hC.sub, hty, (N _ he).1, ho.cls, h1, flight_first (N _ he).1 hn h⟩
theorem raise_stmt' {M : Model} {A : Around} {x : Expr} {pos : Pos} {Q : Flow → Shared → Prop} (_ : KF.In h₀) (hh : A.handled = none) (h : wpAny M A (eval x env) (RaiseAt M A KF E) E s') : wpAny M A (exec (.Raise (some x) none pos) env) Q E s' := raise_stmt KF hh h
end
structure ApartR (e d t T : Addr) (news : List (Addr × Obj)) : Prop where
  td : t ≠ d
  te : t ≠ e
  de : d ≠ e
  Te : T ≠ e
  tT : t ≠ T
  dT : d ≠ T
  e : ∀ p ∈ news, p.1 ≠ e
  d : ∀ p ∈ news, p.1 ≠ d
  t : ∀ p ∈ news, p.1 ≠ t
  T : ∀ p ∈ news, p.1 ≠ T
def TbAt (oe : Obj) (T : Addr) : Prop := ∃ vs, oe.data = .fields vs ∧ vs[1]? = some (.ref T)
section
variable {h₀ h h1 : Heap} {L L' e d t T u : Addr} {m m' m1 : Str → Option Value} {oe od ot oT oL oL0 ou : Obj} {sl : Array (Option Value)} {news : List (Addr × Obj)}
theorem allLt_off {u : Addr} : ∀ {l : List (Addr × Obj)}, AllLt u l → ∀ p ∈ l, p.1 < u
  | [], _, _, hp => (nomatch hp)
  | q :: r, h, p, hp => by
    rcases List.mem_cons.mp hp with rfl | hp
    · exact h.1
    · exact allLt_off h.2 p hp
theorem raise_end (Cl : TI.Caller h₀ L m' oL) (F : Fr h₀ L' h m) (N : News h₀ L' h ((u, ou) :: (e, oe) :: (T, oT) :: (L, { oL with slots := sl }) :: (t, ot) :: (d, od) :: news)) (H : Held h₀ L' h1 m1 ((L, { oL with slots := sl }) :: (t, ot) :: (d, od) :: news) e oe T oT)
    (ap : Apart3 e d t ((L, oL0) :: news)) (hnL : ∀ p ∈ news, p.1 ≠ L) (lu : e < u ∧ T < u ∧ L < u ∧ t < u ∧ d < u ∧ AllLt u news) :
    Fr h₀ L h m' ∧ News h₀ L h ((u, ou) :: (e, oe) :: (T, oT) :: (t, ot) :: (d, od) :: news) ∧ ApartR e d t T news ∧ TbAt oe T := by
  obtain ⟨F2, N2⟩ := leave_any (out := (u, ou) :: (e, oe) :: (T, oT) :: (t, ot) :: (d, od) :: news) Cl F N (.tail _ (.tail _ (.tail _ (.head _)))) (by
    intro p hp
    rcases List.mem_cons.mp hp with rfl | hp
    · exact ⟨.head _, Nat.ne_of_gt lu.2.2.1⟩
    rcases List.mem_cons.mp hp with rfl | hp
    · exact ⟨.tail _ (.head _), Ne.symm (ap.e _ (.head _))⟩
    rcases List.mem_cons.mp hp with rfl | hp
    · exact ⟨.tail _ (.tail _ (.head _)), Ne.symm (H.off _ (.head _))⟩
    rcases List.mem_cons.mp hp with rfl | hp
    · exact ⟨.tail _ (.tail _ (.tail _ (.tail _ (.head _)))), Ne.symm (ap.t _ (.head _))⟩
    rcases List.mem_cons.mp hp with rfl | hp
    · exact ⟨.tail _ (.tail _ (.tail _ (.tail _ (.tail _ (.head _))))), Ne.symm (ap.d _ (.head _))⟩
    · exact ⟨.tail _ (.tail _ (.tail _ (.tail _ (.tail _ (.tail _ hp))))), hnL p hp⟩)
  refine ⟨F2, N2, ⟨ap.td, ap.te, ap.de, H.ne, H.off _ (.tail _ (.head _)), H.off _ (.tail _ (.tail _ (.head _))), fun p hp => ap.e p (.tail _ hp), fun p hp => ap.d p (.tail _ hp), fun p hp => ap.t p (.tail _ hp), fun p hp => H.off p (.tail _ (.tail _ (.tail _ hp)))⟩, ?_⟩
  obtain ⟨vs, ts, h1, h2, _⟩ := H.vs
  exact ⟨vs, h1, h2⟩
end
def A9h (v : Option Value) : Around := { handled := v, depth := 900, frames := none, guards := none, units := 100 }
def YesQ (s : Shared) (v : Value) (s' : Shared) : Prop := v = .bool true ∧ ∃ tk, s' = { s with toks := tk }
section
variable {prog : Program} {w : World} {A A₀ : Around} {E : Value → Shared → Prop} {s' : Shared} {h₀ h : Heap} {L L' a e d t C u T : Addr} {m m' : Str → Option Value} {name : Str} {scope : Scope} {cd : Value} {oe od ot oL oT ou : Obj} {env : Env}
  {hs : List ExceptHandler} {news : List (Addr × Obj)} {KF : Frag}
theorem yes_use {Q : Value → Shared → Prop} {tr : Sem Value} (F : Fr h₀ L' s'.heap m) (N : News h₀ L' s'.heap news) (KX : KF.In h₀) (ho : ErrObj C d t oe) (he : (e, oe) ∈ news)
    (h : ∀ d vs sl, KF.In s'.heap → s'.heap.get? e = some ⟨.ref C, some d, .fields vs, sl⟩ → wpAny (model prog w) (A9h A.handled) tr (YesQ s') (fun _ _ => False) s') (hd : A.depth ≤ 900) (hu : A.units ≤ 100)
    (k : ∀ tk, Q (.bool true) { s' with toks := tk }) : wpAny (model prog w) A tr Q E s' := by
  have z := (N _ he).1
  obtain ⟨c, di, da, sl⟩ := oe
  obtain ⟨h1, h2, vs, h3, _⟩ := ho
  dsimp only at h1 h2 h3
  subst h1 h2 h3
  refine wpAny_mono (wpAny_wide (h d vs sl (KX.keeps F.keep) z) rfl hd hu rfl rfl) (fun v s₂ q => ?_) fun _ _ q => q.elim
  obtain ⟨rfl, tk, rfl⟩ := q
  exact k tk
theorem held_of (F : Fr h₀ L' h m) (N : News h₀ L' h ((e, oe) :: (T, oT) :: news)) (ho : TbAt oe T) (hl : Landed oT) (ne : T ≠ e) (off : ∀ p ∈ news, p.1 ≠ T) : Held h₀ L' h m news e oe T oT := by
  obtain ⟨vs, h1, h2⟩ := ho
  obtain ⟨ts, h3, h4⟩ := hl
  exact ⟨F, N, ne, off, vs, ts, h1, h2, h3, (Array.getElem?_eq_some_iff.mp h4).1⟩
theorem raise_again {M : Model} (KX : KF.In h₀) (H : Held h₀ L' s'.heap m news e oe T oT) (hC : ErrCls KF C) (hty : typeIn KF (.ref C) = some (.type "type")) (ho : ErrObj C d t oe)
    (h : ∀ h' oT', Held h₀ L' h' m news e oe T oT' → Landed oT' → E (.ref e) { s' with heap := h' }) : RaiseAt M A KF E (.ref e) s' := by
  obtain ⟨vs, h1, _⟩ := ho.data
  exact ⟨e, oe, C, vs, rfl, KX.keeps H.fr.keep, hC.sub, hty, (H.nw _ (.head _)).1, ho.cls, h1, H.flight' h⟩
theorem raised_again {Q : Flow → Shared → Prop} (hfr : A₀.frames = some [env]) (henv : env.frame = some L) (hkind : env.scope.kind = .function) (Cl : TI.Caller h₀ L m' oL) {sl₀ : Array (Option Value)}
    (H : Held h₀ L' s'.heap m ((L, { oL with slots := sl₀ }) :: news) e oe T oT) (hl : Landed oT) (ho : ErrObj C d t oe) (hne : ∀ p ∈ news, p.1 ≠ e) (hnL : ∀ p ∈ news, p.1 ≠ L) (hk : scope.kind = .function)
    (k : ∀ h' sl T oT oe', ErrObj C d t oe' → Held h₀ L' h' m ((L, { oL with slots := sl }) :: news) e oe' T oT →
      wpAny (model prog w) (A₀.deeper (envOf name scope L' a cd)) (handleBy (.ref e) (envOf name scope L' a cd) hs) Q E { s' with heap := h' }) :
    wpAny (model prog w) (A₀.deeper (envOf name scope L' a cd)) (noteFrame (.ref e) (envOf name scope L' a cd))
      (fun _ s₂ => wpAny (model prog w) (A₀.deeper (envOf name scope L' a cd)) (setFlight (.ref e) none) (fun _ s₃ =>
        wpAny (model prog w) (A₀.deeper (envOf name scope L' a cd)) (handleBy (.ref e) (envOf name scope L' a cd) hs) Q E s₃) E s₂) E s' := by
  refine note_again (oL := { oL with slots := sl₀ }) hfr henv (by rw [hkind]; decide) Cl.dict H hl hne hnL hk fun h₁ sl T' oT' H' => ?_
  exact Held.flight (s := { s' with heap := h₁ }) H' fun h₂ oT₂ H₂ => k h₂ sl T' oT₂ _ (ho.map _) H₂
end
theorem again_end {h₀ h : Heap} {L L' e T : Addr} {m m' : Str → Option Value} {oe oT oL : Obj} {sl : Array (Option Value)} {news : List (Addr × Obj)} (Cl : TI.Caller h₀ L m' oL) (F : Fr h₀ L' h m) (N : News h₀ L' h ((e, oe) :: (T, oT) :: (L, { oL with slots := sl }) :: news)) (heL : e ≠ L) (hnL : ∀ p ∈ news, p.1 ≠ L) :
    Fr h₀ L h m' ∧ News h₀ L h ((e, oe) :: news) :=
  leave_any Cl F N (.tail _ (.tail _ (.head _))) (by
    intro p hp
    rcases List.mem_cons.mp hp with rfl | hp
    · exact ⟨.head _, heL⟩
    · exact ⟨.tail _ (.tail _ (.tail _ hp)), hnL p hp⟩)
section
variable {dp un : Nat} {gd : Option (List Code)} {cn : Str} {cs : Scope} {L a : Addr} {ccd : Value} {cl : List (Str × Addr)} {outer : List Env} {env : Env}
theorem dp_ok (h : dp + 1 < 800) : ((ktrTop dp un gd cn cs L a ccd cl outer).deeper env).depth ≤ 900 := by show dp + 1 ≤ 900; omega
theorem un_ok (h : un + 8 < 90) : ((ktrTop dp un gd cn cs L a ccd cl outer).deeper env).units ≤ 100 := by show un + 3 ≤ 100; omega
theorem rm_ok (h : dp + 1 < 800) : (ktrTop dp un gd cn cs L a ccd cl outer).depth < recursionLimit := by show dp < 1000; omega
theorem dp_ok' {v : Option Value} (h : dp + 1 < 800) : (((ktrTop dp un gd cn cs L a ccd cl outer).deeper env).mark v).depth ≤ 900 := by show dp + 1 ≤ 900; omega
theorem un_ok' {v : Option Value} (h : un + 8 < 90) : (((ktrTop dp un gd cn cs L a ccd cl outer).deeper env).mark v).units ≤ 100 := by show un + 3 ≤ 100; omega
end
end Mine

end

/-! XL -/
section
open PySem PySem.W PySem.Calls PyProof.Rows
namespace Mine
/-! for a, b in enumerate(list): a ledger that may grow from turn to turn -/
section
variable {prog : Program} {w : World} {A : Around} {E : Value → Shared → Prop} {s : Shared} {env : Env} {h₀ : Heap} {body : List Stmt} {Q : Flow → Shared → Prop}
def ForAt (prog : Program) (w : World) (A : Around) (env : Env) (tgt : Expr) (body : List Stmt) (Q : Flow → Shared → Prop) (E : Value → Shared → Prop) (it : Value) (s₂ : Shared) : Prop :=
  codeAny (model prog w) A (.forLoop tgt it body [] env) (fun r s' => match r with | .ok f => Q f s' | .error e => cameBackBy (model prog w) A env E e s') s₂
theorem For_at {tgt iter : Expr} {pos : Pos} (h : wpAny (model prog w) A (eval iter env) (fun xv s₁ => wpAny (model prog w) A (pyIter xv) (fun it s₂ => ForAt prog w A env tgt body Q E it s₂) E s₁) E s)
    (hs : ∀ x, foldedSetIterable iter env x = pure x) : wpAny (model prog w) A (exec (.For tgt iter body [] pos) env) Q E s := wpAny_For h hs
def EndT (h₀ : Heap) (L : Addr) (J : (Str → Option Value) → List (Addr × Obj) → Prop) (own : List (Addr × Obj)) (s₁ s₂ : Shared) : Prop :=
  ∃ h' tk m' nx, s₂ = { s₁ with heap := h', toks := tk } ∧ Fr h₀ L h' m' ∧ News h₀ L h' nx ∧ News h₀ L h' own ∧ (∀ p ∈ nx, ∀ q ∈ own, p.1 ≠ q.1) ∧ J m' nx
def PostT (h₀ : Heap) (L : Addr) (J : (Str → Option Value) → List (Addr × Obj) → Prop) (own : List (Addr × Obj)) (s₁ : Shared) (Q : Flow → Shared → Prop) (f : Flow) (s₂ : Shared) : Prop :=
  match f with
  | .ret v => Q (.ret v) s₂
  | .brk => Q .next s₂
  | _ => EndT h₀ L J own s₁ s₂
theorem iter_enum {xi xv : Str} {pi pv pt : Pos} {x1 : Nat} {l : Addr} {vs : List Value} {nn : Nat} {m₀ : Str → Option Value} {news : List (Addr × Obj)} (J : Nat → (Str → Option Value) → List (Addr × Obj) → Prop)
    (hh : A.handled = none) (hl : (l, PySem.W.listOf vs.toArray nn) ∈ news) (F : Fr h₀ env.locals s.heap m₀) (N : News h₀ env.locals s.heap news) (hj : J 0 m₀ news)
    (hJl : ∀ i m nx, J i m nx → (l, PySem.W.listOf vs.toArray nn) ∈ nx)
    (hxi : env.kindOf xi = some .local) (hxv : env.kindOf xv = some .local) (hp : (env.scope.kind == .class || (env.scope.kind == .module && env.locals != env.globals)) = false)
    (hE : PassesOwn (model prog w) A env E)
    (turn : ∀ i v t m₁ news₁ h tk e oe it oit, vs[i]? = some v → J i m₁ news₁ → (∀ p ∈ news₁, ∀ q ∈ [(e, oe), (it, oit)], p.1 ≠ q.1) → Fr h₀ env.locals h (fun y => if y = xv then some v else if y = xi then some (.int (i : Nat) t) else m₁ y) → News h₀ env.locals h (news₁ ++ [(e, oe), (it, oit)]) →
      wpAny (model prog w) A (execs body env) (PostT h₀ env.locals (J (i + 1)) [(e, oe), (it, oit)] { s with heap := h, toks := tk } Q) E { s with heap := h, toks := tk })
    (done : ∀ m₁ news₁ h tk, J vs.length m₁ news₁ → Fr h₀ env.locals h m₁ → News h₀ env.locals h news₁ → Q .next { s with heap := h, toks := tk }) :
    wpAny (model prog w) A (call (.type "enumerate") [.ref l]) (fun xv' s₁ => wpAny (model prog w) A (pyIter xv') (fun it s₂ => ForAt prog w A env (.Tuple [.Name xi pi, .Name xv pv] x1 pt) body Q E it s₂) E s₁) E s := by
  have hol : s.heap.get? l = some (PySem.W.listOf vs.toArray nn) := (N _ hl).1
  have hls : s.heap.IsList l vs.toArray := ⟨_, hol, rfl, nn, rfl⟩
  have hLs : env.locals < s.heap.objs.size := F.ns.lt
  have hab : h₀.objs.size ≤ env.locals := F.above
  refine call_enumerate_list hls fun h' he hit hsz hk => ?_
  refine wpAny_pyIter_enum he ?_
  have n1 : h₀.get? (s.heap.objs.size + 1) = none := Heap.get?_none_of_le (Nat.le_trans hab (Nat.le_of_lt (Nat.lt_succ_of_lt hLs)))
  have n2 : h₀.get? s.heap.objs.size = none := Heap.get?_none_of_le (Nat.le_trans hab (Nat.le_of_lt hLs))
  have heL : s.heap.objs.size + 1 ≠ env.locals := Nat.ne_of_gt (Nat.lt_succ_of_lt hLs)
  have hiL : s.heap.objs.size ≠ env.locals := Nat.ne_of_gt hLs
  have hei : s.heap.objs.size + 1 ≠ s.heap.objs.size := Nat.succ_ne_self _
  have off0 : ∀ p ∈ news, p.1 ≠ s.heap.objs.size + 1 ∧ p.1 ≠ s.heap.objs.size := fun p hp => by
    have q := Heap.lt_size (N p hp).1
    exact ⟨Nat.ne_of_lt (Nat.lt_succ_of_lt q), Nat.ne_of_lt q⟩
  have F' : Fr h₀ env.locals h' m₀ := ⟨F.ns.keeps hk, fun b o e => hk b o (F.keep b o e), F.above⟩
  have N' : News h₀ env.locals h' news := fun p hp => ⟨hk _ _ (N p hp).1, (N p hp).2⟩
  clear hk hsz hol hls hLs
  revert he hit n1 n2 heL hiL hei off0
  generalize s.heap.objs.size + 1 = e
  generalize s.heap.objs.size = it
  intro he hit n1 n2 heL hiL hei off0
  show codeAny _ _ _ _ _
  refine codeAny_forLoop_any
    (fun k s' => ∃ h' tk m' nx i old, s' = { s with heap := h', toks := tk } ∧ IsEnum h' e it ((i : Nat) : Int) old ∧ h'.IsListIter it l i ∧ Fr h₀ env.locals h' m' ∧ News h₀ env.locals h' nx ∧ (∀ p ∈ nx, p.1 ≠ e ∧ p.1 ≠ it) ∧ J i m' nx ∧ i ≤ vs.length ∧ k = vs.length + 1 - i) ?_ (vs.length + 1)
    ⟨h', s.toks, m₀, news, 0, .none, rfl, he, hit, F', N', off0, hj, Nat.zero_le _, rfl⟩
  rintro k s' ⟨H, tk, m', nx, i, old, rfl, he', hit', F₁, N₁, off, hJ, hi, rfl⟩
  have hlm := hJl _ _ _ hJ
  have hlo : H.get? l = some (PySem.W.listOf vs.toArray nn) := (N₁ _ hlm).1
  have hl' : H.IsList l vs.toArray := ⟨_, hlo, rfl, nn, rfl⟩
  have hL0 : ∀ b o, h₀.get? b = some o → b ≠ e ∧ b ≠ it := fun b o q => ⟨fun z => (by rw [z, n1] at q; cases q), fun z => (by rw [z, n2] at q; cases q)⟩
  cases hv : vs[i]? with
  | none =>
    have hsz : i = vs.length := Nat.le_antisymm hi (List.getElem?_eq_none_iff.mp hv)
    refine wpAny_pyNext_enum_end hh he' hit' hl' (by simpa using hv) fun h₁ he₁ => wpAny_execs_nil ?_
    exact done m' nx h₁ tk (hsz ▸ hJ) ⟨F₁.ns.extBut he₁ (Ne.symm hiL), fun b o q => he₁ b o (hL0 b o q).2 (F₁.keep b o q), F₁.above⟩ (fun p hp => ⟨he₁ _ _ (off p hp).2 (N₁ p hp).1, (N₁ p hp).2⟩)
  | some v =>
    have hlt : i < vs.length := (List.getElem?_eq_some_iff.mp hv).1
    refine wpAny_pyNext_enum_item he' hit' hl' (by simpa using hv) hei fun h₁ heo hit₁ ht₁ hz₁ hk₁ => ?_
    refine wpAny_letOwnedTupleGo_enum heo fun h₂ he₂ hs₂ => ?_
    replace hs₂ : Heap.SameBut e h₁ h₂ := hs₂
    have heH : e < H.objs.size := Heap.lt_size he'
    have ht₂ : h₂.IsTuple H.objs.size #[.int i tk, v] := ⟨_, (hs₂.2 _ (Nat.ne_of_gt heH)).trans ht₁, rfl, _, rfl⟩
    have hz₂ : h₂.objs.size = H.objs.size + 1 := hs₂.1.trans hz₁
    refine wpAny_assign_Tuple hh ht₂ rfl rfl fun h₃ hx₃ => ?_
    replace hx₃ : Heap.ExtBut h₂.objs.size h₂ h₃ := hx₃
    have up₃ : ∀ b o, h₂.get? b = some o → h₃.get? b = some o := fun b o x => hx₃ b o (Nat.ne_of_lt (Heap.lt_size x)) x
    have kp : ∀ b o, b ≠ e → b ≠ it → H.get? b = some o → h₃.get? b = some o := fun b o b1 b2 x => up₃ b o ((hs₂.2 b b1).trans (hk₁ b o b1 b2 x))
    have F₃ : Fr h₀ env.locals h₃ m' := by
      obtain ⟨o, es, ep, ho, r⟩ := F₁.ns
      exact ⟨⟨o, es, ep, kp _ _ (Ne.symm heL) (Ne.symm hiL) ho, r⟩, fun b o q => kp b o (hL0 b o q).1 (hL0 b o q).2 (F₁.keep b o q), F₁.above⟩
    have N₃ : News h₀ env.locals h₃ nx := fun p hp => ⟨kp _ _ (off p hp).1 (off p hp).2 (N₁ p hp).1, (N₁ p hp).2⟩
    obtain ⟨oit, ho1, ho2, ho3⟩ := hit₁
    have O₃ : News h₀ env.locals h₃ [(e, _), (it, oit)] := fun p hp => by
      rcases List.mem_cons.mp hp with rfl | hp
      · exact ⟨up₃ _ _ he₂, heL, n1⟩
      · rw [List.mem_singleton.mp hp]; exact ⟨up₃ _ _ ((hs₂.2 _ (Ne.symm hei)).trans ho1), hiL, n2⟩
    show wpAny _ A (do holding [v] (assign (.Name xi pi) env (.int i tk)); do holding [] (assign (.Name xv pv) env v); pure ()) _ _ _
    refine wpAny_bind (wpAny_holding (wpAny_assign_Name (wpAny_storeName_local hxi F₃.ns (fun h₄ hn₄ hs₄ => ?_) hp)))
    replace hs₄ : Heap.SameBut env.locals h₃ h₄ := hs₄
    have F₄ := F₃.set hn₄ hs₄
    refine wpAny_bind (wpAny_holding (wpAny_assign_Name (wpAny_storeName_local hxv F₄.ns (fun h₅ hn₅ hs₅ => wpAny_pure ?_) hp)))
    replace hs₅ : Heap.SameBut env.locals h₄ h₅ := hs₅
    have F₅ := F₄.set hn₅ hs₅
    have N₅ : News h₀ env.locals h₅ nx := (N₃.set hs₄).set hs₅
    have O₅ := (O₃.set hs₄).set hs₅
    refine wpAny_passesOwn hE ?_
    refine wpAny_mono (turn i v tk m' nx h₅ _ e ({ cls := .type "enumerate", dict := none, data := .fields #[.none, .bool false, .ref it, rawInt ((i : Int) + 1), .none, v], slots := #[] } : Obj) it oit hv hJ ?_ F₅ (fun p hp => ?_)) (fun f s₃ h₆ => ?_) fun _ _ x => x
    · intro p hp q hq
      rcases List.mem_cons.mp hq with rfl | hq
      · exact (off p hp).1
      · rw [List.mem_singleton.mp hq]; exact (off p hp).2
    · exact (List.mem_append.mp hp).elim (N₅ p) (O₅ p)
    · have fin : ∀ tk5, EndT h₀ env.locals (J (i + 1)) [(e, ({ cls := .type "enumerate", dict := none, data := .fields #[.none, .bool false, .ref it, rawInt ((i : Int) + 1), .none, v], slots := #[] } : Obj)), (it, oit)] { s with heap := h₅, toks := tk5 } s₃ → ∃ k, k < vs.length + 1 - i ∧ ∃ h' tk m' nx i old, s₃ = { s with heap := h', toks := tk } ∧ IsEnum h' e it ((i : Nat) : Int) old ∧ h'.IsListIter it l i ∧ Fr h₀ env.locals h' m' ∧ News h₀ env.locals h' nx ∧ (∀ p ∈ nx, p.1 ≠ e ∧ p.1 ≠ it) ∧ J i m' nx ∧ i ≤ vs.length ∧ k = vs.length + 1 - i := by
        rintro tk5 ⟨h₇, tk₆, m₂, nx₂, rfl, F₆, N₆, O₆, off₆, hJ₆⟩
        refine ⟨vs.length + 1 - (i + 1), by omega, h₇, tk₆, m₂, nx₂, i + 1, v, rfl, ?_, ⟨oit, (O₆ _ (.tail _ (.head _))).1, ho2, ho3⟩, F₆, N₆, fun p hp => ⟨off₆ p hp _ (.head _), off₆ p hp _ (.tail _ (.head _))⟩, hJ₆, hlt, rfl⟩
        have : ((i + 1 : Nat) : Int) = (i : Int) + 1 := by push_cast; rfl
        rw [this]; exact (O₆ _ (.head _)).1
      cases f with
      | ret v => exact h₆
      | brk => exact h₆
      | next => exact fin _ h₆
      | cont => exact fin _ h₆
/-- for a, b, .. in list of tuples: the unpacking is left to the turn -/
theorem iter_tuples {elts : List Expr} {pt : Pos} {x1 : Nat} {l : Addr} {vs : List Value} {nn : Nat} {m₀ : Str → Option Value} {news : List (Addr × Obj)} (J : Nat → (Str → Option Value) → List (Addr × Obj) → Prop)
    (hh : A.handled = none) (hl : (l, PySem.W.listOf vs.toArray nn) ∈ news) (F : Fr h₀ env.locals s.heap m₀) (N : News h₀ env.locals s.heap news) (hj : J 0 m₀ news)
    (hJl : ∀ i m nx, J i m nx → (l, PySem.W.listOf vs.toArray nn) ∈ nx) (hr : ∀ v ∈ vs, ∃ u, v = .ref u) (hE : PassesOwn (model prog w) A env E)
    (turn : ∀ i v m₁ news₁ h tk I oI, vs[i]? = some v → J i m₁ news₁ → (∀ p ∈ news₁, ∀ q ∈ [(I, oI)], p.1 ≠ q.1) → Fr h₀ env.locals h m₁ → News h₀ env.locals h (news₁ ++ [(I, oI)]) →
      wpAny (model prog w) A (assign (.Tuple elts x1 pt) env v) (fun _ s₂ => wpAny (model prog w) A (execs body env) (PostT h₀ env.locals (J (i + 1)) [(I, oI)] { s with heap := h, toks := tk } Q) E s₂) E { s with heap := h, toks := tk })
    (done : ∀ m₁ news₁ h tk, J vs.length m₁ news₁ → Fr h₀ env.locals h m₁ → News h₀ env.locals h news₁ → Q .next { s with heap := h, toks := tk }) :
    wpAny (model prog w) A (pyIter (.ref l)) (fun it s₂ => ForAt prog w A env (.Tuple elts x1 pt) body Q E it s₂) E s := by
  have hol : s.heap.get? l = some (PySem.W.listOf vs.toArray nn) := (N _ hl).1
  have hls : s.heap.IsList l vs.toArray := ⟨_, hol, rfl, nn, rfl⟩
  have hLs : env.locals < s.heap.objs.size := F.ns.lt
  have hab : h₀.objs.size ≤ env.locals := F.above
  refine wpAny_pyIter_list hls ?_
  have n2 : h₀.get? s.heap.objs.size = none := Heap.get?_none_of_le (Nat.le_trans hab (Nat.le_of_lt hLs))
  have hiL : s.heap.objs.size ≠ env.locals := Nat.ne_of_gt hLs
  have off0 : ∀ p ∈ news, p.1 ≠ s.heap.objs.size := fun p hp => Nat.ne_of_lt (Heap.lt_size (N p hp).1)
  show codeAny _ _ _ _ _
  refine codeAny_forLoop_any
    (fun k s' => ∃ h' tk m' nx i, s' = { s with heap := h', toks := tk } ∧ h'.IsListIter s.heap.objs.size l i ∧ Fr h₀ env.locals h' m' ∧ News h₀ env.locals h' nx ∧ (∀ p ∈ nx, p.1 ≠ s.heap.objs.size) ∧ J i m' nx ∧ i ≤ vs.length ∧ k = vs.length + 1 - i) ?_ (vs.length + 1)
    ⟨_, s.toks, m₀, news, 0, rfl, ⟨_, Heap.get?_push_size _ rfl, rfl, rfl⟩, F.push _, (fun p hp => ⟨Heap.get?_push_of_some _ (N p hp).1, (N p hp).2⟩), off0, hj, Nat.zero_le _, rfl⟩
  revert n2 hiL off0
  generalize s.heap.objs.size = it
  intro n2 hiL off0
  rintro k s' ⟨H, tk, m', nx, i, rfl, hit', F₁, N₁, off, hJ, hi, rfl⟩
  have hlm := hJl _ _ _ hJ
  have hlo : H.get? l = some (PySem.W.listOf vs.toArray nn) := (N₁ _ hlm).1
  have hl' : H.IsList l vs.toArray := ⟨_, hlo, rfl, nn, rfl⟩
  have hL0 : ∀ b o, h₀.get? b = some o → b ≠ it := fun b o q z => by rw [z, n2] at q; cases q
  cases hv : vs[i]? with
  | none =>
    have hsz : i = vs.length := Nat.le_antisymm hi (List.getElem?_eq_none_iff.mp hv)
    refine wpAny_pyNext_list_end hh hit' hl' (by simpa using hv) fun h₁ he₁ => wpAny_execs_nil ?_
    exact done m' nx h₁ tk (hsz ▸ hJ) ⟨F₁.ns.extBut he₁ (Ne.symm hiL), fun b o q => he₁ b o (hL0 b o q) (F₁.keep b o q), F₁.above⟩ (fun p hp => ⟨he₁ _ _ (off p hp) (N₁ p hp).1, (N₁ p hp).2⟩)
  | some v =>
    have hlt : i < vs.length := (List.getElem?_eq_some_iff.mp hv).1
    obtain ⟨u, rfl⟩ := hr v (List.mem_of_getElem? hv)
    refine wpAny_pyNext_list_item hit' hl' (by simpa using hv) fun h₁ hit₁ hs₁ => ?_
    refine wpAny_letOwnedTupleGo_listiter hit₁ ?_
    replace hs₁ : Heap.SameBut it H h₁ := hs₁
    obtain ⟨oit, ho1, ho2, ho3⟩ := hit₁
    have F₃ : Fr h₀ env.locals h₁ m' := by
      obtain ⟨o, es, ep, ho, r⟩ := F₁.ns
      exact ⟨⟨o, es, ep, (hs₁.2 _ (Ne.symm hiL)).trans ho, r⟩, fun b o q => (hs₁.2 _ (hL0 b o q)).trans (F₁.keep b o q), F₁.above⟩
    have N₃ : News h₀ env.locals h₁ nx := fun p hp => ⟨(hs₁.2 _ (off p hp)).trans (N₁ p hp).1, (N₁ p hp).2⟩
    have O₃ : News h₀ env.locals h₁ [(it, oit)] := fun p hp => by
      rw [List.mem_singleton.mp hp]; exact ⟨ho1, hiL, n2⟩
    have fin : ∀ tk5 s₃, EndT h₀ env.locals (J (i + 1)) [(it, oit)] { s with heap := h₁, toks := tk5 } s₃ → ∃ k, k < vs.length + 1 - i ∧ ∃ h' tk m' nx i, s₃ = { s with heap := h', toks := tk } ∧ h'.IsListIter it l i ∧ Fr h₀ env.locals h' m' ∧ News h₀ env.locals h' nx ∧ (∀ p ∈ nx, p.1 ≠ it) ∧ J i m' nx ∧ i ≤ vs.length ∧ k = vs.length + 1 - i := by
      rintro tk5 s₃ ⟨h₇, tk₆, m₂, nx₂, rfl, F₆, N₆, O₆, off₆, hJ₆⟩
      exact ⟨vs.length + 1 - (i + 1), by omega, h₇, tk₆, m₂, nx₂, i + 1, rfl, ⟨oit, (O₆ _ (.head _)).1, ho2, ho3⟩, F₆, N₆, fun p hp => off₆ p hp _ (.head _), hJ₆, hlt, rfl⟩
    refine wpAny_passesOwn hE ?_
    refine wpAny_mono (turn i (.ref u) m' nx h₁ tk it oit hv hJ ?_ F₃ (fun p hp => ?_)) (fun _ s₂ h₅ => wpAny_passesOwn hE (wpAny_mono h₅ (fun f s₃ h₆ => ?_) fun _ _ x => x)) fun _ _ x => x
    · intro p hp q hq
      rw [List.mem_singleton.mp hq]; exact off p hp
    · exact (List.mem_append.mp hp).elim (N₃ p) (O₃ p)
    · cases f with
      | ret v => exact h₆
      | brk => exact h₆
      | next => exact fin _ _ h₆
      | cont => exact fin _ _ h₆
end
end Mine

end

/-! XQ -/
section
open PySem PySem.W PySem.Calls PyProof.Rows
namespace Mine
/-! a table picked from; what _law_read gave compared with what is due -/
section
variable {prog : Program} {w : World} {A : Around} {E : Value → Shared → Prop} {s : Shared} {h₀ : Heap} {L : Addr} {news : List (Addr × Obj)}
theorem pick_item {value slice : PySem.Expr} {l : Addr} {vs : List Value} {nn : Nat} {k : Int} {u : Tok} {Q : Value → Shared → Prop}
    (N : News h₀ L s.heap news) (hl : (l, PySem.W.listOf vs.toArray nn) ∈ news) (h0 : 0 ≤ k) (hk : k < vs.length) (hn : vs.length ≤ 100) (h : ∀ v ∈ vs, Q v s)
    (hs : subscripted slice false (.ref l) (.int k u) = operate [.ref l, .int k u] (getItem (.ref l) (.int k u))) :
    wpAny (model prog w) A (subscriptTail value slice (.ref l) (.int k u)) Q E s := by
  have hls : s.heap.IsList l vs.toArray := ⟨_, (N _ hl).1, rfl, nn, rfl⟩
  have hlt : k.toNat < vs.length := by omega
  refine tail_any hls.typeIs slot_list_getitem.lookup (wpAny_getItem_list hls h0 ?_ (x := vs[k.toNat]) (by simp [hlt]) (h _ (List.getElem_mem hlt))) hs
  have : (2 : Int) ^ 63 = 9223372036854775808 := by decide
  omega
theorem same_tuple {t t' : Addr} {vs : List Value} (N : News h₀ L s.heap news) (m1 : (t, tupObj vs) ∈ news) (m2 : (t', tupObj vs) ∈ news) (hu : A.units < cLine) : SeqAt.EqAt A s (.ref t) (.ref t') true := by
  by_cases q : t = t'
  · subst q; exact SeqAt.EqAt.same _
  · have h1 : s.heap.IsTuple t vs.toArray := ⟨_, (N _ m1).1, rfl, 0, rfl⟩
    have h2 : s.heap.IsTuple t' vs.toArray := ⟨_, (N _ m2).1, rfl, 0, rfl⟩
    have z := SeqAt.RcAt.tuples (A := A) (e := fun _ => true) h1 h2 hu (fun j a b => SeqAt.EqAt.same _)
    have e : ((List.range (min vs.toArray.size vs.toArray.size)).all (fun _ => true) && vs.toArray.size == vs.toArray.size) = true := by simp
    rw [e] at z
    exact SeqAt.EqAt.of_refs q z
variable {D D' t t' : Addr} {oD oD' : Obj} {Q : Value → Shared → Prop}
theorem ne_reply {c m : Value} (N : News h₀ L s.heap news) (d1 : (D, oD) ∈ news) (d2 : (D', oD') ∈ news) (i1 : oD.IsDictOf (PySem.strKind prog w) [(Str.ofString "args", .ref t), (Str.ofString "code", c), (Str.ofString "msg", m)])
    (i2 : oD'.IsDictOf (PySem.strKind prog w) [(Str.ofString "args", .ref t'), (Str.ofString "code", c), (Str.ofString "msg", m)]) (l1 : (D == sysModules) = false) (l2 : (D' == sysModules) = false)
    (m1 : (t, tupObj [c, m]) ∈ news) (m2 : (t', tupObj [c, m]) ∈ news) (hu : A.units + 1 < cLine) (h : Q (.bool false) s) : wpAny (model prog w) A (compareOp .NotEq (.ref D) (.ref D')) Q E s := by
  refine kne_pairs (r := true) N d1 d2 i1 i2 l1 l2 rfl (Nat.lt_of_succ_lt hu) ?_ h
  exact KeqHits.hit (e := true) (b := true) (by rfl) (same_tuple N m1 m2 hu) (KeqHits.hit (e := true) (b := true) (by rfl) (SeqAt.EqAt.same _) (KeqHits.hit (e := true) (b := true) (by rfl) (SeqAt.EqAt.same _) KeqHits.nil))
theorem ne_sender {c m x : Value} (N : News h₀ L s.heap news) (d1 : (D, oD) ∈ news) (d2 : (D', oD') ∈ news) (i1 : oD.IsDictOf (PySem.strKind prog w) [(Str.ofString "args", .ref t), (Str.ofString "code", c), (Str.ofString "msg", m), (Str.ofString "sender", x)])
    (i2 : oD'.IsDictOf (PySem.strKind prog w) [(Str.ofString "args", .ref t'), (Str.ofString "code", c), (Str.ofString "msg", m), (Str.ofString "sender", x)]) (l1 : (D == sysModules) = false) (l2 : (D' == sysModules) = false)
    (m1 : (t, tupObj [c, m, x]) ∈ news) (m2 : (t', tupObj [c, m, x]) ∈ news) (hu : A.units + 1 < cLine) (h : Q (.bool false) s) : wpAny (model prog w) A (compareOp .NotEq (.ref D) (.ref D')) Q E s := by
  refine kne_pairs (r := true) N d1 d2 i1 i2 l1 l2 rfl (Nat.lt_of_succ_lt hu) ?_ h
  exact KeqHits.hit (e := true) (b := true) (by rfl) (same_tuple N m1 m2 hu) (KeqHits.hit (e := true) (b := true) (by rfl) (SeqAt.EqAt.same _) (KeqHits.hit (e := true) (b := true) (by rfl) (SeqAt.EqAt.same _) (KeqHits.hit (e := true) (b := true) (by rfl) (SeqAt.EqAt.same _) KeqHits.nil)))
theorem fr_ext {h : Heap} {f g : Str → Option Value} (F : Fr h₀ L h f) (e : ∀ y, f y = g y) : Fr h₀ L h g := by
  have : f = g := funext e
  exact this ▸ F
end
end Mine

end

/-! R09 -/
section
open PySem PySem.W PyProof.Rows
set_option maxHeartbeats 3000000
namespace Mine
local macro_rules | `(tactic| walk_at "getAttr ref") => `(tactic| (k_here; (with_reducible show wpAny _ _ (getAttr (Value.ref _) (Str.ofString "args") _) _ _ _); k_dflt (refine get_args (by k_asm) (by k_asm) (by k_asm) (by assumption) (by assumption) (by k_mem) (by k_mem) ?_)))
local macro_rules | `(tactic| walk_at "getAttr ref") => `(tactic| (k_here; (with_reducible show wpAny _ _ (getAttr (Value.ref _) (Str.ofString "smtp_code") _) _ _ _); k_dflt (first
  | (refine get_own (by k_asm) (by k_asm) (by k_asm) (by assumption) (by assumption) (by k_mem) (by k_mem) en1 (by with_reducible assumption) (by with_reducible assumption) ?_)
  | (refine get_miss (by k_asm) (by k_asm) (by k_asm) (by assumption) (by assumption) (by k_mem) (by k_mem) en1 (by with_reducible assumption) rfl ?_; intro h' tk' e' hx'))))
local macro_rules | `(tactic| walk_at "getAttr ref") => `(tactic| (k_here; (with_reducible show wpAny _ _ (getAttr (Value.ref _) (Str.ofString "smtp_error") _) _ _ _); k_dflt (first
  | (refine get_own (by k_asm) (by k_asm) (by k_asm) (by assumption) (by assumption) (by k_mem) (by k_mem) en2 (by with_reducible assumption) (by with_reducible assumption) ?_)
  | (refine get_miss (by k_asm) (by k_asm) (by k_asm) (by assumption) (by assumption) (by k_mem) (by k_mem) en2 (by with_reducible assumption) rfl ?_; intro h' tk' e' hx'))))
local macro_rules | `(tactic| walk_at "getAttr ref") => `(tactic| (k_here; (with_reducible show wpAny _ _ (getAttr (Value.ref _) (Str.ofString "sender") _) _ _ _); k_dflt (first
  | (refine get_own (by k_asm) (by k_asm) (by k_asm) (by assumption) (by assumption) (by k_mem) (by k_mem) en3 (by with_reducible assumption) (by with_reducible assumption) ?_)
  | (refine get_miss (by k_asm) (by k_asm) (by k_asm) (by assumption) (by assumption) (by k_mem) (by k_mem) en3 (by with_reducible assumption) rfl ?_; intro h' tk' e' hx'))))
local macro_rules | `(tactic| walk_at "getAttr ref") => `(tactic| (k_here; (with_reducible show wpAny _ _ (getAttr (Value.ref _) (Str.ofString "recipients") _) _ _ _); k_dflt (first
  | (refine get_own (by k_asm) (by k_asm) (by k_asm) (by assumption) (by assumption) (by k_mem) (by k_mem) en4 (by with_reducible assumption) (by with_reducible assumption) ?_)
  | (refine get_miss (by k_asm) (by k_asm) (by k_asm) (by assumption) (by assumption) (by k_mem) (by k_mem) en4 (by with_reducible assumption) rfl ?_; intro h' tk' e' hx'))))
local macro_rules | `(tactic| walk_at "noteFrame ref") => `(tactic| (k_here; k_dflt (refine' caught_attr rfl rfl ?kk ?kc ?klt ?knl ?khx ?kF ?kN ?kX ?kT ?kex ?_ rfl rfl ?kE; (case khx => assumption); (case kF => assumption); (case kN => assumption); (case kc => assumption); (case knl => assumption); (case klt => first | assumption | exact And.left (by assumption)); (case kk => assumption); (case kX => assumption); (case kT => assumption); (case kex => k_is); (case kE => passes_own)); intro h' sl' F' N'))
theorem read_reply (w : World) (mean : ExcName → Option Value) (mg mb : Str → Option Value) (loose : List Str) (ns : List Int) (C e d t : Addr) (oe od ot : Obj) (v1 v2 : Value) (news : List (Addr × Obj)) (dp un : Nat) (gd : Option (List Code)) (cn : Str) (cs : Scope) (a : Addr) (ccd : Value) (h₀ : Heap) (L : Addr) (m : Str → Option Value) (s : Shared) (Q E : Value → Shared → Prop)
    (F : Fr h₀ L s.heap m) (X : (hd.heap_39 w.params).In h₀) (N : News h₀ L s.heap ((e, oe) :: (d, od) :: (t, ot) :: news)) (T : Top hd.view_39 loose mean mg mb h₀) (hk : cs.kind = .function) (hdp : dp + 1 < recursionLimit) (hun : un + 8 < cLine)
    (hC : ErrCls (hd.heap_39 w.params) C) (ho : ErrObj C d t oe) (hl1 : lookIn (Str.ofString "smtp_code") od = some (some v1)) (hl2 : lookIn (Str.ofString "smtp_error") od = some (some v2)) (hl3 : lookIn (Str.ofString "sender") od = some (none)) (hl4 : lookIn (Str.ofString "recipients") od = some (none)) (hv1 : handedIn v1 = true) (hv2 : handedIn v2 = true)
    (hret : ∀ D oD h' tk, (D == sysModules) = false → Obj.IsDictOf (PySem.strKind PySem.Challenge.rw_dn0159_09.row.prog w) oD [(Str.ofString "args", Value.ref t), (Str.ofString "code", v1), (Str.ofString "msg", v2)] → Fr h₀ L h' m → News h₀ L h' ((D, oD) :: (e, oe) :: (d, od) :: (t, ot) :: news) → (e < D ∧ d < D ∧ t < D ∧ AllLt D news) → Q (.ref D) { s with heap := h', toks := tk }) :
    wpAny (model PySem.Challenge.rw_dn0159_09.row.prog w) (ktrTop dp un gd cn cs L a ccd [] []) (call (.ref 177) [.ref e]) Q E s := by
  w_top off
  revert X hC; k_fill; intro X hC
  have kMark : KstMark := kstMark
  refine wpAny_call ?_
  refine TLgL.code_def F X N T (by rfl) (by k_is) (by k_is) (by ktr_room) (by first | exact binds_K (by k_in) rfl (by k_is) rfl rfl rfl | exact BindsTo.of_eq rfl) (locs rfl) ?_ hk
  intro oL h₁ tiC tiF tiE F' N'
  have N'' : News h₀ s.heap.objs.size h₁ ((L, oL) :: (e, oe) :: (d, od) :: (t, ot) :: news) := fun p hp => N' p (by
    rcases List.mem_cons.mp hp with rfl | hp
    · exact List.mem_append.mpr (.inr (.head _))
    · exact List.mem_append.mpr (.inl hp))
  clear N' N F
  k_steps
  rename_i FF NN
  rename (_ < _ ∧ _ < _ ∧ _ < _ ∧ _ < _ ∧ AllLt _ _) => l1
  obtain ⟨F2, N2⟩ := leave_in tiC (by assumption) (by assumption) l1.1 tiE
  exact hret _ _ _ _ (by assumption) (by assumption) F2 N2 l1.2
theorem read_sender (w : World) (mean : ExcName → Option Value) (mg mb : Str → Option Value) (loose : List Str) (ns : List Int) (C e d t : Addr) (oe od ot : Obj) (v1 v2 v3 : Value) (news : List (Addr × Obj)) (dp un : Nat) (gd : Option (List Code)) (cn : Str) (cs : Scope) (a : Addr) (ccd : Value) (h₀ : Heap) (L : Addr) (m : Str → Option Value) (s : Shared) (Q E : Value → Shared → Prop)
    (F : Fr h₀ L s.heap m) (X : (hd.heap_39 w.params).In h₀) (N : News h₀ L s.heap ((e, oe) :: (d, od) :: (t, ot) :: news)) (T : Top hd.view_39 loose mean mg mb h₀) (hk : cs.kind = .function) (hdp : dp + 1 < recursionLimit) (hun : un + 8 < cLine)
    (hC : ErrCls (hd.heap_39 w.params) C) (ho : ErrObj C d t oe) (hl1 : lookIn (Str.ofString "smtp_code") od = some (some v1)) (hl2 : lookIn (Str.ofString "smtp_error") od = some (some v2)) (hl3 : lookIn (Str.ofString "sender") od = some (some v3)) (hl4 : lookIn (Str.ofString "recipients") od = some (none)) (hv1 : handedIn v1 = true) (hv2 : handedIn v2 = true) (hv3 : handedIn v3 = true)
    (hret : ∀ D oD h' tk, (D == sysModules) = false → Obj.IsDictOf (PySem.strKind PySem.Challenge.rw_dn0159_09.row.prog w) oD [(Str.ofString "args", Value.ref t), (Str.ofString "code", v1), (Str.ofString "msg", v2), (Str.ofString "sender", v3)] → Fr h₀ L h' m → News h₀ L h' ((D, oD) :: (e, oe) :: (d, od) :: (t, ot) :: news) → (e < D ∧ d < D ∧ t < D ∧ AllLt D news) → Q (.ref D) { s with heap := h', toks := tk }) :
    wpAny (model PySem.Challenge.rw_dn0159_09.row.prog w) (ktrTop dp un gd cn cs L a ccd [] []) (call (.ref 177) [.ref e]) Q E s := by
  w_top off
  revert X hC; k_fill; intro X hC
  have kMark : KstMark := kstMark
  refine wpAny_call ?_
  refine TLgL.code_def F X N T (by rfl) (by k_is) (by k_is) (by ktr_room) (by first | exact binds_K (by k_in) rfl (by k_is) rfl rfl rfl | exact BindsTo.of_eq rfl) (locs rfl) ?_ hk
  intro oL h₁ tiC tiF tiE F' N'
  have N'' : News h₀ s.heap.objs.size h₁ ((L, oL) :: (e, oe) :: (d, od) :: (t, ot) :: news) := fun p hp => N' p (by
    rcases List.mem_cons.mp hp with rfl | hp
    · exact List.mem_append.mpr (.inr (.head _))
    · exact List.mem_append.mpr (.inl hp))
  clear N' N F
  k_steps
  rename_i FF NN
  rename (_ < _ ∧ _ < _ ∧ _ < _ ∧ _ < _ ∧ AllLt _ _) => l1
  obtain ⟨F2, N2⟩ := leave_in tiC (by assumption) (by assumption) l1.1 tiE
  exact hret _ _ _ _ (by assumption) (by assumption) F2 N2 l1.2
end Mine

end

/-! M09 -/
section
open PySem PySem.W PyProof.Rows
set_option maxHeartbeats 8000000
namespace Mine
open PySem.W.X
local macro_rules | `(tactic| x_close) => `(tactic| first
  | exact ⟨_, _, _, _, _, _, _, _, _, _, _, rfl, rfl, by assumption, ⟨rfl, rfl, _, rfl, rfl⟩, ⟨_, rfl, rfl⟩, by kernel_rfl, by kernel_rfl, by kernel_rfl, by kernel_rfl⟩
  | fail "left")
theorem mk68 (w : World) (s : Shared) (v1 v2 : Value) (X : (hd.heap_39 w.params).In s.heap) :
    wpAny (model PySem.Challenge.rw_dn0159_09.row.prog w) A9 (call (.ref 68) [v1, v2]) (MadeQ s 68 [v1, v2] (some v1) (some v2) none none) (fun _ _ => False) s := by
  revert X; k_fill; intro X
  x_run
theorem mk87 (w : World) (s : Shared) (v1 v2 v3 : Value) (X : (hd.heap_39 w.params).In s.heap) :
    wpAny (model PySem.Challenge.rw_dn0159_09.row.prog w) A9 (call (.ref 87) [v1, v2, v3]) (MadeQ s 87 [v1, v2, v3] (some v1) (some v2) (some v3) none) (fun _ _ => False) s := by
  revert X; k_fill; intro X
  x_run
theorem mkSub (w : World) (s : Shared) (v1 v2 : Value) (C N a1 : Addr) (nm qn : Str) (t1 t2 k1 k2 k3 k4 : Tok) (h1 h2 h3 h4 : Int) (x1 x2 x3 x4 : Value) (X : (hd.heap_39 w.params).In s.heap)
    (hC : s.heap.get? C = some ⟨.type "type", none, .cls { name := nm, bases := [.ref 68], mro := [.ref C, .ref 68, .ref 24, .type "OSError", .type "Exception", .type "BaseException", .type "object"], ns := N, qualname := qn }, #[some (.ref a1), none, some (.str nm t1), some (.str nm t2), some (.builtin "OSError.__new__"), some (.bool true)]⟩)
    (hN : s.heap.get? N = some ⟨.type "dict", none, .dict #[⟨h1, .str (Str.ofString "__module__") k1, x1⟩, ⟨h2, .str (Str.ofString "__firstlineno__") k2, x2⟩, ⟨h3, .str (Str.ofString "__static_attributes__") k3, x3⟩, ⟨h4, .str (Str.ofString "__doc__") k4, x4⟩] 2, #[]⟩) :
    wpAny (model PySem.Challenge.rw_dn0159_09.row.prog w) A9 (call (.ref C) [v1, v2]) (MadeQ s C [v1, v2] (some v1) (some v2) none none) (fun _ _ => False) s := by
  revert X; k_fill; intro X
  x_run
theorem mk118 (w : World) (s : Shared) (v1 v2 : Value) (X : (hd.heap_39 w.params).In s.heap) :
    wpAny (model PySem.Challenge.rw_dn0159_09.row.prog w) A9 (call (.ref 118) [v1, v2]) (MadeQ s 118 [v1, v2] (some v1) (some v2) none none) (fun _ _ => False) s :=
  mkSub w s v1 v2 118 117 _ _ _ _ _ _ _ _ _ _ _ _ _ _ _ _ _ X (X 118 _ rfl) (X 117 _ rfl)
theorem mk130 (w : World) (s : Shared) (v1 v2 : Value) (X : (hd.heap_39 w.params).In s.heap) :
    wpAny (model PySem.Challenge.rw_dn0159_09.row.prog w) A9 (call (.ref 130) [v1, v2]) (MadeQ s 130 [v1, v2] (some v1) (some v2) none none) (fun _ _ => False) s :=
  mkSub w s v1 v2 130 129 _ _ _ _ _ _ _ _ _ _ _ _ _ _ _ _ _ X (X 130 _ rfl) (X 129 _ rfl)
theorem mk142 (w : World) (s : Shared) (v1 v2 : Value) (X : (hd.heap_39 w.params).In s.heap) :
    wpAny (model PySem.Challenge.rw_dn0159_09.row.prog w) A9 (call (.ref 142) [v1, v2]) (MadeQ s 142 [v1, v2] (some v1) (some v2) none none) (fun _ _ => False) s :=
  mkSub w s v1 v2 142 141 _ _ _ _ _ _ _ _ _ _ _ _ _ _ _ _ _ X (X 142 _ rfl) (X 141 _ rfl)
theorem mk154 (w : World) (s : Shared) (v1 v2 : Value) (X : (hd.heap_39 w.params).In s.heap) :
    wpAny (model PySem.Challenge.rw_dn0159_09.row.prog w) A9 (call (.ref 154) [v1, v2]) (MadeQ s 154 [v1, v2] (some v1) (some v2) none none) (fun _ _ => False) s :=
  mkSub w s v1 v2 154 153 _ _ _ _ _ _ _ _ _ _ _ _ _ _ _ _ _ X (X 154 _ rfl) (X 153 _ rfl)
end Mine

end

/-! W09 -/
section
open PySem PySem.W PyProof.Rows
set_option maxHeartbeats 3000000
namespace Mine
theorem cls68 (P : Params) : ErrCls (hd.heap_39 P) 68 := errCls_of (by kernel_rfl)
theorem typ68 (P : Params) : typeIn (hd.heap_39 P) (.ref 68) = some (.type "type") := by kernel_rfl
theorem cls118 (P : Params) : ErrCls (hd.heap_39 P) 118 := errCls_of (by kernel_rfl)
theorem typ118 (P : Params) : typeIn (hd.heap_39 P) (.ref 118) = some (.type "type") := by kernel_rfl
theorem cls130 (P : Params) : ErrCls (hd.heap_39 P) 130 := errCls_of (by kernel_rfl)
theorem typ130 (P : Params) : typeIn (hd.heap_39 P) (.ref 130) = some (.type "type") := by kernel_rfl
theorem cls142 (P : Params) : ErrCls (hd.heap_39 P) 142 := errCls_of (by kernel_rfl)
theorem typ142 (P : Params) : typeIn (hd.heap_39 P) (.ref 142) = some (.type "type") := by kernel_rfl
theorem cls154 (P : Params) : ErrCls (hd.heap_39 P) 154 := errCls_of (by kernel_rfl)
theorem typ154 (P : Params) : typeIn (hd.heap_39 P) (.ref 154) = some (.type "type") := by kernel_rfl
theorem cls87 (P : Params) : ErrCls (hd.heap_39 P) 87 := errCls_of (by kernel_rfl)
theorem typ87 (P : Params) : typeIn (hd.heap_39 P) (.ref 87) = some (.type "type") := by kernel_rfl
local macro_rules | `(tactic| walk_at "exec Raise some none") => `(tactic| (k_here; (with_reducible show wpAny _ _ (exec (Stmt.Raise (some (Expr.Call _ _ _ _)) none _) _) _ _ _); k_dflt (refine raise_stmt' (by k_asm) rfl ?_)))
local macro_rules | `(tactic| walk_at "call ref") => `(tactic| (k_here; (with_reducible show wpAny _ _ (call (Value.ref 68) [_, _]) _ _ _); k_dflt (refine' made_use (mk68 _ _ _ _ ?kX) rfl ?kd ?ku ?kF ?kN ?_; (case kF => k_asm); (case kN => k_asm); (case kX => exact Frag.In.keeps (by k_asm) (Fr.keep (by k_asm))); (case kd => exact dp_ok (by assumption)); (case ku => exact un_ok (by assumption))); intro e' d' t' oe' od' h' tk' ho' hn' ha' F' N' ap'))
local macro_rules | `(tactic| walk_at "call ref") => `(tactic| (k_here; (with_reducible show wpAny _ _ (call (Value.ref 118) [_, _]) _ _ _); k_dflt (refine' made_use (mk118 _ _ _ _ ?kX) rfl ?kd ?ku ?kF ?kN ?_; (case kF => k_asm); (case kN => k_asm); (case kX => exact Frag.In.keeps (by k_asm) (Fr.keep (by k_asm))); (case kd => exact dp_ok (by assumption)); (case ku => exact un_ok (by assumption))); intro e' d' t' oe' od' h' tk' ho' hn' ha' F' N' ap'))
local macro_rules | `(tactic| walk_at "call ref") => `(tactic| (k_here; (with_reducible show wpAny _ _ (call (Value.ref 130) [_, _]) _ _ _); k_dflt (refine' made_use (mk130 _ _ _ _ ?kX) rfl ?kd ?ku ?kF ?kN ?_; (case kF => k_asm); (case kN => k_asm); (case kX => exact Frag.In.keeps (by k_asm) (Fr.keep (by k_asm))); (case kd => exact dp_ok (by assumption)); (case ku => exact un_ok (by assumption))); intro e' d' t' oe' od' h' tk' ho' hn' ha' F' N' ap'))
local macro_rules | `(tactic| walk_at "call ref") => `(tactic| (k_here; (with_reducible show wpAny _ _ (call (Value.ref 142) [_, _]) _ _ _); k_dflt (refine' made_use (mk142 _ _ _ _ ?kX) rfl ?kd ?ku ?kF ?kN ?_; (case kF => k_asm); (case kN => k_asm); (case kX => exact Frag.In.keeps (by k_asm) (Fr.keep (by k_asm))); (case kd => exact dp_ok (by assumption)); (case ku => exact un_ok (by assumption))); intro e' d' t' oe' od' h' tk' ho' hn' ha' F' N' ap'))
local macro_rules | `(tactic| walk_at "call ref") => `(tactic| (k_here; (with_reducible show wpAny _ _ (call (Value.ref 154) [_, _]) _ _ _); k_dflt (refine' made_use (mk154 _ _ _ _ ?kX) rfl ?kd ?ku ?kF ?kN ?_; (case kF => k_asm); (case kN => k_asm); (case kX => exact Frag.In.keeps (by k_asm) (Fr.keep (by k_asm))); (case kd => exact dp_ok (by assumption)); (case ku => exact un_ok (by assumption))); intro e' d' t' oe' od' h' tk' ho' hn' ha' F' N' ap'))
local macro_rules | `(tactic| walk_at "call ref") => `(tactic| (k_here; (with_reducible show wpAny _ _ (call (Value.ref 87) [_, _, _]) _ _ _); k_dflt (refine' made_use (mk87 _ _ _ _ _ ?kX) rfl ?kd ?ku ?kF ?kN ?_; (case kF => k_asm); (case kN => k_asm); (case kX => exact Frag.In.keeps (by k_asm) (Fr.keep (by k_asm))); (case kd => exact dp_ok (by assumption)); (case ku => exact un_ok (by assumption))); intro e' d' t' oe' od' h' tk' ho' hn' ha' F' N' ap'))
local macro_rules | `(tactic| walk_at "RaiseAt") => `(tactic| (k_here; k_dflt (refine' raise_at ?kX ?kF ?kN ?kC ?kt ?km ?ko ?kn ?_; (case kF => k_asm); (case kN => k_asm); (case kX => k_asm); (case ko => assumption); (case kn => assumption); (case kC => assumption); (case kt => assumption); (case km => k_mem))))
local macro_rules | `(tactic| walk_at "noteFrame ref") => `(tactic| (k_here; (with_reducible rename TbNone _ => hn); k_dflt (refine' raised_first rfl rfl ?kk ?kc ?knl ?kF ?kN ?ko hn ?kap rfl ?_; (case kF => assumption); (case kN => assumption); (case ko => assumption); (case kc => assumption); (case kap => assumption); (case knl => assumption); (case kk => assumption)); intro h' sl' T' oT' oe' ho' H'))
local macro_rules | `(tactic| walk_at "handleBy ref") => `(tactic| (k_here; (with_reducible rename Held _ _ _ _ _ _ _ _ _ => hH); (with_reducible rename ErrObj _ _ _ _ => hO); k_dflt (first
  | (refine' held_pass hH (ErrObj.cls hO) ?kX ?kT ?kt ?_; (case kX => k_asm); (case kT => exact topRead_of (by k_asm)); (case kt => kts_test); clear hH; intro h' H')
  | (refine' held_hitB hH (ErrObj.cls hO) ?kX ?kT ?kt ?_ rfl rfl; (case kX => k_asm); (case kT => exact topRead_of (by k_asm)); (case kt => kts_test); clear hH; intro h' oT' tk' H' l'; have F' := H'.fr; have N' := H'.nw))))
theorem raise_0 (w : World) (mean : ExcName → Option Value) (mg mb : Str → Option Value) (loose : List Str) (code msg sender : Value) (kt : Tok) (news : List (Addr × Obj)) (dp un : Nat) (gd : Option (List Code)) (cn : Str) (cs : Scope) (a : Addr) (ccd : Value) (h₀ : Heap) (L : Addr) (m : Str → Option Value) (s : Shared) (Q E : Value → Shared → Prop)
    (F : Fr h₀ L s.heap m) (X : (hd.heap_39 w.params).In h₀) (N : News h₀ L s.heap news) (T : Top hd.view_39 loose mean mg mb h₀) (hk : cs.kind = .function) (hdp : dp + 1 < 800) (hun : un + 8 < 90)
    (hret : ∀ u e d t T oe od oT kt' h' tk, ErrObj 68 d t oe → Attrs od (some code) (some msg) none none → TbAt oe T → Landed oT → Fr h₀ L h' m → News h₀ L h' ((u, tupObj [.int 0 kt', .ref e]) :: (e, oe) :: (T, oT) :: (t, tupObj [code, msg]) :: (d, od) :: news) → ApartR e d t T news → (e < u ∧ T < u ∧ t < u ∧ d < u ∧ AllLt u news) → Q (.ref u) { s with heap := h', toks := tk }) :
    wpAny (model PySem.Challenge.rw_dn0159_09.row.prog w) (ktrTop dp un gd cn cs L a ccd [] []) (call (.ref 163) [.int 0 kt, code, msg, sender]) Q E s := by
  w_top off
  have hC := cls68 w.params
  have hty := typ68 w.params
  revert X hC hty; k_fill; intro X hC hty
  have kMark : KstMark := kstMark
  refine wpAny_call ?_
  refine TLgL.code_def F X N T (by rfl) (by k_is) (by k_is) (rm_ok hdp) (by first | exact binds_K (by k_in) rfl (by k_is) rfl rfl rfl | exact BindsTo.of_eq rfl) (locs rfl) ?_ hk
  intro oL h₁ tiC tiF tiE F' N'
  have N'' : News h₀ s.heap.objs.size h₁ ((L, oL) :: news) := fun p hp => N' p (by
    rcases List.mem_cons.mp hp with rfl | hp
    · exact List.mem_append.mpr (.inr (.head _))
    · exact List.mem_append.mpr (.inl hp))
  clear N' N F
  k_steps
  rename (_ < _ ∧ _ < _ ∧ _ < _ ∧ _ < _ ∧ _ < _ ∧ AllLt _ _) => l1
  rename Held _ _ _ _ _ _ _ _ _ => hH
  rename Apart3 _ _ _ _ => ap
  obtain ⟨F2, N2, A2, B2⟩ := raise_end (by assumption) (by assumption) (by assumption) hH ap (by assumption) l1
  exact hret _ _ _ _ _ _ _ _ _ _ _ (by assumption) (by assumption) B2 (by assumption) F2 N2 A2 ⟨l1.1, l1.2.1, l1.2.2.2.1, l1.2.2.2.2.1, l1.2.2.2.2.2⟩
theorem raise_1 (w : World) (mean : ExcName → Option Value) (mg mb : Str → Option Value) (loose : List Str) (code msg sender : Value) (kt : Tok) (news : List (Addr × Obj)) (dp un : Nat) (gd : Option (List Code)) (cn : Str) (cs : Scope) (a : Addr) (ccd : Value) (h₀ : Heap) (L : Addr) (m : Str → Option Value) (s : Shared) (Q E : Value → Shared → Prop)
    (F : Fr h₀ L s.heap m) (X : (hd.heap_39 w.params).In h₀) (N : News h₀ L s.heap news) (T : Top hd.view_39 loose mean mg mb h₀) (hk : cs.kind = .function) (hdp : dp + 1 < 800) (hun : un + 8 < 90)
    (hret : ∀ u e d t T oe od oT kt' h' tk, ErrObj 118 d t oe → Attrs od (some code) (some msg) none none → TbAt oe T → Landed oT → Fr h₀ L h' m → News h₀ L h' ((u, tupObj [.int 1 kt', .ref e]) :: (e, oe) :: (T, oT) :: (t, tupObj [code, msg]) :: (d, od) :: news) → ApartR e d t T news → (e < u ∧ T < u ∧ t < u ∧ d < u ∧ AllLt u news) → Q (.ref u) { s with heap := h', toks := tk }) :
    wpAny (model PySem.Challenge.rw_dn0159_09.row.prog w) (ktrTop dp un gd cn cs L a ccd [] []) (call (.ref 163) [.int 1 kt, code, msg, sender]) Q E s := by
  w_top off
  have hC := cls118 w.params
  have hty := typ118 w.params
  revert X hC hty; k_fill; intro X hC hty
  have kMark : KstMark := kstMark
  refine wpAny_call ?_
  refine TLgL.code_def F X N T (by rfl) (by k_is) (by k_is) (rm_ok hdp) (by first | exact binds_K (by k_in) rfl (by k_is) rfl rfl rfl | exact BindsTo.of_eq rfl) (locs rfl) ?_ hk
  intro oL h₁ tiC tiF tiE F' N'
  have N'' : News h₀ s.heap.objs.size h₁ ((L, oL) :: news) := fun p hp => N' p (by
    rcases List.mem_cons.mp hp with rfl | hp
    · exact List.mem_append.mpr (.inr (.head _))
    · exact List.mem_append.mpr (.inl hp))
  clear N' N F
  k_steps
  rename (_ < _ ∧ _ < _ ∧ _ < _ ∧ _ < _ ∧ _ < _ ∧ AllLt _ _) => l1
  rename Held _ _ _ _ _ _ _ _ _ => hH
  rename Apart3 _ _ _ _ => ap
  obtain ⟨F2, N2, A2, B2⟩ := raise_end (by assumption) (by assumption) (by assumption) hH ap (by assumption) l1
  exact hret _ _ _ _ _ _ _ _ _ _ _ (by assumption) (by assumption) B2 (by assumption) F2 N2 A2 ⟨l1.1, l1.2.1, l1.2.2.2.1, l1.2.2.2.2.1, l1.2.2.2.2.2⟩
theorem raise_2 (w : World) (mean : ExcName → Option Value) (mg mb : Str → Option Value) (loose : List Str) (code msg sender : Value) (kt : Tok) (news : List (Addr × Obj)) (dp un : Nat) (gd : Option (List Code)) (cn : Str) (cs : Scope) (a : Addr) (ccd : Value) (h₀ : Heap) (L : Addr) (m : Str → Option Value) (s : Shared) (Q E : Value → Shared → Prop)
    (F : Fr h₀ L s.heap m) (X : (hd.heap_39 w.params).In h₀) (N : News h₀ L s.heap news) (T : Top hd.view_39 loose mean mg mb h₀) (hk : cs.kind = .function) (hdp : dp + 1 < 800) (hun : un + 8 < 90)
    (hret : ∀ u e d t T oe od oT kt' h' tk, ErrObj 130 d t oe → Attrs od (some code) (some msg) none none → TbAt oe T → Landed oT → Fr h₀ L h' m → News h₀ L h' ((u, tupObj [.int 2 kt', .ref e]) :: (e, oe) :: (T, oT) :: (t, tupObj [code, msg]) :: (d, od) :: news) → ApartR e d t T news → (e < u ∧ T < u ∧ t < u ∧ d < u ∧ AllLt u news) → Q (.ref u) { s with heap := h', toks := tk }) :
    wpAny (model PySem.Challenge.rw_dn0159_09.row.prog w) (ktrTop dp un gd cn cs L a ccd [] []) (call (.ref 163) [.int 2 kt, code, msg, sender]) Q E s := by
  w_top off
  have hC := cls130 w.params
  have hty := typ130 w.params
  revert X hC hty; k_fill; intro X hC hty
  have kMark : KstMark := kstMark
  refine wpAny_call ?_
  refine TLgL.code_def F X N T (by rfl) (by k_is) (by k_is) (rm_ok hdp) (by first | exact binds_K (by k_in) rfl (by k_is) rfl rfl rfl | exact BindsTo.of_eq rfl) (locs rfl) ?_ hk
  intro oL h₁ tiC tiF tiE F' N'
  have N'' : News h₀ s.heap.objs.size h₁ ((L, oL) :: news) := fun p hp => N' p (by
    rcases List.mem_cons.mp hp with rfl | hp
    · exact List.mem_append.mpr (.inr (.head _))
    · exact List.mem_append.mpr (.inl hp))
  clear N' N F
  k_steps
  rename (_ < _ ∧ _ < _ ∧ _ < _ ∧ _ < _ ∧ _ < _ ∧ AllLt _ _) => l1
  rename Held _ _ _ _ _ _ _ _ _ => hH
  rename Apart3 _ _ _ _ => ap
  obtain ⟨F2, N2, A2, B2⟩ := raise_end (by assumption) (by assumption) (by assumption) hH ap (by assumption) l1
  exact hret _ _ _ _ _ _ _ _ _ _ _ (by assumption) (by assumption) B2 (by assumption) F2 N2 A2 ⟨l1.1, l1.2.1, l1.2.2.2.1, l1.2.2.2.2.1, l1.2.2.2.2.2⟩
theorem raise_3 (w : World) (mean : ExcName → Option Value) (mg mb : Str → Option Value) (loose : List Str) (code msg sender : Value) (kt : Tok) (news : List (Addr × Obj)) (dp un : Nat) (gd : Option (List Code)) (cn : Str) (cs : Scope) (a : Addr) (ccd : Value) (h₀ : Heap) (L : Addr) (m : Str → Option Value) (s : Shared) (Q E : Value → Shared → Prop)
    (F : Fr h₀ L s.heap m) (X : (hd.heap_39 w.params).In h₀) (N : News h₀ L s.heap news) (T : Top hd.view_39 loose mean mg mb h₀) (hk : cs.kind = .function) (hdp : dp + 1 < 800) (hun : un + 8 < 90)
    (hret : ∀ u e d t T oe od oT kt' h' tk, ErrObj 142 d t oe → Attrs od (some code) (some msg) none none → TbAt oe T → Landed oT → Fr h₀ L h' m → News h₀ L h' ((u, tupObj [.int 3 kt', .ref e]) :: (e, oe) :: (T, oT) :: (t, tupObj [code, msg]) :: (d, od) :: news) → ApartR e d t T news → (e < u ∧ T < u ∧ t < u ∧ d < u ∧ AllLt u news) → Q (.ref u) { s with heap := h', toks := tk }) :
    wpAny (model PySem.Challenge.rw_dn0159_09.row.prog w) (ktrTop dp un gd cn cs L a ccd [] []) (call (.ref 163) [.int 3 kt, code, msg, sender]) Q E s := by
  w_top off
  have hC := cls142 w.params
  have hty := typ142 w.params
  revert X hC hty; k_fill; intro X hC hty
  have kMark : KstMark := kstMark
  refine wpAny_call ?_
  refine TLgL.code_def F X N T (by rfl) (by k_is) (by k_is) (rm_ok hdp) (by first | exact binds_K (by k_in) rfl (by k_is) rfl rfl rfl | exact BindsTo.of_eq rfl) (locs rfl) ?_ hk
  intro oL h₁ tiC tiF tiE F' N'
  have N'' : News h₀ s.heap.objs.size h₁ ((L, oL) :: news) := fun p hp => N' p (by
    rcases List.mem_cons.mp hp with rfl | hp
    · exact List.mem_append.mpr (.inr (.head _))
    · exact List.mem_append.mpr (.inl hp))
  clear N' N F
  k_steps
  rename (_ < _ ∧ _ < _ ∧ _ < _ ∧ _ < _ ∧ _ < _ ∧ AllLt _ _) => l1
  rename Held _ _ _ _ _ _ _ _ _ => hH
  rename Apart3 _ _ _ _ => ap
  obtain ⟨F2, N2, A2, B2⟩ := raise_end (by assumption) (by assumption) (by assumption) hH ap (by assumption) l1
  exact hret _ _ _ _ _ _ _ _ _ _ _ (by assumption) (by assumption) B2 (by assumption) F2 N2 A2 ⟨l1.1, l1.2.1, l1.2.2.2.1, l1.2.2.2.2.1, l1.2.2.2.2.2⟩
theorem raise_4 (w : World) (mean : ExcName → Option Value) (mg mb : Str → Option Value) (loose : List Str) (code msg sender : Value) (kt : Tok) (news : List (Addr × Obj)) (dp un : Nat) (gd : Option (List Code)) (cn : Str) (cs : Scope) (a : Addr) (ccd : Value) (h₀ : Heap) (L : Addr) (m : Str → Option Value) (s : Shared) (Q E : Value → Shared → Prop)
    (F : Fr h₀ L s.heap m) (X : (hd.heap_39 w.params).In h₀) (N : News h₀ L s.heap news) (T : Top hd.view_39 loose mean mg mb h₀) (hk : cs.kind = .function) (hdp : dp + 1 < 800) (hun : un + 8 < 90)
    (hret : ∀ u e d t T oe od oT kt' h' tk, ErrObj 154 d t oe → Attrs od (some code) (some msg) none none → TbAt oe T → Landed oT → Fr h₀ L h' m → News h₀ L h' ((u, tupObj [.int 4 kt', .ref e]) :: (e, oe) :: (T, oT) :: (t, tupObj [code, msg]) :: (d, od) :: news) → ApartR e d t T news → (e < u ∧ T < u ∧ t < u ∧ d < u ∧ AllLt u news) → Q (.ref u) { s with heap := h', toks := tk }) :
    wpAny (model PySem.Challenge.rw_dn0159_09.row.prog w) (ktrTop dp un gd cn cs L a ccd [] []) (call (.ref 163) [.int 4 kt, code, msg, sender]) Q E s := by
  w_top off
  have hC := cls154 w.params
  have hty := typ154 w.params
  revert X hC hty; k_fill; intro X hC hty
  have kMark : KstMark := kstMark
  refine wpAny_call ?_
  refine TLgL.code_def F X N T (by rfl) (by k_is) (by k_is) (rm_ok hdp) (by first | exact binds_K (by k_in) rfl (by k_is) rfl rfl rfl | exact BindsTo.of_eq rfl) (locs rfl) ?_ hk
  intro oL h₁ tiC tiF tiE F' N'
  have N'' : News h₀ s.heap.objs.size h₁ ((L, oL) :: news) := fun p hp => N' p (by
    rcases List.mem_cons.mp hp with rfl | hp
    · exact List.mem_append.mpr (.inr (.head _))
    · exact List.mem_append.mpr (.inl hp))
  clear N' N F
  k_steps
  rename (_ < _ ∧ _ < _ ∧ _ < _ ∧ _ < _ ∧ _ < _ ∧ AllLt _ _) => l1
  rename Held _ _ _ _ _ _ _ _ _ => hH
  rename Apart3 _ _ _ _ => ap
  obtain ⟨F2, N2, A2, B2⟩ := raise_end (by assumption) (by assumption) (by assumption) hH ap (by assumption) l1
  exact hret _ _ _ _ _ _ _ _ _ _ _ (by assumption) (by assumption) B2 (by assumption) F2 N2 A2 ⟨l1.1, l1.2.1, l1.2.2.2.1, l1.2.2.2.2.1, l1.2.2.2.2.2⟩
theorem raise_5 (w : World) (mean : ExcName → Option Value) (mg mb : Str → Option Value) (loose : List Str) (code msg sender : Value) (kt : Tok) (news : List (Addr × Obj)) (dp un : Nat) (gd : Option (List Code)) (cn : Str) (cs : Scope) (a : Addr) (ccd : Value) (h₀ : Heap) (L : Addr) (m : Str → Option Value) (s : Shared) (Q E : Value → Shared → Prop)
    (F : Fr h₀ L s.heap m) (X : (hd.heap_39 w.params).In h₀) (N : News h₀ L s.heap news) (T : Top hd.view_39 loose mean mg mb h₀) (hk : cs.kind = .function) (hdp : dp + 1 < 800) (hun : un + 8 < 90)
    (hret : ∀ u e d t T oe od oT kt' h' tk, ErrObj 87 d t oe → Attrs od (some code) (some msg) (some sender) none → TbAt oe T → Landed oT → Fr h₀ L h' m → News h₀ L h' ((u, tupObj [.int 5 kt', .ref e]) :: (e, oe) :: (T, oT) :: (t, tupObj [code, msg, sender]) :: (d, od) :: news) → ApartR e d t T news → (e < u ∧ T < u ∧ t < u ∧ d < u ∧ AllLt u news) → Q (.ref u) { s with heap := h', toks := tk }) :
    wpAny (model PySem.Challenge.rw_dn0159_09.row.prog w) (ktrTop dp un gd cn cs L a ccd [] []) (call (.ref 163) [.int 5 kt, code, msg, sender]) Q E s := by
  w_top off
  have hC := cls87 w.params
  have hty := typ87 w.params
  revert X hC hty; k_fill; intro X hC hty
  have kMark : KstMark := kstMark
  refine wpAny_call ?_
  refine TLgL.code_def F X N T (by rfl) (by k_is) (by k_is) (rm_ok hdp) (by first | exact binds_K (by k_in) rfl (by k_is) rfl rfl rfl | exact BindsTo.of_eq rfl) (locs rfl) ?_ hk
  intro oL h₁ tiC tiF tiE F' N'
  have N'' : News h₀ s.heap.objs.size h₁ ((L, oL) :: news) := fun p hp => N' p (by
    rcases List.mem_cons.mp hp with rfl | hp
    · exact List.mem_append.mpr (.inr (.head _))
    · exact List.mem_append.mpr (.inl hp))
  clear N' N F
  k_steps
  rename (_ < _ ∧ _ < _ ∧ _ < _ ∧ _ < _ ∧ _ < _ ∧ AllLt _ _) => l1
  rename Held _ _ _ _ _ _ _ _ _ => hH
  rename Apart3 _ _ _ _ => ap
  obtain ⟨F2, N2, A2, B2⟩ := raise_end (by assumption) (by assumption) (by assumption) hH ap (by assumption) l1
  exact hret _ _ _ _ _ _ _ _ _ _ _ (by assumption) (by assumption) B2 (by assumption) F2 N2 A2 ⟨l1.1, l1.2.1, l1.2.2.2.1, l1.2.2.2.2.1, l1.2.2.2.2.2⟩
end Mine

end

/-! G09 -/
section
open PySem PySem.W PyProof.Rows
set_option maxHeartbeats 3000000
namespace Mine
def IsiOk (prog : Program) (w : World) (K : Frag) (C e : Addr) (c : Value) : Prop := ∀ (v : Option Value) (s : Shared) (d : Addr) (vs : Array Value) (sl : Array (Option Value)), K.In s.heap → s.heap.get? e = some ⟨.ref C, some d, .fields vs, sl⟩ → wpAny (model prog w) (A9h v) (call (.builtin "isinstance") [.ref e, c]) (YesQ s) (fun _ _ => False) s
section
open PySem.W.X
local macro_rules | `(tactic| x_close) => `(tactic| first | exact ⟨rfl, _, rfl⟩ | fail "left")
theorem isi68a (w : World) (v : Option Value) (s : Shared) (e d : Addr) (vs : Array Value) (sl : Array (Option Value)) (X : (hd.heap_39 w.params).In s.heap) (he : s.heap.get? e = some ⟨.ref 68, some d, .fields vs, sl⟩) :
    wpAny (model PySem.Challenge.rw_dn0159_09.row.prog w) (A9h v) (call (.builtin "isinstance") [.ref e, .ref 24]) (YesQ s) (fun _ _ => False) s := by
  revert X; k_fill; intro X
  x_run
theorem isi118a (w : World) (v : Option Value) (s : Shared) (e d : Addr) (vs : Array Value) (sl : Array (Option Value)) (X : (hd.heap_39 w.params).In s.heap) (he : s.heap.get? e = some ⟨.ref 118, some d, .fields vs, sl⟩) :
    wpAny (model PySem.Challenge.rw_dn0159_09.row.prog w) (A9h v) (call (.builtin "isinstance") [.ref e, .ref 24]) (YesQ s) (fun _ _ => False) s := by
  revert X; k_fill; intro X
  x_run
theorem isi130a (w : World) (v : Option Value) (s : Shared) (e d : Addr) (vs : Array Value) (sl : Array (Option Value)) (X : (hd.heap_39 w.params).In s.heap) (he : s.heap.get? e = some ⟨.ref 130, some d, .fields vs, sl⟩) :
    wpAny (model PySem.Challenge.rw_dn0159_09.row.prog w) (A9h v) (call (.builtin "isinstance") [.ref e, .ref 24]) (YesQ s) (fun _ _ => False) s := by
  revert X; k_fill; intro X
  x_run
theorem isi142a (w : World) (v : Option Value) (s : Shared) (e d : Addr) (vs : Array Value) (sl : Array (Option Value)) (X : (hd.heap_39 w.params).In s.heap) (he : s.heap.get? e = some ⟨.ref 142, some d, .fields vs, sl⟩) :
    wpAny (model PySem.Challenge.rw_dn0159_09.row.prog w) (A9h v) (call (.builtin "isinstance") [.ref e, .ref 24]) (YesQ s) (fun _ _ => False) s := by
  revert X; k_fill; intro X
  x_run
theorem isi154a (w : World) (v : Option Value) (s : Shared) (e d : Addr) (vs : Array Value) (sl : Array (Option Value)) (X : (hd.heap_39 w.params).In s.heap) (he : s.heap.get? e = some ⟨.ref 154, some d, .fields vs, sl⟩) :
    wpAny (model PySem.Challenge.rw_dn0159_09.row.prog w) (A9h v) (call (.builtin "isinstance") [.ref e, .ref 24]) (YesQ s) (fun _ _ => False) s := by
  revert X; k_fill; intro X
  x_run
theorem isi87a (w : World) (v : Option Value) (s : Shared) (e d : Addr) (vs : Array Value) (sl : Array (Option Value)) (X : (hd.heap_39 w.params).In s.heap) (he : s.heap.get? e = some ⟨.ref 87, some d, .fields vs, sl⟩) :
    wpAny (model PySem.Challenge.rw_dn0159_09.row.prog w) (A9h v) (call (.builtin "isinstance") [.ref e, .ref 24]) (YesQ s) (fun _ _ => False) s := by
  revert X; k_fill; intro X
  x_run
theorem isi68b (w : World) (v : Option Value) (s : Shared) (e d : Addr) (vs : Array Value) (sl : Array (Option Value)) (X : (hd.heap_39 w.params).In s.heap) (he : s.heap.get? e = some ⟨.ref 68, some d, .fields vs, sl⟩) :
    wpAny (model PySem.Challenge.rw_dn0159_09.row.prog w) (A9h v) (call (.builtin "isinstance") [.ref e, .type "OSError"]) (YesQ s) (fun _ _ => False) s := by
  revert X; k_fill; intro X
  x_run
theorem isi118b (w : World) (v : Option Value) (s : Shared) (e d : Addr) (vs : Array Value) (sl : Array (Option Value)) (X : (hd.heap_39 w.params).In s.heap) (he : s.heap.get? e = some ⟨.ref 118, some d, .fields vs, sl⟩) :
    wpAny (model PySem.Challenge.rw_dn0159_09.row.prog w) (A9h v) (call (.builtin "isinstance") [.ref e, .type "OSError"]) (YesQ s) (fun _ _ => False) s := by
  revert X; k_fill; intro X
  x_run
theorem isi130b (w : World) (v : Option Value) (s : Shared) (e d : Addr) (vs : Array Value) (sl : Array (Option Value)) (X : (hd.heap_39 w.params).In s.heap) (he : s.heap.get? e = some ⟨.ref 130, some d, .fields vs, sl⟩) :
    wpAny (model PySem.Challenge.rw_dn0159_09.row.prog w) (A9h v) (call (.builtin "isinstance") [.ref e, .type "OSError"]) (YesQ s) (fun _ _ => False) s := by
  revert X; k_fill; intro X
  x_run
theorem isi142b (w : World) (v : Option Value) (s : Shared) (e d : Addr) (vs : Array Value) (sl : Array (Option Value)) (X : (hd.heap_39 w.params).In s.heap) (he : s.heap.get? e = some ⟨.ref 142, some d, .fields vs, sl⟩) :
    wpAny (model PySem.Challenge.rw_dn0159_09.row.prog w) (A9h v) (call (.builtin "isinstance") [.ref e, .type "OSError"]) (YesQ s) (fun _ _ => False) s := by
  revert X; k_fill; intro X
  x_run
theorem isi154b (w : World) (v : Option Value) (s : Shared) (e d : Addr) (vs : Array Value) (sl : Array (Option Value)) (X : (hd.heap_39 w.params).In s.heap) (he : s.heap.get? e = some ⟨.ref 154, some d, .fields vs, sl⟩) :
    wpAny (model PySem.Challenge.rw_dn0159_09.row.prog w) (A9h v) (call (.builtin "isinstance") [.ref e, .type "OSError"]) (YesQ s) (fun _ _ => False) s := by
  revert X; k_fill; intro X
  x_run
theorem isi87b (w : World) (v : Option Value) (s : Shared) (e d : Addr) (vs : Array Value) (sl : Array (Option Value)) (X : (hd.heap_39 w.params).In s.heap) (he : s.heap.get? e = some ⟨.ref 87, some d, .fields vs, sl⟩) :
    wpAny (model PySem.Challenge.rw_dn0159_09.row.prog w) (A9h v) (call (.builtin "isinstance") [.ref e, .type "OSError"]) (YesQ s) (fun _ _ => False) s := by
  revert X; k_fill; intro X
  x_run
end
theorem ok68a (w : World) (e : Addr) : IsiOk PySem.Challenge.rw_dn0159_09.row.prog w (hd.heap_39 w.params) 68 e (.ref 24) := fun v s d vs sl X he => isi68a w v s e d vs sl X he
theorem ok118a (w : World) (e : Addr) : IsiOk PySem.Challenge.rw_dn0159_09.row.prog w (hd.heap_39 w.params) 118 e (.ref 24) := fun v s d vs sl X he => isi118a w v s e d vs sl X he
theorem ok130a (w : World) (e : Addr) : IsiOk PySem.Challenge.rw_dn0159_09.row.prog w (hd.heap_39 w.params) 130 e (.ref 24) := fun v s d vs sl X he => isi130a w v s e d vs sl X he
theorem ok142a (w : World) (e : Addr) : IsiOk PySem.Challenge.rw_dn0159_09.row.prog w (hd.heap_39 w.params) 142 e (.ref 24) := fun v s d vs sl X he => isi142a w v s e d vs sl X he
theorem ok154a (w : World) (e : Addr) : IsiOk PySem.Challenge.rw_dn0159_09.row.prog w (hd.heap_39 w.params) 154 e (.ref 24) := fun v s d vs sl X he => isi154a w v s e d vs sl X he
theorem ok87a (w : World) (e : Addr) : IsiOk PySem.Challenge.rw_dn0159_09.row.prog w (hd.heap_39 w.params) 87 e (.ref 24) := fun v s d vs sl X he => isi87a w v s e d vs sl X he
theorem ok68b (w : World) (e : Addr) : IsiOk PySem.Challenge.rw_dn0159_09.row.prog w (hd.heap_39 w.params) 68 e (.type "OSError") := fun v s d vs sl X he => isi68b w v s e d vs sl X he
theorem ok118b (w : World) (e : Addr) : IsiOk PySem.Challenge.rw_dn0159_09.row.prog w (hd.heap_39 w.params) 118 e (.type "OSError") := fun v s d vs sl X he => isi118b w v s e d vs sl X he
theorem ok130b (w : World) (e : Addr) : IsiOk PySem.Challenge.rw_dn0159_09.row.prog w (hd.heap_39 w.params) 130 e (.type "OSError") := fun v s d vs sl X he => isi130b w v s e d vs sl X he
theorem ok142b (w : World) (e : Addr) : IsiOk PySem.Challenge.rw_dn0159_09.row.prog w (hd.heap_39 w.params) 142 e (.type "OSError") := fun v s d vs sl X he => isi142b w v s e d vs sl X he
theorem ok154b (w : World) (e : Addr) : IsiOk PySem.Challenge.rw_dn0159_09.row.prog w (hd.heap_39 w.params) 154 e (.type "OSError") := fun v s d vs sl X he => isi154b w v s e d vs sl X he
theorem ok87b (w : World) (e : Addr) : IsiOk PySem.Challenge.rw_dn0159_09.row.prog w (hd.heap_39 w.params) 87 e (.type "OSError") := fun v s d vs sl X he => isi87b w v s e d vs sl X he
local macro_rules | `(tactic| walk_at "exec Raise some none") => `(tactic| (k_here; (with_reducible show wpAny _ _ (exec (Stmt.Raise (some (Expr.Name _ _)) none _) _) _ _ _); k_dflt (refine raise_stmt' (by k_asm) rfl ?_)))
local macro_rules | `(tactic| walk_at "RaiseAt") => `(tactic| (k_here; (with_reducible rename Held _ _ _ _ _ _ _ _ _ => hH); k_dflt (refine' raise_again ?kX hH ?kC ?kt ?ko ?_; (case kX => k_asm); (case ko => assumption); (case kC => assumption); (case kt => assumption)); clear hH; intro h' oT' H' l'))
local macro_rules | `(tactic| walk_at "noteFrame ref") => `(tactic| (k_here; (with_reducible rename Held _ _ _ _ _ _ _ _ _ => hH); k_dflt (refine' raised_again rfl rfl ?kk ?kc hH ?kl ?ko ?kne ?knl rfl ?_; (case kl => assumption); (case ko => assumption); (case kc => assumption); (case kne => assumption); (case knl => assumption); (case kk => assumption)); clear hH; intro h' sl' T' oT' oe' ho' H'))
local macro_rules | `(tactic| walk_at "handleBy ref") => `(tactic| (k_here; (with_reducible rename Held _ _ _ _ _ _ _ _ _ => hH); (with_reducible rename ErrObj _ _ _ _ => hO); k_dflt (first
  | (refine' held_pass hH (ErrObj.cls hO) ?kX ?kT ?kt ?_; (case kX => k_asm); (case kT => exact topRead_of (by k_asm)); (case kt => (refine' test_name ?n ?x ?hk ?hx ?hd; (case n => kts_nm); (case x => with_reducible assumption); (case hk => exact rfl); (case hx => exact rfl); (case hd => decide))); clear hH; intro h' H')
  | (refine' held_hitB hH (ErrObj.cls hO) ?kX ?kT ?kt ?_ rfl rfl; (case kX => k_asm); (case kT => exact topRead_of (by k_asm)); (case kt => (refine' test_name ?n ?x ?hk ?hx ?hd; (case n => kts_nm); (case x => with_reducible assumption); (case hk => exact rfl); (case hx => exact rfl); (case hd => decide))); clear hH; intro h' oT' tk' H' l'; have F' := H'.fr; have N' := H'.nw))))
local macro_rules | `(tactic| walk_at "call builtin:isinstance") => `(tactic| (k_here; (with_reducible show wpAny _ _ (call (Value.builtin "isinstance") [Value.ref _, _]) _ _ _); (with_reducible rename ErrObj _ _ _ _ => hO); k_dflt (refine' yes_use ?kF ?kN ?kX hO ?km ?kI ?kd ?ku ?_; (case kF => k_asm); (case kN => k_asm); (case kX => k_asm); (case km => k_mem); (case kI => (intro d vs sl kx he; exact (by assumption : IsiOk _ _ _ _ _ _) _ _ d vs sl kx he)); (case kd => exact dp_ok' (by assumption)); (case ku => exact un_ok' (by assumption))); intro tk'))
theorem again_C (w : World) (mean : ExcName → Option Value) (mg mb : Str → Option Value) (loose : List Str) (C e d t T : Addr) (oe oT : Obj) (news : List (Addr × Obj)) (dp un : Nat) (gd : Option (List Code)) (cn : Str) (cs : Scope) (a : Addr) (ccd : Value) (h₀ : Heap) (L : Addr) (m : Str → Option Value) (s : Shared) (Q E : Value → Shared → Prop)
    (hC : ErrCls (hd.heap_39 w.params) C) (hty : typeIn (hd.heap_39 w.params) (.ref C) = some (.type "type")) (e1 : exmOne (hd.heap_39 w.params) (.ref C) (.ref 106) = some false) (e2 : exmOne (hd.heap_39 w.params) (.ref C) (.ref 37) = some false) (e3 : exmOne (hd.heap_39 w.params) (.ref C) (.ref 49) = some false) (e4 : exmOne (hd.heap_39 w.params) (.ref C) (.ref 68) = some true)
    (i1 : IsiOk PySem.Challenge.rw_dn0159_09.row.prog w (hd.heap_39 w.params) C e (.ref 24)) (i2 : IsiOk PySem.Challenge.rw_dn0159_09.row.prog w (hd.heap_39 w.params) C e (.type "OSError"))
    (F : Fr h₀ L s.heap m) (X : (hd.heap_39 w.params).In h₀) (N : News h₀ L s.heap ((e, oe) :: (T, oT) :: news)) (T₀ : Top hd.view_39 loose mean mg mb h₀) (hk : cs.kind = .function) (hdp : dp + 1 < 800) (hun : un + 8 < 90)
    (ho : ErrObj C d t oe) (htb : TbAt oe T) (hl : Landed oT) (hTe : T ≠ e) (hT : ∀ p ∈ news, p.1 ≠ T) (hne : ∀ p ∈ news, p.1 ≠ e)
    (hret : ∀ oe' h' tk, ErrObj C d t oe' → Fr h₀ L h' m → News h₀ L h' ((e, oe') :: news) → Q (.bool true) { s with heap := h', toks := tk }) :
    wpAny (model PySem.Challenge.rw_dn0159_09.row.prog w) (ktrTop dp un gd cn cs L a ccd [] []) (call (.ref 170) [.ref e]) Q E s := by
  w_top off
  revert X hC hty e1 e2 e3 e4 i1 i2; k_fill; intro hC hty e1 e2 e3 e4 i1 i2 X
  have kMark : KstMark := kstMark
  refine wpAny_call ?_
  refine TLgL.code_def F X N T₀ (by rfl) (by k_is) (by k_is) (rm_ok hdp) (by first | exact binds_K (by k_in) rfl (by k_is) rfl rfl rfl | exact BindsTo.of_eq rfl) (locs rfl) ?_ hk
  intro oL h₁ tiC tiF tiE F' N'
  have tiE' : ∀ p ∈ news, p.1 ≠ L := fun p hp => tiE p (.tail _ (.tail _ hp))
  have H : Held h₀ s.heap.objs.size h₁ _ ((L, oL) :: news) e oe T oT := held_of F' (fun p hp => N' p (by
    rcases List.mem_cons.mp hp with rfl | hp
    · exact List.mem_append.mpr (.inl (.head _))
    rcases List.mem_cons.mp hp with rfl | hp
    · exact List.mem_append.mpr (.inl (.tail _ (.head _)))
    rcases List.mem_cons.mp hp with rfl | hp
    · exact List.mem_append.mpr (.inr (.head _))
    · exact List.mem_append.mpr (.inl (.tail _ (.tail _ hp))))) htb hl hTe (fun p hp => by
    rcases List.mem_cons.mp hp with rfl | hp
    · exact Ne.symm (tiE _ (.tail _ (.head _)))
    · exact hT p hp)
  have heL := tiE _ (.head _)
  have NH := H.nw
  clear N' N F
  k_steps
  rename Held _ _ _ _ _ _ _ _ _ => hH
  obtain ⟨F2, N2⟩ := again_end (by assumption) (by assumption) (by assumption) heL tiE'
  exact hret _ _ _ (by assumption) F2 N2
end Mine

end

/-! L09 -/
section
open PySem PySem.W PySem.Calls PyProof.Rows
namespace Mine
/-! 09: what is kept of an error; the two loops -/
/-- class, args and attributes of an error of kind k -/
def KindOk (k : Int) (C : Addr) (ot od : Obj) (code msg sender : Value) : Prop :=
  (k = 5 ∧ C = 87 ∧ ot = tupObj [code, msg, sender] ∧ Attrs od (some code) (some msg) (some sender) none) ∨
  (0 ≤ k ∧ k < 5 ∧ (C = 68 ∨ C = 118 ∨ C = 130 ∨ C = 142 ∨ C = 154) ∧ ot = tupObj [code, msg] ∧ Attrs od (some code) (some msg) none none)
theorem kindOk_cls {k : Int} {C : Addr} {ot od : Obj} {code msg sender : Value} (P : Params) (h : KindOk k C ot od code msg sender) : ErrCls (hd.heap_39 P) C := by
  rcases h with ⟨_, rfl, _⟩ | ⟨_, _, h, _⟩
  · exact cls87 P
  · rcases h with rfl | rfl | rfl | rfl | rfl
    · exact cls68 P
    · exact cls118 P
    · exact cls130 P
    · exact cls142 P
    · exact cls154 P
section
variable (w : World) (mean : ExcName → Option Value) (mg mb : Str → Option Value) (loose : List Str) (news : List (Addr × Obj)) (dp un : Nat) (gd : Option (List Code)) (cn : Str) (cs : Scope) (a : Addr) (ccd : Value) (h₀ : Heap) (L : Addr) (m : Str → Option Value) (s : Shared) (Q E : Value → Shared → Prop)
theorem raise_any (k : Int) (code msg sender : Value) (kt : Tok) (h0 : 0 ≤ k) (h6 : k < 6)
    (F : Fr h₀ L s.heap m) (X : (hd.heap_39 w.params).In h₀) (N : News h₀ L s.heap news) (T : Top hd.view_39 loose mean mg mb h₀) (hk : cs.kind = .function) (hdp : dp + 1 < 800) (hun : un + 8 < 90)
    (hret : ∀ u e d t T oe od ot oT C kt' h' tk, KindOk k C ot od code msg sender → ErrObj C d t oe → TbAt oe T → Landed oT → Fr h₀ L h' m → News h₀ L h' ((u, tupObj [.int k kt', .ref e]) :: (e, oe) :: (T, oT) :: (t, ot) :: (d, od) :: news) → ApartR e d t T news → (e < u ∧ T < u ∧ t < u ∧ d < u ∧ AllLt u news) → Q (.ref u) { s with heap := h', toks := tk }) :
    wpAny (model PySem.Challenge.rw_dn0159_09.row.prog w) (ktrTop dp un gd cn cs L a ccd [] []) (call (.ref 163) [.int k kt, code, msg, sender]) Q E s := by
  have hc : k = 0 ∨ k = 1 ∨ k = 2 ∨ k = 3 ∨ k = 4 ∨ k = 5 := by omega
  rcases hc with rfl | rfl | rfl | rfl | rfl | rfl
  · exact raise_0 w mean mg mb loose code msg sender kt news dp un gd cn cs a ccd h₀ L m s Q E F X N T hk hdp hun fun u e d t T oe od oT kt' h' tk o1 o2 o3 o4 F' N' ap l => hret u e d t T oe od _ oT _ kt' h' tk (.inr ⟨by decide, by decide, .inl rfl, rfl, o2⟩) o1 o3 o4 F' N' ap l
  · exact raise_1 w mean mg mb loose code msg sender kt news dp un gd cn cs a ccd h₀ L m s Q E F X N T hk hdp hun fun u e d t T oe od oT kt' h' tk o1 o2 o3 o4 F' N' ap l => hret u e d t T oe od _ oT _ kt' h' tk (.inr ⟨by decide, by decide, .inr (.inl rfl), rfl, o2⟩) o1 o3 o4 F' N' ap l
  · exact raise_2 w mean mg mb loose code msg sender kt news dp un gd cn cs a ccd h₀ L m s Q E F X N T hk hdp hun fun u e d t T oe od oT kt' h' tk o1 o2 o3 o4 F' N' ap l => hret u e d t T oe od _ oT _ kt' h' tk (.inr ⟨by decide, by decide, .inr (.inr (.inl rfl)), rfl, o2⟩) o1 o3 o4 F' N' ap l
  · exact raise_3 w mean mg mb loose code msg sender kt news dp un gd cn cs a ccd h₀ L m s Q E F X N T hk hdp hun fun u e d t T oe od oT kt' h' tk o1 o2 o3 o4 F' N' ap l => hret u e d t T oe od _ oT _ kt' h' tk (.inr ⟨by decide, by decide, .inr (.inr (.inr (.inl rfl))), rfl, o2⟩) o1 o3 o4 F' N' ap l
  · exact raise_4 w mean mg mb loose code msg sender kt news dp un gd cn cs a ccd h₀ L m s Q E F X N T hk hdp hun fun u e d t T oe od oT kt' h' tk o1 o2 o3 o4 F' N' ap l => hret u e d t T oe od _ oT _ kt' h' tk (.inr ⟨by decide, by decide, .inr (.inr (.inr (.inr rfl))), rfl, o2⟩) o1 o3 o4 F' N' ap l
  · exact raise_5 w mean mg mb loose code msg sender kt news dp un gd cn cs a ccd h₀ L m s Q E F X N T hk hdp hun fun u e d t T oe od oT kt' h' tk o1 o2 o3 o4 F' N' ap l => hret u e d t T oe od _ oT _ kt' h' tk (.inl ⟨rfl, rfl, rfl, o2⟩) o1 o3 o4 F' N' ap l
theorem again_any (k : Int) (C e d t T : Addr) (oe od ot oT : Obj) (code msg sender : Value) (hK : KindOk k C ot od code msg sender)
    (F : Fr h₀ L s.heap m) (X : (hd.heap_39 w.params).In h₀) (N : News h₀ L s.heap ((e, oe) :: (T, oT) :: news)) (T₀ : Top hd.view_39 loose mean mg mb h₀) (hk : cs.kind = .function) (hdp : dp + 1 < 800) (hun : un + 8 < 90)
    (ho : ErrObj C d t oe) (htb : TbAt oe T) (hl : Landed oT) (hTe : T ≠ e) (hT : ∀ p ∈ news, p.1 ≠ T) (hne : ∀ p ∈ news, p.1 ≠ e)
    (hret : ∀ oe' h' tk, ErrObj C d t oe' → Fr h₀ L h' m → News h₀ L h' ((e, oe') :: news) → Q (.bool true) { s with heap := h', toks := tk }) :
    wpAny (model PySem.Challenge.rw_dn0159_09.row.prog w) (ktrTop dp un gd cn cs L a ccd [] []) (call (.ref 170) [.ref e]) Q E s := by
  rcases hK with ⟨_, rfl, _⟩ | ⟨_, _, h, _⟩
  · exact again_C w mean mg mb loose 87 e d t T oe oT news dp un gd cn cs a ccd h₀ L m s Q E (cls87 _) (typ87 _) (by kernel_rfl) (by kernel_rfl) (by kernel_rfl) (by kernel_rfl) (ok87a w e) (ok87b w e) F X N T₀ hk hdp hun ho htb hl hTe hT hne hret
  · rcases h with rfl | rfl | rfl | rfl | rfl
    · exact again_C w mean mg mb loose 68 e d t T oe oT news dp un gd cn cs a ccd h₀ L m s Q E (cls68 _) (typ68 _) (by kernel_rfl) (by kernel_rfl) (by kernel_rfl) (by kernel_rfl) (ok68a w e) (ok68b w e) F X N T₀ hk hdp hun ho htb hl hTe hT hne hret
    · exact again_C w mean mg mb loose 118 e d t T oe oT news dp un gd cn cs a ccd h₀ L m s Q E (cls118 _) (typ118 _) (by kernel_rfl) (by kernel_rfl) (by kernel_rfl) (by kernel_rfl) (ok118a w e) (ok118b w e) F X N T₀ hk hdp hun ho htb hl hTe hT hne hret
    · exact again_C w mean mg mb loose 130 e d t T oe oT news dp un gd cn cs a ccd h₀ L m s Q E (cls130 _) (typ130 _) (by kernel_rfl) (by kernel_rfl) (by kernel_rfl) (by kernel_rfl) (ok130a w e) (ok130b w e) F X N T₀ hk hdp hun ho htb hl hTe hT hne hret
    · exact again_C w mean mg mb loose 142 e d t T oe oT news dp un gd cn cs a ccd h₀ L m s Q E (cls142 _) (typ142 _) (by kernel_rfl) (by kernel_rfl) (by kernel_rfl) (by kernel_rfl) (ok142a w e) (ok142b w e) F X N T₀ hk hdp hun ho htb hl hTe hT hne hret
    · exact again_C w mean mg mb loose 154 e d t T oe oT news dp un gd cn cs a ccd h₀ L m s Q E (cls154 _) (typ154 _) (by kernel_rfl) (by kernel_rfl) (by kernel_rfl) (by kernel_rfl) (ok154a w e) (ok154b w e) F X N T₀ hk hdp hun ho htb hl hTe hT hne hret
end
theorem again_w (w : World) (mean : ExcName → Option Value) (mg mb : Str → Option Value) (loose : List Str) (news : List (Addr × Obj)) (dp un : Nat) (gd : Option (List Code)) (cn : Str) (cs : Scope) (a : Addr) (ccd : Value) (h₀ : Heap) (L : Addr) (m : Str → Option Value) (s : Shared) (Q E : Value → Shared → Prop)
    (k : Int) (C e d t T u : Addr) (oe od ot oT ou : Obj) (code msg sender : Value) (hK : KindOk k C ot od code msg sender)
    (F : Fr h₀ L s.heap m) (X : (hd.heap_39 w.params).In h₀) (N : News h₀ L s.heap ((u, ou) :: (e, oe) :: (T, oT) :: (t, ot) :: (d, od) :: news)) (T₀ : Top hd.view_39 loose mean mg mb h₀) (hk : cs.kind = .function) (hdp : dp + 1 < 800) (hun : un + 8 < 90)
    (ho : ErrObj C d t oe) (htb : TbAt oe T) (hl : Landed oT) (ap : ApartR e d t T news) (lu : e < u ∧ T < u ∧ t < u ∧ d < u ∧ AllLt u news)
    (hret : ∀ oe' h' tk, ErrObj C d t oe' → Fr h₀ L h' m → News h₀ L h' ((u, ou) :: (e, oe') :: (t, ot) :: (d, od) :: news) → Q (.bool true) { s with heap := h', toks := tk }) :
    wpAny (model PySem.Challenge.rw_dn0159_09.row.prog w) (ktrTop dp un gd cn cs L a ccd [] []) (call (.ref 170) [.ref e]) Q E s := by
  refine again_any w mean mg mb loose ((u, ou) :: (t, ot) :: (d, od) :: news) dp un gd cn cs a ccd h₀ L m s Q E k C e d t T oe od ot oT code msg sender hK F X (fun p hp => N p ?_) T₀ hk hdp hun ho htb hl ap.Te ?_ ?_ fun oe' h' tk o' F' N' => hret oe' h' tk o' F' fun p hp => N' p ?_
  · rcases List.mem_cons.mp hp with rfl | hp
    · exact .tail _ (.head _)
    rcases List.mem_cons.mp hp with rfl | hp
    · exact .tail _ (.tail _ (.head _))
    rcases List.mem_cons.mp hp with rfl | hp
    · exact .head _
    · exact .tail _ (.tail _ (.tail _ hp))
  · intro p hp
    rcases List.mem_cons.mp hp with rfl | hp
    · exact Nat.ne_of_gt lu.2.1
    rcases List.mem_cons.mp hp with rfl | hp
    · exact ap.tT
    rcases List.mem_cons.mp hp with rfl | hp
    · exact ap.dT
    · exact ap.T p hp
  · intro p hp
    rcases List.mem_cons.mp hp with rfl | hp
    · exact Nat.ne_of_gt lu.1
    rcases List.mem_cons.mp hp with rfl | hp
    · exact ap.te
    rcases List.mem_cons.mp hp with rfl | hp
    · exact ap.de
    · exact ap.e p hp
  · rcases List.mem_cons.mp hp with rfl | hp
    · exact .tail _ (.head _)
    rcases List.mem_cons.mp hp with rfl | hp
    · exact .head _
    · exact .tail _ (.tail _ hp)
/-- one kept error, told by the ledger T -/
def Item (T : List (Addr × Obj)) (v : Value) : Prop :=
  ∃ u e d t C oe od ot k kt code msg sender, v = .ref u ∧ (u, tupObj [.int k kt, .ref e, code, msg, sender]) ∈ T ∧ (e, oe) ∈ T ∧ (d, od) ∈ T ∧ (t, ot) ∈ T ∧ ErrObj C d t oe ∧ KindOk k C ot od code msg sender ∧ handedIn code = true ∧ handedIn msg = true ∧ handedIn sender = true
theorem Item.mono {T T' : List (Addr × Obj)} {v : Value} (h : Item T v) (k : ∀ p ∈ T, p ∈ T') : Item T' v := by
  obtain ⟨u, e, d, t, C, oe, od, ot, kk, kt, code, msg, sender, h1, h2, h3, h4, h5, r⟩ := h
  exact ⟨u, e, d, t, C, oe, od, ot, kk, kt, code, msg, sender, h1, k _ h2, k _ h3, k _ h4, k _ h5, r⟩
abbrev turnNames : List Str := [Str.ofString "kind", Str.ofString "msg", Str.ofString "code", Str.ofString "sender", Str.ofString "arm", Str.ofString "error"]
def KeptJ (kept shared D : Addr) (b0 : Obj) (ws : List Value) (m₀ : Str → Option Value) (i : Nat) (m : Str → Option Value) (nx : List (Addr × Obj)) : Prop :=
  ∃ (us : List Value) (cn : Nat) (T : List (Addr × Obj)), nx = (kept, PySem.W.listOf us.toArray cn) :: (shared, b0) :: (D, PySem.W.listOf ws.toArray 0) :: T ∧ us.length = i ∧ (∀ v ∈ us, Item T v) ∧ (∀ p ∈ T, p.1 ≠ kept ∧ p.1 ≠ shared ∧ p.1 ≠ D) ∧
    ∀ z, z ≠ Str.ofString "n" → z ≠ Str.ofString "i" → turnNames.contains z = false → m z = m₀ z
section
variable {prog : Program} {w : World} {A : Around} {E : Value → Shared → Prop} {s : Shared} {env : Env} {h₀ : Heap} {body : List Stmt} {Q : Flow → Shared → Prop}
theorem iter_1 {pi pv pt : Pos} {x1 : Nat} {kept shared D : Addr} {b0 : Obj} {ws : List Value} {ns : List Int} {m₀ : Str → Option Value}
    (hh : A.handled = none) (hi : IntsAre ws ns) (h40 : ns.length ≤ 63) (F : Fr h₀ env.locals s.heap m₀) (N : News h₀ env.locals s.heap [(kept, PySem.W.listOf #[] 0), (shared, b0), (D, PySem.W.listOf ws.toArray 0)])
    (hxi : env.kindOf (Str.ofString "i") = some .local) (hxv : env.kindOf (Str.ofString "n") = some .local) (hp : (env.scope.kind == .class || (env.scope.kind == .module && env.locals != env.globals)) = false)
    (hE : PassesOwn (model prog w) A env E)
    (turn : ∀ (i : Nat) (n : Int) (nt t : Tok) (us : List Value) (cn : Nat) (T : List (Addr × Obj)) (u : Str → Option Value) (h : Heap) (tk : Nat) (e : Addr) (oe : Obj) (it : Addr) (oit : Obj), KstMark → i < 63 → us.length = i → (∀ v ∈ us, Item T v) → (∀ p ∈ T ++ [(e, oe), (it, oit)], p.1 ≠ kept ∧ p.1 ≠ shared ∧ p.1 ≠ D) → (∀ p ∈ T, ∀ q ∈ [(e, oe), (it, oit)], p.1 ≠ q.1) →
      Fr h₀ env.locals h (fun y => if y = Str.ofString "n" then some (.int n nt) else if y = Str.ofString "i" then some (.int (i : Nat) t) else if turnNames.contains y then u y else m₀ y) →
      News h₀ env.locals h ((kept, PySem.W.listOf us.toArray cn) :: (shared, b0) :: (D, PySem.W.listOf ws.toArray 0) :: (T ++ [(e, oe), (it, oit)])) →
      wpAny (model prog w) A (execs body env) (PostT h₀ env.locals (KeptJ kept shared D b0 ws m₀ (i + 1)) [(e, oe), (it, oit)] { s with heap := h, toks := tk } Q) E { s with heap := h, toks := tk })
    (done : ∀ (us : List Value) (cn : Nat) (T : List (Addr × Obj)) (u : Str → Option Value) (h : Heap) (tk : Nat), KstMark → us.length ≤ 63 → (∀ v ∈ us, Item T v) → (∀ p ∈ T, p.1 ≠ kept ∧ p.1 ≠ shared ∧ p.1 ≠ D) → Fr h₀ env.locals h (fun y => if y = Str.ofString "n" then u y else if y = Str.ofString "i" then u y else if turnNames.contains y then u y else m₀ y) →
      News h₀ env.locals h ((kept, PySem.W.listOf us.toArray cn) :: (shared, b0) :: (D, PySem.W.listOf ws.toArray 0) :: T) → Q .next { s with heap := h, toks := tk }) :
    wpAny (model prog w) A (call (.type "enumerate") [.ref D]) (fun xv' s₁ => wpAny (model prog w) A (pyIter xv') (fun it s₂ => ForAt prog w A env (.Tuple [.Name (Str.ofString "i") pi, .Name (Str.ofString "n") pv] x1 pt) body Q E it s₂) E s₁) E s := by
  have hlen := hi.length
  refine iter_enum (l := D) (vs := ws) (nn := 0) (KeptJ kept shared D b0 ws m₀) hh (.tail _ (.tail _ (.head _))) F N ⟨[], 0, [], rfl, rfl, fun _ h => (nomatch h), fun _ h => (nomatch h), fun _ _ _ _ => rfl⟩ ?_ hxi hxv hp hE ?_ ?_
  · rintro i m nx ⟨us, cn, T, rfl, _⟩
    exact .tail _ (.tail _ (.head _))
  · rintro i v t m₁ nx h tk e oe it oit hv ⟨us, cn, T, rfl, h1, h2, h3, h4⟩ off F₁ N₁
    obtain ⟨n, nt, rfl⟩ : ∃ n nt, v = .int n nt := by
      have hil : i < ns.length := by have := (List.getElem?_eq_some_iff.mp hv).1; omega
      obtain ⟨nt, ht⟩ := hi.get i ns[i] (by simp [hil])
      exact ⟨ns[i], nt, by rw [hv] at ht; exact Option.some.inj ht⟩
    have hil : i < 63 := by have := (List.getElem?_eq_some_iff.mp hv).1; omega
    refine turn i n nt t us cn T m₁ h tk e oe it oit kstMark hil h1 h2 ?_ (fun p hp => off p (.tail _ (.tail _ (.tail _ hp)))) (fr_ext F₁ fun y => ?_) N₁
    · intro p hp
      rcases List.mem_append.mp hp with hp | hp
      · exact h3 p hp
      · exact ⟨fun q => off _ (.head _) p hp q.symm, fun q => off _ (.tail _ (.head _)) p hp q.symm, fun q => off _ (.tail _ (.tail _ (.head _))) p hp q.symm⟩
    · by_cases y1 : y = Str.ofString "n"
      · simp [y1]
      · by_cases y2 : y = Str.ofString "i"
        · simp [y2]
        · simp only [y1, y2, if_false]
          cases y3 : turnNames.contains y with
          | true => simp
          | false => simpa using h4 y y1 y2 y3
  · rintro m₁ nx h tk ⟨us, cn, T, rfl, h1, h2, h3, h4⟩ F₁ N₁
    refine done us cn T m₁ h tk kstMark (by omega) h2 h3 (fr_ext F₁ fun y => ?_) N₁
    by_cases y1 : y = Str.ofString "n"
    · simp [y1]
    · by_cases y2 : y = Str.ofString "i"
      · simp [y2]
      · simp only [y1, y2, if_false]
        cases y3 : turnNames.contains y with
        | true => simp
        | false => simpa using h4 y y1 y2 y3
end
/-! the turn's last step -/
section
variable {prog : Program} {w : World} {A : Around} {E E' : Value → Shared → Prop} {s s₁ : Shared} {env : Env} {h₀ : Heap} {Q : Flow → Shared → Prop}
theorem off_lt {u : Addr} {l : List (Addr × Obj)} (h : AllLt u l) {p : Addr × Obj} (hp : p ∈ l) : p.1 ≠ u := Nat.ne_of_lt (allLt_off h p hp)
theorem turn_append {kept shared D tup u e d t T₁ C : Addr} {b0 ou oe od ot : Obj} {o1 o2 o3 : Addr × Obj} {ws us : List Value} {T own : List (Addr × Obj)} {cn i : Nat} {k : Int} {kt : Tok} {code msg sender : Value} {m₀ mm : Str → Option Value}
    (F : Fr h₀ env.locals s.heap mm)
    (N : News h₀ env.locals s.heap ((tup, tupObj [.int k kt, .ref e, code, msg, sender]) :: (u, ou) :: (e, oe) :: (t, ot) :: (d, od) :: o1 :: o2 :: o3 :: (kept, PySem.W.listOf us.toArray cn) :: (shared, b0) :: (D, PySem.W.listOf ws.toArray 0) :: (T ++ own)))
    (lt : AllLt tup ((u, ou) :: (e, oe) :: (t, ot) :: (d, od) :: o1 :: o2 :: o3 :: (kept, PySem.W.listOf us.toArray cn) :: (shared, b0) :: (D, PySem.W.listOf ws.toArray 0) :: (T ++ own)))
    (ap : ApartR e d t T₁ (o1 :: o2 :: o3 :: (kept, PySem.W.listOf us.toArray cn) :: (shared, b0) :: (D, PySem.W.listOf ws.toArray 0) :: (T ++ own)))
    (hI : ∀ v ∈ us, Item T v) (hi : us.length = i) (hi63 : i < 63) (hoff : ∀ p ∈ T ++ own, p.1 ≠ kept ∧ p.1 ≠ shared ∧ p.1 ≠ D) (hTo : ∀ p ∈ T, ∀ q ∈ own, p.1 ≠ q.1) (lks : shared < kept) (lDs : D < shared)
    (ho : ErrObj C d t oe) (hK : KindOk k C ot od code msg sender) (v1 : handedIn code = true) (v2 : handedIn msg = true) (v3 : handedIn sender = true)
    (hm : ∀ z, z ≠ Str.ofString "n" → z ≠ Str.ofString "i" → turnNames.contains z = false → mm z = m₀ z) (hs : s = { s₁ with heap := s.heap, toks := s.toks }) :
    wpAny (model prog w) A (call (.builtin "list.append") [.ref kept, .ref tup]) (fun _ s' => wpAny (model prog w) A (execs [] env) (PostT h₀ env.locals (KeptJ kept shared D b0 ws m₀ (i + 1)) own s₁ Q) E s') E' s := by
  have mk : ∀ {p : Addr × Obj}, p ∈ ((kept, PySem.W.listOf us.toArray cn) :: (shared, b0) :: (D, PySem.W.listOf ws.toArray 0) :: (T ++ own)) → p ∈ (o1 :: o2 :: o3 :: (kept, PySem.W.listOf us.toArray cn) :: (shared, b0) :: (D, PySem.W.listOf ws.toArray 0) :: (T ++ own)) := fun h => .tail _ (.tail _ (.tail _ h))
  have mt : ∀ {p : Addr × Obj}, p ∈ ((kept, PySem.W.listOf us.toArray cn) :: (shared, b0) :: (D, PySem.W.listOf ws.toArray 0) :: (T ++ own)) → p.1 ≠ tup := fun h => off_lt lt (.tail _ (.tail _ (.tail _ (.tail _ (mk h)))))
  have z := N (kept, PySem.W.listOf us.toArray cn) (.tail _ (.tail _ (.tail _ (.tail _ (.tail _ (.tail _ (.tail _ (.tail _ (.head _)))))))))
  refine append_at (hsz := by rw [List.size_toArray]; show _ ≤ 2 ^ 24; omega) z.1 fun h' hsb ho' => ?_
  have F' := F.change hsb z.2.1 z.2.2
  have kp : ∀ p, p ∈ ((tup, tupObj [.int k kt, .ref e, code, msg, sender]) :: (u, ou) :: (e, oe) :: (t, ot) :: (d, od) :: o1 :: o2 :: o3 :: (kept, PySem.W.listOf us.toArray cn) :: (shared, b0) :: (D, PySem.W.listOf ws.toArray 0) :: (T ++ own)) → p.1 ≠ kept → h'.get? p.1 = some p.2 ∧ p.1 ≠ env.locals ∧ h₀.get? p.1 = none :=
    fun p hp hne => ⟨(hsb.2 _ hne).trans (N p hp).1, (N p hp).2⟩
  have c0 : (kept, PySem.W.listOf us.toArray cn) ∈ ((kept, PySem.W.listOf us.toArray cn) :: (shared, b0) :: (D, PySem.W.listOf ws.toArray 0) :: (T ++ own)) := .head _
  have c1 : (shared, b0) ∈ ((kept, PySem.W.listOf us.toArray cn) :: (shared, b0) :: (D, PySem.W.listOf ws.toArray 0) :: (T ++ own)) := .tail _ (.head _)
  have c2 : (D, PySem.W.listOf ws.toArray 0) ∈ ((kept, PySem.W.listOf us.toArray cn) :: (shared, b0) :: (D, PySem.W.listOf ws.toArray 0) :: (T ++ own)) := .tail _ (.tail _ (.head _))
  have cT : ∀ p ∈ T ++ own, p ∈ ((kept, PySem.W.listOf us.toArray cn) :: (shared, b0) :: (D, PySem.W.listOf ws.toArray 0) :: (T ++ own)) := fun p hp => .tail _ (.tail _ (.tail _ hp))
  have sk : shared ≠ kept := Nat.ne_of_lt lks
  have Dk : D ≠ kept := Nat.ne_of_lt (Nat.lt_trans lDs lks)
  refine wpAny_execs_nil ?_
  show EndT h₀ env.locals _ own s₁ _
  refine ⟨h', s.toks, mm, (kept, PySem.W.listOf (us ++ [Value.ref tup]).toArray (cn + 1)) :: (shared, b0) :: (D, PySem.W.listOf ws.toArray 0) :: ((tup, tupObj [.int k kt, .ref e, code, msg, sender]) :: (e, oe) :: (t, ot) :: (d, od) :: T), ?_, F', ?_, ?_, ?_, us ++ [Value.ref tup], cn + 1, _, rfl, ?_, ?_, ?_, hm⟩
  · rw [hs]
  · intro p hp
    rcases List.mem_cons.mp hp with rfl | hp
    · refine ⟨?_, z.2⟩
      rw [ho']
      simp [PySem.W.listOf]
    rcases List.mem_cons.mp hp with rfl | hp
    · exact kp _ (.tail _ (.tail _ (.tail _ (.tail _ (.tail _ (mk c1)))))) sk
    rcases List.mem_cons.mp hp with rfl | hp
    · exact kp _ (.tail _ (.tail _ (.tail _ (.tail _ (.tail _ (mk c2)))))) Dk
    rcases List.mem_cons.mp hp with rfl | hp
    · exact kp _ (.head _) (Ne.symm (mt c0))
    rcases List.mem_cons.mp hp with rfl | hp
    · exact kp _ (.tail _ (.tail _ (.head _))) (Ne.symm (ap.e _ (mk c0)))
    rcases List.mem_cons.mp hp with rfl | hp
    · exact kp _ (.tail _ (.tail _ (.tail _ (.head _)))) (Ne.symm (ap.t _ (mk c0)))
    rcases List.mem_cons.mp hp with rfl | hp
    · exact kp _ (.tail _ (.tail _ (.tail _ (.tail _ (.head _))))) (Ne.symm (ap.d _ (mk c0)))
    · have hp' := List.mem_append.mpr (.inl hp : p ∈ T ∨ p ∈ own)
      exact kp _ (.tail _ (.tail _ (.tail _ (.tail _ (.tail _ (mk (cT p hp'))))))) (hoff p hp').1
  · intro p hp
    have hp' := List.mem_append.mpr (.inr hp : p ∈ T ∨ p ∈ own)
    exact kp _ (.tail _ (.tail _ (.tail _ (.tail _ (.tail _ (mk (cT p hp'))))))) (hoff p hp').1
  · intro p hp q hq
    have hq' := List.mem_append.mpr (.inr hq : q ∈ T ∨ q ∈ own)
    rcases List.mem_cons.mp hp with rfl | hp
    · exact Ne.symm (hoff q hq').1
    rcases List.mem_cons.mp hp with rfl | hp
    · exact Ne.symm (hoff q hq').2.1
    rcases List.mem_cons.mp hp with rfl | hp
    · exact Ne.symm (hoff q hq').2.2
    rcases List.mem_cons.mp hp with rfl | hp
    · exact Ne.symm (mt (cT q hq'))
    rcases List.mem_cons.mp hp with rfl | hp
    · exact Ne.symm (ap.e _ (mk (cT q hq')))
    rcases List.mem_cons.mp hp with rfl | hp
    · exact Ne.symm (ap.t _ (mk (cT q hq')))
    rcases List.mem_cons.mp hp with rfl | hp
    · exact Ne.symm (ap.d _ (mk (cT q hq')))
    · exact hTo p hp q hq
  · simp [hi]
  · intro v hv
    rcases List.mem_append.mp hv with hv | hv
    · exact (hI v hv).mono fun p hp => .tail _ (.tail _ (.tail _ (.tail _ hp)))
    · rw [List.mem_singleton.mp hv]
      exact ⟨tup, e, d, t, C, oe, od, ot, k, kt, code, msg, sender, rfl, .head _, .tail _ (.head _), .tail _ (.tail _ (.tail _ (.head _))), .tail _ (.tail _ (.head _)), ho, hK, v1, v2, v3⟩
  · intro p hp
    rcases List.mem_cons.mp hp with rfl | hp
    · exact ⟨Ne.symm (mt c0), Ne.symm (mt c1), Ne.symm (mt c2)⟩
    rcases List.mem_cons.mp hp with rfl | hp
    · exact ⟨Ne.symm (ap.e _ (mk c0)), Ne.symm (ap.e _ (mk c1)), Ne.symm (ap.e _ (mk c2))⟩
    rcases List.mem_cons.mp hp with rfl | hp
    · exact ⟨Ne.symm (ap.t _ (mk c0)), Ne.symm (ap.t _ (mk c1)), Ne.symm (ap.t _ (mk c2))⟩
    rcases List.mem_cons.mp hp with rfl | hp
    · exact ⟨Ne.symm (ap.d _ (mk c0)), Ne.symm (ap.d _ (mk c1)), Ne.symm (ap.d _ (mk c2))⟩
    · exact hoff p (List.mem_append.mpr (.inl hp))
end
end Mine

end

/-! L09b -/
section
open PySem PySem.W PySem.Calls PyProof.Rows
namespace Mine
/-! 09: the second loop -/
abbrev lookNames : List Str := [Str.ofString "kind", Str.ofString "error", Str.ofString "code", Str.ofString "msg", Str.ofString "sender", Str.ofString "due"]
def LookJ (led : List (Addr × Obj)) (m₀ : Str → Option Value) (_ : Nat) (m : Str → Option Value) (nx : List (Addr × Obj)) : Prop := nx = led ∧ ∀ z, lookNames.contains z = false → m z = m₀ z
structure ReadOk (C e d t : Addr) (oe od : Obj) (a1 a2 a3 a4 : Option Value) : Prop where
  ho : ErrObj C d t oe
  at_ : Attrs od a1 a2 a3 a4
section
variable {prog : Program} {w : World} {A : Around} {E : Value → Shared → Prop} {s : Shared} {env : Env} {h₀ : Heap} {body : List Stmt} {Q : Flow → Shared → Prop}
theorem iter_2 {elts : List Expr} {pt : Pos} {x1 : Nat} {kept : Addr} {b1 b2 : Addr × Obj} {us : List Value} {cn : Nat} {T : List (Addr × Obj)} {m₀ : Str → Option Value} {K : Frag}
    (hh : A.handled = none) (_ : K.In h₀) (hI : ∀ v ∈ us, Item T v) (hKc : ∀ {k C ot od code msg sender}, KindOk k C ot od code msg sender → ErrCls K C) (F : Fr h₀ env.locals s.heap m₀) (N : News h₀ env.locals s.heap ((kept, PySem.W.listOf us.toArray cn) :: b1 :: b2 :: T))
    (hE : PassesOwn (model prog w) A env E)
    (turnR : ∀ (i : Nat) (k : Int) (u' e d t C : Addr) (oe od oI : Obj) (kt : Tok) (code msg sender : Value) (u : Str → Option Value) (h : Heap) (tk : Nat) (I : Addr), 0 ≤ k → k < 5 → ErrCls K C → ReadOk C e d t oe od (some code) (some msg) none none → handedIn code = true → handedIn msg = true → (∀ p ∈ ((kept, PySem.W.listOf us.toArray cn) :: b1 :: b2 :: T), p.1 ≠ I) →
      Fr h₀ env.locals h (fun y => if lookNames.contains y then u y else m₀ y) →
      News h₀ env.locals h ((u', tupObj [.int k kt, .ref e, code, msg, sender]) :: (e, oe) :: (d, od) :: (t, tupObj [code, msg]) :: (((kept, PySem.W.listOf us.toArray cn) :: b1 :: b2 :: T) ++ [(I, oI)])) →
      wpAny (model prog w) A (assign (.Tuple elts x1 pt) env (.ref u')) (fun _ s₂ => wpAny (model prog w) A (execs body env) (PostT h₀ env.locals (LookJ ((kept, PySem.W.listOf us.toArray cn) :: b1 :: b2 :: T) m₀ (i + 1)) [(I, oI)] { s with heap := h, toks := tk } Q) E s₂) E { s with heap := h, toks := tk })
    (turnS : ∀ (i : Nat) (u' e d t : Addr) (oe od oI : Obj) (kt : Tok) (code msg sender : Value) (u : Str → Option Value) (h : Heap) (tk : Nat) (I : Addr), ErrCls K 87 → ReadOk 87 e d t oe od (some code) (some msg) (some sender) none → handedIn code = true → handedIn msg = true → handedIn sender = true → (∀ p ∈ ((kept, PySem.W.listOf us.toArray cn) :: b1 :: b2 :: T), p.1 ≠ I) →
      Fr h₀ env.locals h (fun y => if lookNames.contains y then u y else m₀ y) →
      News h₀ env.locals h ((u', tupObj [.int 5 kt, .ref e, code, msg, sender]) :: (e, oe) :: (d, od) :: (t, tupObj [code, msg, sender]) :: (((kept, PySem.W.listOf us.toArray cn) :: b1 :: b2 :: T) ++ [(I, oI)])) →
      wpAny (model prog w) A (assign (.Tuple elts x1 pt) env (.ref u')) (fun _ s₂ => wpAny (model prog w) A (execs body env) (PostT h₀ env.locals (LookJ ((kept, PySem.W.listOf us.toArray cn) :: b1 :: b2 :: T) m₀ (i + 1)) [(I, oI)] { s with heap := h, toks := tk } Q) E s₂) E { s with heap := h, toks := tk })
    (done : ∀ (u : Str → Option Value) (h : Heap) (tk : Nat), Fr h₀ env.locals h (fun y => if lookNames.contains y then u y else m₀ y) → News h₀ env.locals h ((kept, PySem.W.listOf us.toArray cn) :: b1 :: b2 :: T) → Q .next { s with heap := h, toks := tk }) :
    wpAny (model prog w) A (pyIter (.ref kept)) (fun it s₂ => ForAt prog w A env (.Tuple elts x1 pt) body Q E it s₂) E s := by
  have fx : ∀ {h m₁}, Fr h₀ env.locals h m₁ → (∀ z, lookNames.contains z = false → m₁ z = m₀ z) → Fr h₀ env.locals h (fun y => if lookNames.contains y then m₁ y else m₀ y) := fun F hm => fr_ext F fun y => by
    cases y3 : lookNames.contains y with
    | true => simp
    | false => simpa using hm y y3
  refine iter_tuples (l := kept) (vs := us) (nn := cn) (LookJ ((kept, PySem.W.listOf us.toArray cn) :: b1 :: b2 :: T) m₀) hh (.head _) F N ⟨rfl, fun _ _ => rfl⟩ ?_ ?_ hE ?_ ?_
  · rintro i m nx ⟨rfl, _⟩; exact .head _
  · intro v hv
    obtain ⟨u, _, _, _, _, _, _, _, _, _, _, _, _, h1, _⟩ := hI v hv
    exact ⟨u, h1⟩
  · rintro i v m₁ nx h tk I oI hv ⟨rfl, hm⟩ off F₁ N₁
    obtain ⟨u', e, d, t, C, oe, od, ot, k, kt, code, msg, sender, rfl, q1, q2, q3, q4, ho, hK, v1, v2, v3⟩ := hI v (List.mem_of_getElem? hv)
    have hC := hKc hK
    have off' : ∀ p ∈ ((kept, PySem.W.listOf us.toArray cn) :: b1 :: b2 :: T), p.1 ≠ I := fun p hp => off p hp _ (.head _)
    have up : ∀ p ∈ T, p ∈ (((kept, PySem.W.listOf us.toArray cn) :: b1 :: b2 :: T) ++ [(I, oI)]) := fun p hp => List.mem_append.mpr (.inl (.tail _ (.tail _ (.tail _ hp))))
    have N₂ : News h₀ env.locals h ((u', tupObj [.int k kt, .ref e, code, msg, sender]) :: (e, oe) :: (d, od) :: (t, ot) :: (((kept, PySem.W.listOf us.toArray cn) :: b1 :: b2 :: T) ++ [(I, oI)])) := fun p hp => N₁ p (by
      rcases List.mem_cons.mp hp with rfl | hp
      · exact up _ q1
      rcases List.mem_cons.mp hp with rfl | hp
      · exact up _ q2
      rcases List.mem_cons.mp hp with rfl | hp
      · exact up _ q3
      rcases List.mem_cons.mp hp with rfl | hp
      · exact up _ q4
      · exact hp)
    rcases hK with ⟨rfl, rfl, rfl, ha⟩ | ⟨k0, k5, _, rfl, ha⟩
    · exact turnS i u' e d t oe od oI kt code msg sender m₁ h tk I hC ⟨ho, ha⟩ v1 v2 v3 off' (fx F₁ hm) N₂
    · exact turnR i k u' e d t C oe od oI kt code msg sender m₁ h tk I k0 k5 hC ⟨ho, ha⟩ v1 v2 off' (fx F₁ hm) N₂
  · rintro m₁ nx h tk ⟨rfl, hm⟩ F₁ N₁
    exact done m₁ h tk (fx F₁ hm) N₁
theorem turn2_end {base led : List (Addr × Obj)} {I : Addr} {oI : Obj} {i : Nat} {m₀ mm : Str → Option Value} {h : Heap} {s₁ : Shared} {tk : Nat} (F : Fr h₀ env.locals h mm) (N : News h₀ env.locals h led) (hs : ∀ p ∈ base ++ [(I, oI)], p ∈ led) (off : ∀ p ∈ base, p.1 ≠ I)
    (hm : ∀ z, lookNames.contains z = false → mm z = m₀ z) : EndT h₀ env.locals (LookJ base m₀ i) [(I, oI)] s₁ { s₁ with heap := h, toks := tk } :=
  ⟨h, tk, mm, base, rfl, F, fun p hp => N p (hs p (List.mem_append.mpr (.inl hp))), fun p hp => N p (hs p (List.mem_append.mpr (.inr hp))), fun p hp q hq => by rw [List.mem_singleton.mp hq]; exact off p hp, rfl, hm⟩
theorem look_ne {z : Str} (h : lookNames.contains z = false) : z ≠ Str.ofString "kind" ∧ z ≠ Str.ofString "error" ∧ z ≠ Str.ofString "code" ∧ z ≠ Str.ofString "msg" ∧ z ≠ Str.ofString "sender" ∧ z ≠ Str.ofString "due" := by
  have hn : z ∉ lookNames := by
    intro hm
    rw [List.contains_iff_mem.mpr hm] at h
    cases h
  refine ⟨?_, ?_, ?_, ?_, ?_, ?_⟩ <;> (rintro rfl; exact hn (by k_mem))
end
section
variable (w : World) (mean : ExcName → Option Value) (mg mb : Str → Option Value) (loose : List Str) (C e d t : Addr) (oe od : Obj) (led : List (Addr × Obj)) (dp un : Nat) (gd : Option (List Code)) (cn : Str) (cs : Scope) (a : Addr) (ccd : Value) (h₀ : Heap) (L : Addr) (m : Str → Option Value) (s : Shared) (Q E : Value → Shared → Prop)
theorem read_r (v1 v2 : Value) (F : Fr h₀ L s.heap m) (X : (hd.heap_39 w.params).In h₀) (N : News h₀ L s.heap led) (T : Top hd.view_39 loose mean mg mb h₀) (hk : cs.kind = .function) (hdp : dp + 1 < recursionLimit) (hun : un + 8 < cLine)
    (hC : ErrCls (hd.heap_39 w.params) C) (hr : ReadOk C e d t oe od (some v1) (some v2) none none) (h1 : handedIn v1 = true) (h2 : handedIn v2 = true) (me : (e, oe) ∈ led) (md : (d, od) ∈ led) (mt : (t, tupObj [v1, v2]) ∈ led)
    (hret : ∀ D oD h' tk, (D == sysModules) = false → Obj.IsDictOf (PySem.strKind PySem.Challenge.rw_dn0159_09.row.prog w) oD [(Str.ofString "args", Value.ref t), (Str.ofString "code", v1), (Str.ofString "msg", v2)] → Fr h₀ L h' m → News h₀ L h' ((D, oD) :: led) → Q (.ref D) { s with heap := h', toks := tk }) :
    wpAny (model PySem.Challenge.rw_dn0159_09.row.prog w) (ktrTop dp un gd cn cs L a ccd [] []) (call (.ref 177) [.ref e]) Q E s := by
  obtain ⟨ho, a1, a2, a3, a4⟩ := hr
  refine read_reply w mean mg mb loose [] C e d t oe od (tupObj [v1, v2]) v1 v2 led dp un gd cn cs a ccd h₀ L m s Q E F X (fun p hp => N p ?_) T hk hdp hun hC ho a1 a2 a3 a4 h1 h2 fun D oD h' tk lo hdd F' N' _ => hret D oD h' tk lo hdd F' fun p hp => N' p ?_
  · rcases List.mem_cons.mp hp with rfl | hp
    · exact me
    rcases List.mem_cons.mp hp with rfl | hp
    · exact md
    rcases List.mem_cons.mp hp with rfl | hp
    · exact mt
    · exact hp
  · rcases List.mem_cons.mp hp with rfl | hp
    · exact .head _
    · exact .tail _ (.tail _ (.tail _ (.tail _ hp)))
theorem read_s (v1 v2 v3 : Value) (F : Fr h₀ L s.heap m) (X : (hd.heap_39 w.params).In h₀) (N : News h₀ L s.heap led) (T : Top hd.view_39 loose mean mg mb h₀) (hk : cs.kind = .function) (hdp : dp + 1 < recursionLimit) (hun : un + 8 < cLine)
    (hC : ErrCls (hd.heap_39 w.params) C) (hr : ReadOk C e d t oe od (some v1) (some v2) (some v3) none) (h1 : handedIn v1 = true) (h2 : handedIn v2 = true) (h3 : handedIn v3 = true) (me : (e, oe) ∈ led) (md : (d, od) ∈ led) (mt : (t, tupObj [v1, v2, v3]) ∈ led)
    (hret : ∀ D oD h' tk, (D == sysModules) = false → Obj.IsDictOf (PySem.strKind PySem.Challenge.rw_dn0159_09.row.prog w) oD [(Str.ofString "args", Value.ref t), (Str.ofString "code", v1), (Str.ofString "msg", v2), (Str.ofString "sender", v3)] → Fr h₀ L h' m → News h₀ L h' ((D, oD) :: led) → Q (.ref D) { s with heap := h', toks := tk }) :
    wpAny (model PySem.Challenge.rw_dn0159_09.row.prog w) (ktrTop dp un gd cn cs L a ccd [] []) (call (.ref 177) [.ref e]) Q E s := by
  obtain ⟨ho, a1, a2, a3, a4⟩ := hr
  refine read_sender w mean mg mb loose [] C e d t oe od (tupObj [v1, v2, v3]) v1 v2 v3 led dp un gd cn cs a ccd h₀ L m s Q E F X (fun p hp => N p ?_) T hk hdp hun hC ho a1 a2 a3 a4 h1 h2 h3 fun D oD h' tk lo hdd F' N' _ => hret D oD h' tk lo hdd F' fun p hp => N' p ?_
  · rcases List.mem_cons.mp hp with rfl | hp
    · exact me
    rcases List.mem_cons.mp hp with rfl | hp
    · exact md
    rcases List.mem_cons.mp hp with rfl | hp
    · exact mt
    · exact hp
  · rcases List.mem_cons.mp hp with rfl | hp
    · exact .head _
    · exact .tail _ (.tail _ (.tail _ (.tail _ hp)))
end
end Mine

end

/-! A09 -/
open PySem PySem.W PyProof.Rows
namespace Mine
theorem mod_lt (n : Int) (m : Int) (h : 0 < m) : 0 ≤ Int.fmod n m ∧ Int.fmod n m < m := ⟨Int.fmod_nonneg_of_pos n h, Int.fmod_lt_of_pos n h⟩
theorem handed_mem {v : Value} {l : List Value} (h : v ∈ l) (hl : l.all handedIn = true) : handedIn v = true := List.all_eq_true.mp hl v h
theorem names_ne {z : Str} (h : turnNames.contains z = false) : z ≠ Str.ofString "kind" ∧ z ≠ Str.ofString "msg" ∧ z ≠ Str.ofString "code" ∧ z ≠ Str.ofString "sender" ∧ z ≠ Str.ofString "arm" ∧ z ≠ Str.ofString "error" := by
  have hn : z ∉ turnNames := by
    intro hm
    rw [List.contains_iff_mem.mpr hm] at h
    cases h
  refine ⟨?_, ?_, ?_, ?_, ?_, ?_⟩ <;> (rintro rfl; exact hn (by k_mem))
theorem upd_shared {kept shared D : Addr} {o o' a b : Obj} {T : List (Addr × Obj)} (lks : shared < kept) (lDs : D < shared) (off : ∀ p ∈ T, p.1 ≠ kept ∧ p.1 ≠ shared ∧ p.1 ≠ D) : Upd shared o o' ((kept, a) :: (shared, o) :: (D, b) :: T) ((kept, a) :: (shared, o') :: (D, b) :: T) :=
  Upd.tail (Nat.ne_of_gt lks) (Upd.head fun p hp => by
    rcases List.mem_cons.mp hp with rfl | hp
    · exact Nat.ne_of_lt lDs
    · exact (off p hp).2.1)
end Mine
local macro_rules | `(tactic| walk_at "exec For Tuple Call") => `(tactic| (k_here; (with_reducible show wpAny _ _ (exec (Stmt.For (Expr.Tuple _ _ _) (Expr.Call (Expr.Name (Str.ofString "enumerate") _) _ _ _) _ _ _) _) _ _ _); k_dflt (refine Mine.For_at ?_ (by intro _; rfl))))
local macro_rules | `(tactic| walk_at "call type:enumerate") => `(tactic| (k_here; (rename Fr _ _ _ _ => lF'); (rename News _ _ _ _ => lN'); k_dflt (refine' Mine.iter_1 (by rfl) ?khi ?kh lF' lN' (by rfl) (by rfl) (by rfl) ?kE ?kturn ?kdone); (case khi => with_reducible assumption); (case kh => omega); (case kE => passes_own); (case' kturn => (clear lF' lN'; intro ki kn knt kt kus kcn kT ku kh ktk ke koe kit koit _ ki63 kul kItems kOff kApart kFr kNews)); (case' kdone => (clear lF' lN'; intro kus kcn kT ku kh ktk _ kul kItems kOff kFr kNews)); (all_goals (try k_fold))))
local macro_rules | `(tactic| walk_at "subscriptTail") => `(tactic| (k_here; (with_reducible show wpAny _ _ (subscriptTail _ _ (Value.ref _) (Value.int (Int.fmod _ _) _)) _ _ _); k_dflt (refine' Mine.pick_item ?kN ?kl ?k0 ?k1 ?k2 ?_ ?k3; (case kN => k_asm); (case kl => k_mem); (case k0 => exact (Mine.mod_lt _ _ (by decide)).1); (case k1 => exact (Mine.mod_lt _ _ (by decide)).2); (case k2 => exact Nat.le_of_ble_eq_true rfl); (case k3 => with_unfolding_all rfl)); intro pv' pm'))
local macro_rules | `(tactic| walk_at "call ref") => `(tactic| (k_here; (with_reducible show wpAny _ _ (call (Value.ref 163) [Value.int (Int.fmod _ _) _, _, _, _]) _ _ _); k_dflt (refine' Mine.raise_any _ _ _ _ _ _ _ _ _ _ _ _ _ _ _ _ _ _ _ _ _ _ _ _ (Mine.mod_lt _ _ (by decide)).1 (Mine.mod_lt _ _ (by decide)).2 ?kF ?kX ?kN ?kT ?kk ?kd ?ku ?_; (case kF => k_asm); (case kX => k_asm); (case kN => k_asm); (case kT => k_asm); (case kk => exact rfl); (case kd => exact Nat.le_of_ble_eq_true rfl); (case ku => exact Nat.le_of_ble_eq_true rfl)); intro ru re rd rt rT roe rod rot roT rC rkt h' rtk rK ro rtb rl F' N' rap rlt; (try dsimp only); (try k_fold)))
local macro_rules | `(tactic| walk_at "call ref") => `(tactic| (k_here; (with_reducible show wpAny _ _ (call (Value.ref 170) [Value.ref _]) _ _ _); k_dflt (refine' Mine.again_w _ _ _ _ _ _ _ _ _ _ _ _ _ _ _ _ _ _ _ _ _ _ _ _ _ _ _ _ _ _ _ _ _ _ ?kK ?kF ?kX ?kN ?kT ?kk ?kd ?ku ?ko ?kb ?kl ?kap ?klt ?_; (case kN => k_asm); (case kK => assumption); (case kF => k_asm); (case kX => k_asm); (case kT => k_asm); (case kk => exact rfl); (case kd => exact Nat.le_of_ble_eq_true rfl); (case ku => exact Nat.le_of_ble_eq_true rfl); (case ko => assumption); (case kb => assumption); (case kl => assumption); (case kap => assumption); (case klt => assumption)); intro roe' h' rtk' ro' F' N'; (try dsimp only); (try k_fold)))
local macro_rules | `(tactic| walk_at "call builtin:list.append") => `(tactic| (k_here; (with_reducible show wpAny _ _ (call (Value.builtin "list.append") [Value.ref _, Value.ref _]) _ _ _); (rename Mine.KindOk _ _ _ _ _ _ _ => hK); (rename Mine.ErrObj _ _ _ _ => hO); (rename Mine.ApartR _ _ _ _ _ => hap); (rename Fr _ _ _ _ => lF'); (rename News _ _ _ _ => lN'); (rename _ < _ ∧ _ < _ ∧ _ => l1'); k_dflt (refine' Mine.turn_append lF' lN' l1' hap ?kI ?ki ?k63 ?koff ?kap ?lks ?lDs hO hK ?v1 ?v2 ?v3 ?hm rfl; (case kI => assumption); (case ki => assumption); (case k63 => assumption); (case koff => assumption); (case kap => assumption); (case lks => first | assumption | exact And.left (by assumption)); (case lDs => assumption); (case v1 => exact Mine.handed_mem (by assumption) rfl); (case v2 => exact Mine.handed_mem (by assumption) rfl); (case v3 => exact rfl); (case hm => (intro z z1 z2 z3; obtain ⟨a1, a2, a3, a4, a5, a6⟩ := Mine.names_ne z3; simp only [z1, z2, z3, a1, a2, a3, a4, a5, a6, if_false, Bool.false_eq_true])))))
local macro_rules | `(tactic| walk_at "call builtin:list.append") => `(tactic| (k_here; (with_reducible show wpAny _ _ (call (Value.builtin "list.append") [Value.ref _, Value.str _ _]) _ _ _); (rename Fr _ _ _ _ => lF'); (rename News _ _ _ _ => lN'); k_dflt (refine' append_K lF' lN' (Mine.upd_shared ?lks ?lDs ?koff) ?_ ?kz; (case koff => assumption); (case lks => first | assumption | exact And.left (by assumption)); (case lDs => assumption); (case kz => exact Nat.le_of_ble_eq_true rfl)); clear lF' lN'; intro h' F' N'))
local macro_rules | `(tactic| walk_at "exec For Tuple Name") => `(tactic| (k_here; (with_reducible show wpAny _ _ (exec (Stmt.For (Expr.Tuple _ _ _) (Expr.Name (Str.ofString "kept") _) _ _ _) _) _ _ _); k_dflt (refine Mine.For_at ?_ (by intro _; rfl))))
local macro_rules | `(tactic| walk_at "pyIter ref") => `(tactic| (k_here; (with_reducible show wpAny _ _ (pyIter (Value.ref _)) (fun it s₂ => Mine.ForAt _ _ _ _ _ _ _ _ it s₂) _ _); (rename Fr _ _ _ _ => lF'); (rename News _ _ _ _ => lN'); k_dflt (refine' Mine.iter_2 (by rfl) ?kX ?kI ?kC lF' lN' ?kE ?kR ?kS ?kdone); (case kX => k_asm); (case kC => exact fun hK => Mine.kindOk_cls _ hK); (case kI => assumption); (case kE => passes_own); (case' kR => (clear lF' lN'; intro ki kk ku' ke kd kt kC koe kod koI kkt kcode kmsg ksender ku kh ktk kIt kk0 kk5 kCls kRead kv1 kv2 kOff2 kFr kNews)); (case' kS => (clear lF' lN'; intro ki ku' ke kd kt koe kod koI kkt kcode kmsg ksender ku kh ktk kIt kCls kRead kv1 kv2 kv3 kOff2 kFr kNews)); (case' kdone => (clear lF' lN'; intro ku kh ktk kFr kNews)); (all_goals (try k_fold))))
local macro_rules | `(tactic| walk_at "call ref") => `(tactic| (k_here; (with_reducible show wpAny _ _ (call (Value.ref 177) [Value.ref _]) _ _ _); (rename Mine.ReadOk _ _ _ _ _ _ _ _ _ _ => hR); (rename Mine.ErrCls _ _ => hC); (rename Fr _ _ _ _ => lF'); (rename News _ _ _ _ => lN'); k_dflt (first
  | (refine' Mine.read_r _ _ _ _ _ _ _ _ _ _ _ _ _ _ _ _ _ _ _ _ _ _ _ _ _ _ _ lF' ?kX lN' ?kT ?kk ?kd ?ku hC hR ?h1 ?h2 ?me ?md ?mt ?_; (case kX => k_asm); (case kT => k_asm); (case kk => exact rfl); (case kd => exact Nat.le_of_ble_eq_true rfl); (case ku => exact Nat.le_of_ble_eq_true rfl); (case h1 => with_reducible assumption); (case h2 => with_reducible assumption); (case me => k_mem); (case md => k_mem); (case mt => k_mem))
  | (refine' Mine.read_s _ _ _ _ _ _ _ _ _ _ _ _ _ _ _ _ _ _ _ _ _ _ _ _ _ _ _ _ lF' ?kX lN' ?kT ?kk ?kd ?ku hC hR ?h1 ?h2 ?h3 ?me ?md ?mt ?_; (case kX => k_asm); (case kT => k_asm); (case kk => exact rfl); (case kd => exact Nat.le_of_ble_eq_true rfl); (case ku => exact Nat.le_of_ble_eq_true rfl); (case h1 => with_reducible assumption); (case h2 => with_reducible assumption); (case h3 => with_reducible assumption); (case me => k_mem); (case md => k_mem); (case mt => k_mem))); intro rD roD h' rtk rlo rdi F' N'; (try dsimp only); (try k_fold)))
local macro_rules | `(tactic| walk_at "eval Dict") => `(tactic| (k_here; k_dflt (refine' kdn_str ?q ?F ?N ?b ?a ?l ?e ?n ?_; (case q => rfl); (case F => k_asm); (case N => k_asm); (case b => exact Top.nolimit (by k_asm)); (case a => rfl); (case l => rfl); (case e => exact List.cons_ne_nil _ _); (case n => exact Nat.le_of_ble_eq_true rfl)); intro d' h' o' F' N' l1 lo' hd'; (try k_lt l1)))
local macro_rules | `(tactic| walk_at "compareOp NotEq ref ref") => `(tactic| (k_here; (with_reducible show wpAny _ _ (compareOp CmpOp.NotEq (Value.ref _) (Value.ref _)) _ _ _); (rename News _ _ _ _ => lN'); k_dflt (first
  | (refine' Mine.ne_reply lN' ?d1 ?d2 ?i1 ?i2 ?l1 ?l2 ?m1 ?m2 ?ku ?_; (case d1 => k_mem); (case d2 => k_mem); (case i1 => assumption); (case i2 => assumption); (case l1 => assumption); (case l2 => assumption); (case m1 => k_mem); (case m2 => k_mem); (case ku => exact Nat.le_of_ble_eq_true rfl))
  | (refine' Mine.ne_sender lN' ?d1 ?d2 ?i1 ?i2 ?l1 ?l2 ?m1 ?m2 ?ku ?_; (case d1 => k_mem); (case d2 => k_mem); (case i1 => assumption); (case i2 => assumption); (case l1 => assumption); (case l2 => assumption); (case m1 => k_mem); (case m2 => k_mem); (case ku => exact Nat.le_of_ble_eq_true rfl)))))
set_option maxHeartbeats 8000000 in
theorem PySem.Challenge.cw_dn0159_09_holds : PySem.Challenge.rw_dn0159_09.Holds := by
  refine Mine.hd (by (k_go0; (all_goals try k_fold); k_steps; all_goals first
    | exact absurd rfl (by assumption)
    | (exfalso; omega)
    | ((rename Fr _ _ _ _ => lF'); (rename News _ _ _ _ => lN'); refine' Mine.turn2_end lF' lN' ?hs ?off ?hm; (case hs => (intro p hp; repeat (first | exact hp | refine List.Mem.tail _ ?_))); (case off => assumption); (case hm => (intro z z3; obtain ⟨a1, a2, a3, a4, a5, a6⟩ := Mine.look_ne z3; simp only [z3, a1, a2, a3, a4, a5, a6, if_false, Bool.false_eq_true])))))

import PyProof.Rows.All
import Wide.All
import OpenK.AllK
import Wide.FinOn
import PyProof.ExcBaseAll.Exception
import PyProof.ExcAttrAll.Exception
import PyProof.InstStoreFacts
import PyProof.AttrMiss
import PyProof.ReprRoads
import PySem.Challenge.RW_dm0030_01
set_option Elab.async false
section
open PySem PySem.W PyProof.Rows
set_option maxRecDepth 100000
set_option maxHeartbeats 8000000
namespace Mine
open_top hd for PySem.Challenge.rw_dm0030_01
theorem topOff : True := by
  w_top off
  trivial
end Mine
end
section
open PySem PySem.W PyProof.Rows PySem.Calls PySem.Spec
set_option maxRecDepth 100000
set_option maxHeartbeats 4000000
namespace Mine
abbrev tupObj (vs : List Value) : Obj := { cls := .type "tuple", data := .seq vs.toArray }
abbrev excObj (C t : Addr) (d : Option Addr) : Obj := { cls := .ref C, dict := d, data := .fields #[.ref t, .none, .none, .none, .bool false, .none] }
structure ExcMakes (M : Model) (h : Heap) (C : Addr) : Prop where
  obj : ∃ oc od cd sl, h.get? C = some ⟨oc, od, .cls cd, sl⟩ ∧ cd.hasDel = false ∧ cd.mro.isEmpty = false
  mro : ∃ m, Looks M h (mroOf (.ref C)) m ∧ m.isEmpty = false
  made : Looks M h (Bind.madeBy (.ref C)) (some "Exception.__new__")
  base : Looks M h (Bind.staticBase (.ref C)) (.ref C)
  self : Looks M h (isSubtype (.ref C) (.ref C)) true
  exc : Looks M h (isSubtype (.ref C) (.type "Exception")) true
  noAttr : Looks M h (isSubtype (.ref C) (.type "AttributeError")) false
  noName : Looks M h (isSubtype (.ref C) (.type "NameError")) false
  call : Looks M h (specialOf (.ref C) "__call__") (some (.builtin "type.__call__"))
  typ : Looks M h (isInstance (.ref C) (.type "type")) true

def excIn (K : Frag) (C : Addr) : Bool := match K.lookup C with
  | some ⟨_, _, .cls cd, sl⟩ => !cd.hasDel && (sl.toList[4]?).join == some (.builtin "Exception.__new__") && !cd.mro.isEmpty && cd.mro.contains (.ref C) && cd.mro.contains (.type "Exception") &&
      !cd.mro.contains (.type "AttributeError") && !cd.mro.contains (.type "NameError") &&
      specialIn K (.ref C) "__call__" == some (some (.builtin "type.__call__")) && instIn K (.ref C) (.type "type") == some true
  | _ => false

theorem excMakes_of {K : Frag} {M : Model} {h : Heap} (X : K.In h) {C : Addr} (e : excIn K C = true) : ExcMakes M h C := by
  unfold excIn at e
  split at e
  · rename_i oc od cd sl ho
    simp only [Bool.and_eq_true, Bool.not_eq_true', beq_iff_eq] at e
    obtain ⟨⟨⟨⟨⟨⟨⟨⟨e2, e3⟩, e4⟩, e5⟩, e6⟩, e6a⟩, e6b⟩, e7⟩, e8⟩ := e
    have hc : clsIn K C = some cd := by unfold clsIn; rw [ho]
    have hm : Looks M h (mroOf (.ref C)) cd.mro := (looks_clsIn X hc).andThen .now
    obtain ⟨c, l, hl⟩ : ∃ c l, cd.mro = c :: l := by cases q : cd.mro with | nil => rw [q] at e4; cases e4 | cons c l => exact ⟨c, l, rfl⟩
    have made : Looks M h (Bind.madeBy (.ref C)) (some "Exception.__new__") := by
      intro A Q E s k q
      unfold Bind.madeBy
      refine wpAny_bind (hm A _ E s k ?_)
      rw [hl, List.forIn_cons]
      refine wpAny_bind (wpAny_bind (wpAny_bind (wpAny_bind (wpAny_loadPart (k _ _ (X _ _ ho)) (wpAny_pure ?_)))))
      dsimp only
      rw [← Array.getElem?_toList, e3]
      exact wpAny_pure (wpAny_pure (wpAny_pure q))
    have sub : ∀ (b : Value) (r : Bool), cd.mro.contains b = r → Looks M h (isSubtype (.ref C) b) r := fun b r hb => looks_mroIn X (by unfold mroIn; rw [hc, Option.bind_some, if_neg (by rw [e4]; decide), hb])
    refine ⟨⟨oc, od, cd, sl, X _ _ ho, e2, e4⟩, ⟨_, hm, e4⟩, made, ?_, sub _ _ e5, sub _ _ e6, sub _ _ e6a, sub _ _ e6b, looks_specialIn X e7, looks_instIn X e8⟩
    intro A Q E s k q
    unfold Bind.staticBase
    refine wpAny_bind (hm A _ E s k ?_)
    rw [hl, List.forIn_cons]
    exact wpAny_bind (wpAny_bind (wpAny_bind (made A _ E s k (wpAny_pure (wpAny_pure (wpAny_pure q))))))
  · cases e

section
variable {prog : Program} {w : World} {A : Around} {K : Frag} {C : Addr} {R : Result → Shared → Prop} {h : Heap} {g : Array GenState} {d : Drawn} {t : Nat} {os : OsState}

theorem excNew_args (C : Addr) (rest : List Value) (kw : List (Str × Value)) :
   Bind.checkArgs "Exception.__new__" ⟨.any, "Exception", "Exception", .cls, [⟨"args", .varPos, false⟩, ⟨"kwargs", .varKw, false⟩]⟩ ⟨.ref C :: rest, kw⟩ = pure () := by
  kernel_rfl

theorem exc_new {rest : List Value} {kw : List (Str × Value)} (Y : ExcMakes (model prog w) h C) (hrest : rest.length ≤ sizeLine)
    (hq : R (.ok (.ret (.ref (h.objs.size + 1)))) ⟨(h.push (tupObj rest)).push (excObj C h.objs.size none), g, d, t, os⟩) :
    codeAny (model prog w) A (.call (.builtin "Exception.__new__") ⟨.ref C :: rest, kw⟩) R ⟨h, g, d, t, os⟩ := by
  obtain ⟨⟨oc, od, cd, sl, hC, e2, e4⟩, ⟨mr, mro, hmr⟩, made, base, self, exc, noAttr, noName, call, typ⟩ := Y
  have F := PySem.F.excBase_Exception
  refine codeAny_call_builtin_code (Code.quiet_builtin _ F.quiet) ?_
  simp only [checkBuiltinCall, F.newKind, F.newSplit, F.newRow]
  have args := excNew_args C rest kw
  rw [args]
  repeat (first | simp only [bne_self_eq_false, Bool.false_eq_true, if_false] | lk)
  refine codeAny_builtinAt F.entry ?_
  unfold Builtin.«BaseException.__new__»
  refine PySem.wpAt_bind ?_
  show PySem.wpAt _ _ _ (stack >>= _) _ _ _
  refine PySem.wpAt_bind (PySem.wpAt_stack fun p below => PySem.wpAt_of_wpAny ?_)
  have hends := F.ends
  have hown := F.owner
  wp_walk
  refine PySem.wpAt_of_wpAny ?_
  rw [F.owner]
  have mh : Looks (model prog w) h (Bind.madeHere "BaseException.__new__" (.ref C)) () := base.andThen (made.andThen (Looks.of_pure (by rw [Option.map_some, F.canon]; simp only [bne_self_eq_false, Bool.false_eq_true, if_false])))
  dsimp only
  repeat (first | simp only [bne_self_eq_false, Bool.false_eq_true, if_false] | lk)
  have hC' := Heap.get?_push_of_some (excObj C h.objs.size none) (Heap.get?_push_of_some (tupObj rest) hC)
  rw [if_neg (by rw [List.size_toArray]; omega)]
  show wpAny _ _ (newObjAsIs _ _ _) _ _ _
  unfold newObjAsIs
  refine wpAny_bind (wpAny_alloc (wpAny_pure (wpAny_bind ?_)))
  show wpAny _ _ (newObjAsIs _ _ _) _ _ _
  unfold newObjAsIs classHasDel
  refine wpAny_bind (wpAny_alloc (wpAny_bind (wpAny_bind (wpAny_load hC' (wpAny_pure ?_)))))
  rw [e2]
  refine wpAny_pure (wpAny_pure ?_)
  show R _ _
  rw [Heap.size_push]
  exact hq

theorem exc_core {rest : List Value} {kw : List (Str × Value)} {init : Value} (Y : ExcMakes (model prog w) h C) (hrest : rest.length ≤ sizeLine) (hi : Looks (model prog w) h (typeLookup (.ref C) "__init__") (some init))
    (hb : ∀ self, Looks (model prog w) h (bindSpecial init self) (init, [self]))
    (hq : codeAny (model prog w) (A.under (.builtin "type.__call__" ⟨.ref C :: rest, kw⟩)) (.call init ⟨.ref (h.objs.size + 1) :: rest, kw⟩) (InitBack (h.objs.size + 1) R) ⟨(h.push (tupObj rest)).push (excObj C h.objs.size none), g, d, t, os⟩) :
    codeAny (model prog w) A (.call (.ref C) ⟨rest, kw⟩) R ⟨h, g, d, t, os⟩ := by
  have Y' := Y
  obtain ⟨⟨oc, od, cd, sl, hC, e2, e4⟩, ⟨mr, mro, hmr⟩, made, base, self, exc, noAttr, noName, call, typ⟩ := Y
  refine codeAny_of_tree ?_
  show wpAny _ _ (callAny (.ref C) _) _ _ _
  refine nd_load hC ?_
  show wpAny _ _ (callAny.viaDunder (.ref C) _) _ _ _
  unfold callAny.viaDunder
  refine wpAny_bind (call.at ?_)
  dsimp only
  rw [tc_bind]
  refine wpAny_bind (wpAny_pure (wpAny_bind (wpAny_pure ?_)))
  refine wpAny_pure (a := Fin.again (.call (.builtin "type.__call__") ⟨.ref C :: rest, kw⟩)) (And.intro rfl ?_)
  refine codeAny_call_builtin_at (Code.quiet_builtin _ (by decide +kernel)) entry_typeCall (check_slot tc_kind tc_split typ (tc_args _ _ _) ?_)
  unfold Builtin.«type.__call__»
  repeat (first | simp only [hmr, Bool.false_eq_true, if_false] | with_reducible refine wpAny_call ?_ | lk)
  refine exc_new Y' hrest ?_
  have k : ∀ b o, h.get? b = some o → ((h.push (tupObj rest)).push (excObj C h.objs.size none)).get? b = some o := fun b o e => Heap.get?_push_of_some _ (Heap.get?_push_of_some _ e)
  have hx : ((h.push (tupObj rest)).push (excObj C h.objs.size none)).get? (h.objs.size + 1) = some (excObj C h.objs.size none) := by heap_get
  have t1 : Looks (model prog w) ((h.push (tupObj rest)).push (excObj C h.objs.size none)) (typeOf (.ref (h.objs.size + 1))) (.ref C) := (Looks.ld hx).andThen .now
  have s1 := self.keeps k
  have i1 := hi.keeps k
  have b1 := (hb (.ref (h.objs.size + 1))).keeps k
  unfold isInstance callSpecial? specialOf
  repeat (first | with_reducible refine wpAny_call ?_ | lk)
  refine codeAny_mono hq fun r s' z => ?_
  rcases r with e | (v | _ | _ | _) <;> first | exact z | exact z.elim | skip
  obtain ⟨rfl, z⟩ := z
  exact wpAny_pure (wpAny_pure z)
end
section
variable {prog : Program} {w : World} {A : Around} {K : Frag} {C x : Addr} {s : Shared} {h₀ : Heap} {L : Addr} {m : Str → Option Value} {news : List (Addr × Obj)} {R : Result → Shared → Prop}
theorem exc_K {rest : List Value} {kw : List (Str × Value)} {fI : Addr} (F : Fr h₀ L s.heap m) (N : News h₀ L s.heap news) (X : K.In s.heap) (hm : excIn K C = true) (hrest : rest.length ≤ sizeLine)
    (hi : findIn K (.ref C) "__init__" = some (some (.ref fI))) (hf : typeIn K (.ref fI) = some (.type "function"))
    (h : ∀ x tx h', Fr h₀ L h' m → News h₀ L h' ((x, excObj C tx none) :: (tx, tupObj rest) :: news) → (∀ p ∈ news, p.1 < tx) → tx < x →
      codeAny (model prog w) (A.under (.builtin "type.__call__" ⟨.ref C :: rest, kw⟩)) (.call (.ref fI) ⟨.ref x :: rest, kw⟩) (InitBack x R) { s with heap := h' }) :
    codeAny (model prog w) A (.call (.ref C) ⟨rest, kw⟩) R s := by
  obtain ⟨hh, g, d, t, os⟩ := s
  refine exc_core (excMakes_of X hm) hrest (looks_findIn X hi) (fun self => bind_fn X self hf) (h _ hh.objs.size _ ((F.push _).push _) ?_ (fun p hp => Heap.lt_size (N p hp).1) (Nat.lt_succ_self _))
  have := (N.push F (tupObj rest)).push (F.push _) (excObj C hh.objs.size none)
  rwa [Heap.size_push] at this
end
end Mine
end
section
open PySem PySem.W PyProof.Rows PySem.Calls PySem.Spec Builtin Builtin.ObjectAttr Builtin.Getset_descriptor
set_option maxRecDepth 100000
set_option maxHeartbeats 400000
namespace Mine
section
variable {prog : Program} {w : World} {A : Around} {E : Value → Shared → Prop} {s : Shared} {K : Frag} {x C : Addr} {ox : Obj} {od : Option Obj} {name : Str} {expr fill : Bool} {Q : Value → Shared → Prop}

def excGet (K : Frag) (C : Addr) : Bool := findIn K (.ref C) "__getattribute__" == some (some (.builtin "BaseException.__getattribute__")) && findIn K (.ref C) "__getattr__" == some none && subIn K (.ref C) (.type "BaseException") == some true

theorem ga_kind : builtinKind "BaseException.__getattribute__" = some .slot := by decide +kernel
theorem ga_split : splitId "BaseException.__getattribute__" = some ("BaseException", "__getattribute__") := by decide +kernel
theorem ga_plain : plainId "BaseException.__getattribute__" = true := by decide +kernel

theorem getBy_open {tk : Tok} (X : K.In s.heap) (I : InstAt s.heap x ox C od) (hg : excGet K C = true)
    (h : wpAny (model prog w) A.in1 (Builtin.«object.__getattribute__» ⟨[.ref x, .str name tk], []⟩)
      (fun fin s' => match fin with | .done (.ret v) => wpAny (model prog w) A (handedOut v) Q E s' | _ => False)
      (fun e s' => wpAny (model prog w) A (getattributeRaised (.ref x) (.str name tk) (.ref C) e none fill expr) Q E s') s) :
    wpAny (model prog w) A (getAttrBy (.ref x) (.str name tk) fill expr) Q E s := by
  unfold excGet at hg
  simp only [Bool.and_eq_true, beq_iff_eq] at hg
  obtain ⟨⟨hga, hgt⟩, hsub⟩ := hg
  obtain ⟨hh, g, d, t, os⟩ := s
  have L0 := I.type (M := model prog w)
  have L1 := looks_findIn (M := model prog w) X hga
  have L2 := looks_findIn (M := model prog w) X hgt
  have L3 : Looks (model prog w) hh (isInstance (.ref x) (.type "BaseException")) true := L0.andThen (looks_subIn X hsub)
  unfold getAttrBy
  refine wpAny_holding (wpAny_bind (L0.at (wpAny_bind (L1.at ?_))))
  dsimp only
  have e0 : (Value.builtin "BaseException.__getattribute__" == Value.builtin "object.__getattribute__") = false := by decide +kernel
  rw [e0, Bool.and_false]
  unfold getAttrByItsOwn hookBefore
  refine wpAny_bind ?_
  rw [if_pos (by rfl)]
  refine L2.at ?_
  refine wpAny_bind (wpAny_attempt (wpAny_holding ?_))
  unfold callGetattribute
  rw [if_neg (by simp [onTheHeap])]
  unfold boundAndCalled
  have hb := F.attr_Exception.ga.bind (.ref x)
  rw [hb]
  refine wpAny_bind (wpAny_pure ?_)
  refine wpAny_call ?_
  refine codeAny_call_builtin ga_plain F.entry_bexc_ga ?_
  refine @check_slot (model prog w) _ _ ⟨hh, g, d, t, os⟩ "BaseException.__getattribute__" "BaseException" "__getattribute__" (.ref x) [.str name tk] [] _ ga_kind ga_split L3 (F.args_bexc_ga (.ref x) (.str name tk)) ?_
  refine wpAny_mono h (fun fin s' z => ?_) fun _ _ z => z
  rcases fin with (_ | _ | _ | _) | _ <;> first | exact z | exact z.elim

theorem getX_value {v : Value} (X : K.In s.heap) (I : InstAt s.heap x ox C od) (hg : excGet K C = true)
    (hf : findObj K C od name = some (.value v)) (hh : handedIn v = true) (h : Q v { s with toks := s.toks + 1 }) : wpAny (model prog w) A (getAttr (.ref x) name expr) Q E s := by
  unfold getAttr
  refine wpAny_bind (wpAny_mkText ?_)
  refine getBy_open (s := { s with toks := s.toks + 1 }) X I hg ?_
  obtain ⟨hh', g, d, t, os⟩ := s
  have L0 := I.type (M := model prog w)
  have L1 := looks_find (M := model prog w) X I hf
  unfold Builtin.«object.__getattribute__»
  repeat lk
  show wpAny _ _ (handedOut v) _ _ _
  rw [handedOut_of hh]; exact wpAny_pure h

theorem getX_args {t0 : Addr} {vs : Array Value} (X : K.In s.heap) (I : InstAt s.heap x ox C od) (hg : excGet K C = true)
    (hf : findObj K C od "args" = some (.bind (.builtin "getset_descriptor.__get__") (.builtin "BaseException.args"))) (hd : ox.data = .fields vs) (h0 : vs[0]? = some (.ref t0))
    (h : Q (.ref t0) { s with toks := s.toks + 1 }) : wpAny (model prog w) A (getAttr (.ref x) "args" expr) Q E s := by
  unfold getAttr
  refine wpAny_bind (wpAny_mkText ?_)
  refine getBy_open (s := { s with toks := s.toks + 1 }) X I hg ?_
  obtain ⟨hh', g, d, t, os⟩ := s
  have L0 := I.type (M := model prog w)
  have L1 := looks_find (M := model prog w) X I hf
  have hg' := hg
  unfold excGet at hg'
  simp only [Bool.and_eq_true, beq_iff_eq] at hg'
  obtain ⟨⟨hga, hgt⟩, hsub⟩ := hg'
  have L3 : Looks (model prog w) hh' (isInstance (.ref x) (.type "BaseException")) true := L0.andThen (looks_subIn X hsub)
  unfold Builtin.«object.__getattribute__»
  repeat (first | with_reducible refine wpAny_call ?_ | lk)
  have hT5 : (⟨hh', g, d, t + 1, os⟩ : Shared).TypeIs (.builtin "BaseException.args") "getset_descriptor" := F.typeOf_bexc_args
  refine codeAny_call_builtin F.slot_gs_get.plain F.entry_gs_get (F.slot_gs_get.check _ _ _ _ _ _ _ _ hT5 (F.args_gs_get _ _ _) ?_)
  unfold Builtin.«getset_descriptor.__get__» descrGet
  rw [dga_cls]
  refine wpAny_bind (wpAny_pure ?_)
  unfold descrGetter descrCheckInstance descrNameAndClass
  have e5 : (descrOwnerAndName "BaseException.args") = ("BaseException", "args") := by decide +kernel
  dsimp only [given]
  rw [if_neg (by simp)]
  dsimp only
  rw [e5]
  repeat (first | with_reducible refine wpAny_call ?_ | lk)
  refine ⟨Code.quiet_builtin _ (by decide +kernel), codeAny_builtin F.entry_bexc_args ?_⟩
  unfold Builtin.«BaseException.args»
  have hnd : (Value.ref t0 == doubtfulMember) = false := by first | rfl | decide | simp [doubtfulMember, rawInt]
  have hx := I.at_
  obtain ⟨oc, od', oda, osl⟩ := ox
  dsimp only at hd
  subst hd
  have f0 := looks_field (M := model prog w) hx 0 h0
  repeat lk
  exact h

def nameOk (K : Frag) (C : Addr) : Bool := match K.lookup C with
  | some ⟨_, _, .cls cd, _⟩ => decide (Array.foldl (fun k c => k + (Str.utf8Of c).length) 0 cd.name.cps ≤ 100) && decide (cd.name.toString.length ≤ 60)
  | _ => false
theorem msg_len (a b c : String) (hb : b.length ≤ 60) (ha : a.length = 1) (hc : c.length ≤ 29) : (toString a ++ toString b ++ toString c).length ≤ 90 := by
  simp only [toString, String.length_append]; omega

theorem getX_miss {tk : Tok} (hA : A.handled = none) (X : K.In s.heap) (I : InstAt s.heap x ox C od) (hg : excGet K C = true)
    (hf : findObj K C od name = some .missing) (hnm : nameOk K C = true) (hn : name.length ≤ 100)
    (h : ∀ h' tk' e, Heap.NewExcOf s.heap h' e "AttributeError" → E (.ref e) { s with heap := h', toks := tk' }) : wpAny (model prog w) A (getAttrBy (.ref x) (.str name tk) false expr) Q E s := by
  refine getBy_open X I hg ?_
  obtain ⟨hh', g, d, t, os⟩ := s
  have L0 := I.type (M := model prog w)
  have L1 := looks_find (M := model prog w) X I hf
  unfold Builtin.«object.__getattribute__»
  repeat lk
  unfold nameOk at hnm
  split at hnm
  · rename_i oc odd cd osl hC
    simp only [Bool.and_eq_true, decide_eq_true_eq] at hnm
    obtain ⟨h1, h2⟩ := hnm
    refine nd_load (X _ _ hC) ?_
    refine wpAny_pure ?_
    refine wpAny_pure ?_
    dsimp only
    rw [if_pos h1]
    refine wpAny_pure ?_
    refine wpAny_raiseAttrError hA (fun h' tk' e hx => ?_) (attrMsg_fits (msg_len _ _ _ h2 (by decide) (by decide)) (by rw [sizeLine_eq]; omega))
    have f1 := sub_AttributeError
    obtain ⟨t', u', he⟩ := hx.there
    show wpAny _ _ (getattributeRaised _ _ _ _ _ _ _) _ _ _
    unfold getattributeRaised
    have L5 : Looks (model prog w) h' (isInstance (.ref e) (.type "AttributeError")) true := ((Looks.ld (part := none) he).andThen .now).andThen (Looks.of_pure f1)
    refine wpAny_bind (L5.at ?_)
    repeat lk
    refine wpAny_throw ?_
    exact h _ _ _ hx.of
  · cases hnm

theorem getX_missOpt {tk : Tok} {Q : Option Value → Shared → Prop} (hA : A.handled = none) (X : K.In s.heap) (I : InstAt s.heap x ox C od) (hg : excGet K C = true)
    (hf : findObj K C od name = some .missing) (hnm : nameOk K C = true) (hn : name.length ≤ 100)
    (h : ∀ h' tk', (∀ b o, s.heap.get? b = some o → h'.get? b = some o) → Q none { s with heap := h', toks := tk' }) : wpAny (model prog w) A (getAttrBy? (.ref x) (.str name tk)) Q E s := by
  unfold getAttrBy?
  refine wpAny_bind (wpAny_attempt ?_)
  refine getX_miss hA X I hg hf hnm hn (fun h' tk' e hx => ?_)
  obtain ⟨oe, va, he, hc, hrest⟩ := hx.there
  have f1 := sub_AttributeError
  have L5 : Looks (model prog w) h' (isInstance (.ref e) (.type "AttributeError")) true := ((Looks.ld (part := none) he).andThen .now).andThen (by rw [hc]; exact Looks.of_pure f1)
  dsimp only
  repeat lk
  exact h _ _ hx.keeps

theorem hasattr_kind : builtinKind "hasattr" = none := by decide +kernel
theorem hasattr_plain : plainId "hasattr" = true := by decide +kernel
theorem hasattr_entry : entryFor table "hasattr" = some Builtin.«hasattr» := entryFor_of_tree (by kernel_rfl)
theorem hasattr_miss {tk : Tok} {h₀ : Heap} {L : Addr} {m : Str → Option Value} {news : List (Addr × Obj)} (F : Fr h₀ L s.heap m) (N : News h₀ L s.heap news) (hA : A.handled = none) (X : K.In s.heap) (I : InstAt s.heap x ox C od) (hg : excGet K C = true) (hmod : subIn K (.ref C) (.type "module") = some false)
    (hf : findObj K C od name = some .missing) (hnm : nameOk K C = true) (hn : name.length ≤ 100)
    (h : ∀ h' tk', Fr h₀ L h' m → News h₀ L h' news → Q (.bool false) { s with heap := h', toks := tk' }) : wpAny (model prog w) A (call (.builtin "hasattr") [.ref x, .str name tk]) Q E s := by
  refine wpAny_call (codeAny_call_builtin hasattr_plain hasattr_entry ?_)
  unfold checkBuiltinCall
  rw [hasattr_kind]
  obtain ⟨hh', g, d, t, os⟩ := s
  have L0 := I.type (M := model prog w)
  have Lm : Looks (model prog w) hh' (isInstance (.ref x) (.type "module")) false := L0.andThen (looks_subIn X hmod)
  have fin : ∀ h' tk', (∀ b o, hh'.get? b = some o → h'.get? b = some o) → Q (.bool false) ⟨h', g, d, tk', os⟩ := fun h' tk' k => h h' tk' (F.keeps k) (N.grown k)
  have hA' : A.in1.handled = none := hA
  repeat (first | with_reducible refine getX_missOpt hA' X I hg hf hnm hn ?_ | lk)
  intro h' tk' k
  repeat lk
  exact fin h' tk' k
end
end Mine
end
section
open PySem PySem.W PyProof.Rows PySem.Calls PySem.Spec Builtin Builtin.ObjectAttr Builtin.Getset_descriptor Builtin.BaseException
set_option maxRecDepth 100000
set_option maxHeartbeats 400000
namespace Mine
section
variable {prog : Program} {w : World} {A : Around} {E : Value → Shared → Prop} {s : Shared} {K : Frag} {x C : Addr} {name : Str} {expr fill : Bool} {h₀ : Heap} {L : Addr} {m : Str → Option Value} {news : List (Addr × Obj)} {R : Result → Shared → Prop}

def excMro : List Value → Bool
  | [.type a, .type b, .type c] => a == "Exception" && b == "BaseException" && c == "object"
  | .ref _ :: r => excMro r
  | _ => false
theorem refuse_exc (self : Value) : ∀ {l : List Value}, excMro l = true → refuseLoop self "__setattr__" l = pure ()
  | [.type a, .type b, .type c], e => by
    simp only [excMro, Bool.and_eq_true, beq_iff_eq] at e
    obtain ⟨⟨rfl, rfl⟩, rfl⟩ := e
    exact PySem.F.store_Exception.passes self
  | .ref c :: r, e => by rw [refuseLoop_ref]; exact refuse_exc self (by unfold excMro at e; exact e)
theorem excMro_has : ∀ {l : List Value}, excMro l = true → l.contains (.type "object") = true
  | [.type a, .type b, .type c], e => by
    simp only [excMro, Bool.and_eq_true, beq_iff_eq] at e
    obtain ⟨⟨rfl, rfl⟩, rfl⟩ := e; simp
  | .ref c :: r, e => by rw [List.contains_cons, excMro_has (l := r) (by unfold excMro at e; exact e), Bool.or_true]
def excOver (K : Frag) (C : Addr) : Bool := (clsIn K C).any fun cd => excMro cd.mro

theorem osaX_open {ox : Obj} {od : Option Obj} {name : Str} {tk : Tok} {v : Value} {r : Option Value} (X : K.In s.heap) (I : InstAt s.heap x ox C od) (hp : excOver K C = true) (ht : takerIn K C name = some r)
    (h : ∀ b, wpAny (model prog w) A.in1 (match r with | some a => setByDescriptor a (.ref x) v | none => storeInOwnDict (.ref x) (.ref C) (.str name tk) name v b)
      (fun fin s' => match fin with | .done f => R (.ok f) s' | .again c' => c'.quiet = true ∧ codeAny (model prog w) A c' R s') (fun e s' => R (.error e) s') s) :
    codeAny (model prog w) A (.call (.builtin "object.__setattr__") ⟨[.ref x, .str name tk, v], []⟩) R s := by
  have SF := PySem.F.store_object
  obtain ⟨cd, hc, ho⟩ := any_some hp
  have ne : cd.mro.isEmpty = false := by cases q : cd.mro with | nil => rw [q] at ho; cases ho | cons _ _ => rfl
  have sub : Looks (model prog w) s.heap (isInstance (.ref x) (.type "object")) true := I.type.andThen (looks_mroIn X (by unfold mroIn; rw [hc, Option.bind_some, if_neg (by rw [ne]; decide), excMro_has ho]))
  refine codeAny_call_builtin SF.slot.plain SF.entry (@check_slot (model prog w) _ _ s "object.__setattr__" "object" "__setattr__" (.ref x) [.str name tk, v] [] _ SF.kind SF.split sub (SF.args (.ref x) (.str name tk) v) ?_)
  obtain ⟨attr, ha, hr⟩ := Option.bind_eq_some_iff.mp ht
  have hm : Looks (model prog w) s.heap (mroOf (.ref C)) cd.mro := (looks_clsIn X hc).andThen .now
  have L3 : Looks (model prog w) s.heap (storeTaker? attr) r := by
    cases attr with
    | none => cases hr; exact .now
    | some a =>
      obtain ⟨b, hb, rfl⟩ := Option.map_eq_some_iff.mp hr
      refine (looks_takesIn X hb).andThen ?_
      cases b <;> exact .now
  rw [osa_eq, refuse_eq]
  refine wpAny_bind (wpAny_bind (I.type.here (wpAny_bind (hm.here ?_))))
  rw [refuse_exc _ ho]
  refine wpAny_pure (wpAny_bind (I.type.here (wpAny_bind ((looks_findIn X ha).here (wpAny_bind (L3.here ?_))))))
  exact h _

theorem osaX_dict {ox od od' : Obj} {dx : Addr} {name : Str} {tk : Tok} {v : Value} {pre post : List (Addr × Obj)} {es : List DictEntry} {n : Nat} (F : Fr h₀ L s.heap m) (N : News h₀ L s.heap (pre ++ (dx, od) :: post)) (X : K.In s.heap)
    (I : InstAt s.heap x ox C (some od)) (hd : ox.dict = some dx) (hp : excOver K C = true) (ht : takerIn K C name = some none) (hh : (clsIn K C).any (·.hasDict) = true)
    (hl : (lookIn name od).isSome = true) (h1 : ∀ p ∈ pre, p.1 ≠ dx) (h2 : ∀ p ∈ post, p.1 ≠ dx)
    (e : Obj.putName name (PyData.keyHash w.params name) (.str name s.toks) v od = od') (e' : od'.data = .dict es.toArray n) (hz : es.length ≤ 1000)
    (h : ∀ h', Fr h₀ L h' m → News h₀ L h' (pre ++ (dx, od') :: post) → R (.ok (.ret .none)) { s with heap := h', toks := s.toks + 1 }) :
    codeAny (model prog w) A (.call (.builtin "object.__setattr__") ⟨[.ref x, .str name tk, v], []⟩) R s := by
  refine osaX_open X I hp ht fun b => ?_
  obtain ⟨cd, hc, hd'⟩ := any_some hh
  obtain ⟨U1, U2⟩ := news_upd (f := Obj.putName name (PyData.keyHash w.params name) (.str name s.toks) v) F N h1 h2 e (by obtain ⟨_, _, dd, _⟩ := od'; cases e'; rfl)
  have D := (N (dx, od) (by simp)).1
  have D' := (U2 (dx, od') (by simp)).1
  obtain ⟨hx, hcl, hn, -⟩ := I
  obtain ⟨oc, odi, oda, osl⟩ := ox
  dsimp only at hcl hd
  subst hcl hd
  refine wpAny_bind (wpAny_pure (wpAny_bind (wpAny_bind (wpAny_loadPart hx (wpAny_bind ((looks_clsIn X hc).here ?_))))))
  rw [hd']
  refine wpAny_pure (a := some dx) (wpAny_bind (wpAny_pure (wpAny_bind ?_)))
  unfold nsSet
  refine wpAny_bind (wpAny_bind (wpAny_askSetting (wpAny_pure (wpAny_bind (wpAny_mkText (wpAny_bind (wpAny_loadPart D ?_)))))))
  unfold lookIn at hl
  split at hl
  · rename_i es₀ n₀ q
    rw [q]
    dsimp only
    have c : (!es₀.any (·.key.isStr name) && es₀.any (·.refKey)) = false := by
      rw [← Array.any_toList, ← Array.any_toList]
      split at hl
      · rename_i en he
        rw [List.any_eq_true.mpr ⟨en, List.mem_of_find?_eq_some he, List.find?_some he⟩]; rfl
      · split at hl
        · cases hl
        · rename_i z; rw [Bool.not_eq_true] at z; rw [z, Bool.and_false]
    rw [aRefKeyMayBeTheName_at, c]
    refine wpAny_updatePart D ?_
    refine wpAny_bind (wpAny_lookBehind D' (by rw [e']; exact pastItsLine_dict (by rw [List.size_toArray, sizeLine_eq]; omega)) ?_)
    exact wpAny_pure (h _ U1 U2)
  · cases hl

/-- the first store: the instance has no dict yet -/
theorem osaX_first {t0 : Addr} {name : Str} {tk : Tok} {v : Value} {pre post : List (Addr × Obj)} (F : Fr h₀ L s.heap m) (N : News h₀ L s.heap (pre ++ (x, excObj C t0 none) :: post)) (X : K.In s.heap)
    (hp : excOver K C = true) (ht : takerIn K C name = some none) (hh : (clsIn K C).any (·.hasDict) = true)
    (h1 : ∀ p ∈ pre, p.1 ≠ x) (h2 : ∀ p ∈ post, p.1 ≠ x)
    (h : ∀ dx h', Fr h₀ L h' m → News h₀ L h' ((dx, dictOf [⟨PyData.keyHash w.params name, .str name s.toks, v⟩] 1) :: (pre ++ (x, excObj C t0 (some dx)) :: post)) → (∀ p ∈ pre ++ (x, excObj C t0 none) :: post, p.1 < dx) → R (.ok (.ret .none)) { s with heap := h', toks := s.toks + 1 }) :
    codeAny (model prog w) A (.call (.builtin "object.__setattr__") ⟨[.ref x, .str name tk, v], []⟩) R s := by
  have hx := (N (x, excObj C t0 none) (by simp)).1
  have I : InstAt s.heap x (excObj C t0 none) C none := ⟨hx, rfl, rfl, trivial⟩
  refine osaX_open X I hp ht fun b => ?_
  obtain ⟨cd, hc, hd'⟩ := any_some hh
  refine wpAny_bind (wpAny_pure (wpAny_bind (wpAny_bind (wpAny_loadPart hx (wpAny_bind ((looks_clsIn X hc).here ?_))))))
  rw [hd']
  rw [if_neg (by simp)]
  dsimp only
  rw [if_neg (by simp [typeHasDict])]
  -- the dict is allocated
  have F1 := F.push (dictOf [] 0)
  have N1 := N.push F (dictOf [] 0)
  have ltd : ∀ p ∈ pre ++ (x, excObj C t0 none) :: post, p.1 < s.heap.objs.size := fun p hp => Heap.lt_size (N p hp).1
  refine wpAny_bind (wpAny_alloc ?_)
  have hx1 := (N1 (x, excObj C t0 none) (by simp)).1
  refine wpAny_bind (wpAny_update hx1 ?_)
  obtain ⟨U1, U2⟩ := news_upd (pre := (s.heap.objs.size, dictOf [] 0) :: pre) (post := post) (o := excObj C t0 none) (o' := excObj C t0 (some s.heap.objs.size))
    (f := fun o => { o with dict := some s.heap.objs.size }) F1 N1 (fun p hp => by
      rcases List.mem_cons.mp hp with rfl | hp
      · exact Nat.ne_of_gt (ltd (x, excObj C t0 none) (by simp))
      · exact h1 p hp) h2 rfl rfl
  refine wpAny_pure ?_
  dsimp only
  refine wpAny_bind (wpAny_pure (wpAny_bind ?_))
  unfold nsSet
  have D := (U2 (s.heap.objs.size, dictOf [] 0) (by simp)).1
  refine wpAny_bind (wpAny_bind (wpAny_askSetting (wpAny_pure (wpAny_bind (wpAny_mkText (wpAny_bind (wpAny_loadPart D ?_)))))))
  obtain ⟨V1, V2⟩ := news_upd (pre := []) (post := pre ++ (x, excObj C t0 (some s.heap.objs.size)) :: post) (o := dictOf [] 0) (o' := dictOf [⟨PyData.keyHash w.params name, .str name s.toks, v⟩] 1)
    (f := Obj.putName name (PyData.keyHash w.params name) (.str name s.toks) v) U1 U2 (fun p hp => nomatch hp) (fun p hp => by
      rcases List.mem_append.mp hp with hp | hp
      · exact Nat.ne_of_lt (ltd p (by simp [hp]))
      · rcases List.mem_cons.mp hp with rfl | hp
        · exact Nat.ne_of_lt (ltd (x, excObj C t0 none) (by simp))
        · exact Nat.ne_of_lt (ltd p (by simp [hp]))) (by rw [putName_dict]; rfl) rfl
  have D' := (V2 (s.heap.objs.size, dictOf [⟨PyData.keyHash w.params name, .str name s.toks, v⟩] 1) (by simp)).1
  have c : (!(#[] : Array DictEntry).any (·.key.isStr name) && (#[] : Array DictEntry).any (·.refKey)) = false := by simp
  dsimp only
  rw [aRefKeyMayBeTheName_at, c]
  refine wpAny_updatePart D ?_
  refine wpAny_bind (wpAny_lookBehind D' (pastItsLine_dict (by rw [List.size_toArray, sizeLine_eq]; simp)) ?_)
  exact wpAny_pure (h _ _ V1 V2 ltd)

theorem entry_argsSet : entryFor table "BaseException.args#set" = some Builtin.«BaseException.args#set» := entryFor_of_tree (by kernel_rfl)
theorem entry_gs_set : entryFor table "getset_descriptor.__set__" = some Builtin.«getset_descriptor.__set__» := entryFor_of_tree (by kernel_rfl)
theorem args_gs_set (a b c : Value) : argsOk "getset_descriptor.__set__" ⟨[a, b, c], []⟩ := by unfold argsOk; kernel_rfl
theorem osaX_args {t0 t1 : Addr} {d : Option Addr} {od : Option Obj} {tk : Tok} {vs : List Value} {k : Nat} {pre post : List (Addr × Obj)} (F : Fr h₀ L s.heap m) (N : News h₀ L s.heap (pre ++ (x, excObj C t0 d) :: post)) (X : K.In s.heap)
    (I : InstAt s.heap x (excObj C t0 d) C od) (hsub : subIn K (.ref C) (.type "BaseException") = some true)
    (hp : excOver K C = true) (ht : takerIn K C "args" = some (some (.builtin "BaseException.args")))
    (h1 : ∀ p ∈ pre, p.1 ≠ x) (h2 : ∀ p ∈ post, p.1 ≠ x) (hv : s.heap.get? t1 = some { cls := .type "tuple", data := .seq vs.toArray k })
    (h : ∀ h', Fr h₀ L h' m → News h₀ L h' (pre ++ (x, excObj C t1 d) :: post) → R (.ok (.ret .none)) { s with heap := h' }) :
    codeAny (model prog w) A (.call (.builtin "object.__setattr__") ⟨[.ref x, .str "args" tk, .ref t1], []⟩) R s := by
  have hx := (N (x, excObj C t0 d) (by simp)).1
  refine osaX_open X I hp ht fun b => ?_
  obtain ⟨U1, U2⟩ := news_upd (o := excObj C t0 d) (o' := excObj C t1 d) (f := Obj.mapFields (·.setIfInBounds 0 (.ref t1))) F N h1 h2 rfl rfl
  obtain ⟨hh, g, dr, t, os⟩ := s
  have L0 := I.type (M := model prog w)
  have L3 : Looks (model prog w) hh (isInstance (.ref x) (.type "BaseException")) true := L0.andThen (looks_subIn X hsub)
  refine wpAny_bind (wpAny_rule (wpAny_bind (wpAny_holding ?_)))
  unfold callSpecial? specialOf
  have f1 : typeOf (.builtin "BaseException.args") = pure (.type "getset_descriptor") := PySem.F.typeOf_bexc_args
  have f2 := PySem.F.slot_gs_set.lookup
  have f3 := PySem.F.slot_gs_set.bind (.builtin "BaseException.args")
  refine wpAny_bind (wpAny_bind (wpAny_of_eq f1 (wpAny_of_eq f2 (wpAny_holding (wpAny_bind (wpAny_of_eq f3 (wpAny_bind (wpAny_call ?_))))))))
  have hT5 : (⟨hh, g, dr, t, os⟩ : Shared).TypeIs (.builtin "BaseException.args") "getset_descriptor" := PySem.F.typeOf_bexc_args
  refine codeAny_call_builtin PySem.F.slot_gs_set.plain entry_gs_set (PySem.F.slot_gs_set.check _ _ _ _ _ _ _ _ hT5 (args_gs_set _ _ _) ?_)
  unfold Builtin.«getset_descriptor.__set__» descrSet descrStoreThrough descrCheckInstance descrNameAndClass descrItself
  have e5 : (descrOwnerAndName "BaseException.args") = ("BaseException", "args") := by decide +kernel
  rw [if_neg (by simp)]
  dsimp only [List.cons_append, List.nil_append]
  simp only [e5]
  repeat lk
  refine ⟨Code.quiet_builtin _ (by decide +kernel), codeAny_builtin entry_argsSet ?_⟩
  unfold Builtin.«BaseException.args#set» bexcPut
  refine wpAny_bind (call_tuple_same ⟨_, hv, rfl, k, rfl⟩ ?_)
  have f0 : Looks (model prog w) hh (field (.ref x) 0) (.ref t0) := looks_field (M := model prog w) hx 0 rfl
  refine wpAny_bind (wpAny_bind (f0.at ?_))
  have fin := h _ U1 U2
  unfold setField updateField
  refine wpAny_bind (wpAny_bind (wpAny_load hx ?_))
  dsimp only
  rw [if_pos (by simp)]
  refine wpAny_update hx ?_
  unfold letGo letGo
  repeat lk
  exact fin

theorem setX_plain {ox : Obj} {od : Option Obj} {name : Str} {v : Value} {Q : Unit → Shared → Prop} (X : K.In s.heap) (I : InstAt s.heap x ox C od)
    (hs : findIn K (.ref C) "__setattr__" = some (some (.builtin "object.__setattr__")))
    (h : codeAny (model prog w) A (.call (.builtin "object.__setattr__") ⟨[.ref x, .str name s.toks, v], []⟩) (fun r s' => match r with | .ok (.ret _) => Q () s' | .ok _ => False | .error e => E e s') { s with toks := s.toks + 1 }) :
    wpAny (model prog w) A (setAttr (.ref x) name v) Q E s := set_plain X I hs h

theorem exInit_kind : builtinKind "Exception.__init__" = some .slot := by decide +kernel
theorem exInit_split : splitId "Exception.__init__" = some ("Exception", "__init__") := by decide +kernel
theorem exInit_plain : plainId "Exception.__init__" = true := by decide +kernel
theorem exInit_K {t0 : Addr} {d : Option Addr} {od : Option Obj} {v : Value} {Q : Value → Shared → Prop} {pre post : List (Addr × Obj)} (F : Fr h₀ L s.heap m) (N : News h₀ L s.heap (pre ++ (x, excObj C t0 d) :: post)) (X : K.In s.heap)
    (I : InstAt s.heap x (excObj C t0 d) C od) (hsub : subIn K (.ref C) (.type "Exception") = some true) (hov : excOver K C = true)
    (h1 : ∀ p ∈ pre, p.1 ≠ x) (h2 : ∀ p ∈ post, p.1 ≠ x)
    (h : ∀ t1 h', Fr h₀ L h' m → News h₀ L h' ((t1, tupObj [v]) :: (pre ++ (x, excObj C t1 d) :: post)) → (∀ p ∈ pre ++ (x, excObj C t0 d) :: post, p.1 < t1) → Q .none { s with heap := h' }) :
    wpAny (model prog w) A (call (.builtin "Exception.__init__") [.ref x, v]) Q E s := by
  have F1 := F.push (tupObj [v])
  have N1 := N.push F (tupObj [v])
  have lt1 : ∀ p ∈ pre ++ (x, excObj C t0 d) :: post, p.1 < s.heap.objs.size := fun p hp => Heap.lt_size (N p hp).1
  have hx1 := (N1 (x, excObj C t0 d) (by simp)).1
  obtain ⟨U1, U2⟩ := news_upd (pre := (s.heap.objs.size, tupObj [v]) :: pre) (post := post) (o := excObj C t0 d) (o' := excObj C s.heap.objs.size d)
    (f := Obj.mapFields (·.setIfInBounds 0 (.ref s.heap.objs.size))) F1 N1 (fun p hp => by
      rcases List.mem_cons.mp hp with rfl | hp
      · exact Nat.ne_of_gt (lt1 (x, excObj C t0 d) (by simp))
      · exact h1 p hp) h2 rfl rfl
  obtain ⟨hh, g, dr, t, os⟩ := s
  have L0 := I.type (M := model prog w)
  have L3 : Looks (model prog w) hh (isInstance (.ref x) (.type "Exception")) true := L0.andThen (looks_subIn X hsub)
  refine wpAny_call (codeAny_call_builtin exInit_plain PySem.F.excBase_Exception.initEntry ?_)
  obtain ⟨cd, hcd, hov⟩ := any_some hov
  have hC : ∃ c d sl, hh.get? C = some ⟨c, d, .cls cd, sl⟩ := by
    unfold clsIn at hcd
    split at hcd
    · rename_i c d sl ho; cases hcd; exact ⟨_, _, _, X _ _ ho⟩
    · cases hcd
  obtain ⟨cC, dC, slC, hC⟩ := hC
  simp only [checkBuiltinCall, exInit_kind, exInit_split, PySem.F.excBase_Exception.initRow]
  refine wpAny_bind (L3.at ?_)
  rw [if_neg (by simp)]
  unfold Bind.checkArgs
  have fin := h _ _ U1 U2 lt1
  repeat lk
  refine wpAny_update hx1 ?_
  repeat lk
  exact fin
end
end Mine
end
section
open PySem PySem.W PyProof.Rows PySem.Calls PySem.Spec Builtin Builtin.Str
set_option maxRecDepth 100000
set_option maxHeartbeats 400000
namespace Mine
/-- repr of v is t, at every heap that keeps h -/
def Shows (prog : Program) (w : World) (h : Heap) (v : Value) (t : PySem.Str) : Prop :=
  ∀ (A : Around) (E : Value → Shared → Prop) (s : Shared) (Q : Value → Shared → Prop), A.guards = some [] → A.units + 100 < cLine → (∀ b o, h.get? b = some o → s.heap.get? b = some o) →
    (∀ h' u tk, (∀ b o, s.heap.get? b = some o → h'.get? b = some o) → Q (.str t u) { s with heap := h', toks := tk }) → wpAny (model prog w) A (pyReprObj v) Q E s
section
variable {prog : Program} {w : World} {h : Heap}
theorem Shows.keeps {h' : Heap} {v : Value} {t : PySem.Str} (x : Shows prog w h v t) (k : ∀ b o, h.get? b = some o → h'.get? b = some o) : Shows prog w h' v t :=
  fun A E s Q hg hu hk hQ => x A E s Q hg hu (fun b o e => hk b o (k b o e)) hQ
theorem Shows.str (x : PySem.Str) (u : Tok) (hsz : (reprText x).length ≤ sizeLine) : Shows prog w h (.str x u) (reprText x) :=
  fun A E s Q _ _ _ hQ => wpAny_pyReprObj_str (hQ s.heap _ _ fun _ _ e => e) hsz
theorem Shows.int (n : Int) (u : Tok) (hn : n.natAbs.log2 < 1920) : Shows prog w h (.int n u) (PySem.Str.ofString (toString n)) :=
  fun A E s Q _ _ _ hQ => wpAny_pyReprObj_gives (typeIs_int s n u) F.slot_int_repr F.entry_int_repr (F.args_int_repr_1 _) (gives_int_repr n u hn) (hQ s.heap _ _ fun _ _ e => e) (hx := int_text_fits hn)
theorem Shows.none : Shows prog w h .none (PySem.Str.ofString "None") :=
  fun A E s Q _ _ _ hQ => pyReprObj_none (hQ s.heap _ _ fun _ _ e => e)
theorem Shows.bool (b : Bool) : Shows prog w h (.bool b) (if b then PySem.Str.ofString "True" else PySem.Str.ofString "False") :=
  fun A E s Q _ _ _ hQ => by
    refine pyReprObj_bool ?_
    have := hQ s.heap s.toks (s.toks + 1) fun _ _ e => e
    cases b <;> exact this
theorem Shows.reads {a : Addr} {d : PyData} {as : List Addr} (r : Reads h (.ref a) d as) (hs : d.showable = true) (hnd : d.hasDict = false) (hdep : d.depth ≤ 90) (hsz : d.shown.length ≤ sizeLine) : Shows prog w h (.ref a) d.shown :=
  fun A E s Q hg hu hk hQ => pyReprObj_of_reads r hs (fun e => by rw [hnd] at e; cases e) hg (by omega) hk (fun h' u tk k => hQ h' u tk k) hsz
end

/-- a field of a format: its conversion, its value, its text -/
def Fld (prog : Program) (w : World) (h : Heap) (c : Option Nat) (v : Value) (t : PySem.Str) : Prop :=
  ∀ (A : Around) (E : Value → Shared → Prop) (s : Shared) (Q : Value → Shared → Prop), A.guards = some [] → A.units + 100 < cLine → (∀ b o, h.get? b = some o → s.heap.get? b = some o) →
    (∀ h' u tk, (∀ b o, s.heap.get? b = some o → h'.get? b = some o) → Q (.str t u) { s with heap := h', toks := tk }) →
    wpAny (model prog w) A (convertField "str.format" v c) (fun obj s' => wpAny (model prog w) A (Builtin.Str.formatOf obj PySem.Str.empty) Q E s') E s
theorem Fld.keeps {prog : Program} {w : World} {h h' : Heap} {c : Option Nat} {v : Value} {t : PySem.Str} (x : Fld prog w h c v t) (k : ∀ b o, h.get? b = some o → h'.get? b = some o) : Fld prog w h' c v t :=
  fun A E s Q hg hu hk hQ => x A E s Q hg hu (fun b o e => hk b o (k b o e)) hQ
theorem Fld.repr {prog : Program} {w : World} {h : Heap} {v : Value} {t : PySem.Str} (x : Shows prog w h v t) : Fld prog w h (some 114) v t :=
  fun A E s Q hg hu hk hQ => x A E s _ hg hu hk (fun h' u tk k => wpAny_of_eq (KFm.formatOf_str _ _) (hQ h' u tk k))
theorem Fld.int {prog : Program} {w : World} {h : Heap} {n : Int} {u : Tok} (hn : n.natAbs.log2 < 1920) : Fld prog w h none (.int n u) (PySem.Str.ofString (toString n)) :=
  fun A E s Q hg hu hk hQ => wpAny_pure (KFm.formatOf_int hn (fun t' k => hQ s.heap _ _ fun _ _ e => e))

abbrev Piece := List Nat × Option (Option Nat)
def parse (n0 : Nat) : Nat → List Nat → Option (List Piece)
  | _, [] => some []
  | 0, _ :: _ => none
  | n + 1, r => match nextMarkup r with
    | .ok (lit, none, rest) => if lit.length == n0 then none else (parse n0 n rest).map ((lit, none) :: ·)
    | .ok (lit, some f, rest) => if lit.length == n0 then none else if f.name.isEmpty && f.spec.isEmpty && !f.nested then (parse n0 n rest).map ((lit, some f.conversion) :: ·) else none
    | .error _ => none
def glue : PySem.Str → List Piece → List PySem.Str → PySem.Str
  | T, [], _ => T
  | T, (lit, none) :: ps, ts => glue (T ++ ⟨lit.toArray⟩) ps ts
  | T, (lit, some _) :: ps, t :: ts => glue ((T ++ ⟨lit.toArray⟩) ++ t) ps ts
  | T, (_, some _) :: _, [] => T
inductive Flds (prog : Program) (w : World) (h : Heap) : List Piece → List Value → List PySem.Str → Prop
  | nil {vs ts} : Flds prog w h [] vs ts
  | lit {l ps vs ts} : Flds prog w h ps vs ts → Flds prog w h ((l, none) :: ps) vs ts
  | fld {l c ps v vs t ts} : Fld prog w h c v t → Flds prog w h ps vs ts → Flds prog w h ((l, some c) :: ps) (v :: vs) (t :: ts)
theorem Flds.keeps {prog : Program} {w : World} {h h' : Heap} {ps vs ts} (x : Flds prog w h ps vs ts) (k : ∀ b o, h.get? b = some o → h'.get? b = some o) : Flds prog w h' ps vs ts := by
  induction x with
  | nil => exact .nil
  | lit _ ih => exact .lit ih
  | fld hf _ ih => exact .fld (hf.keeps k) ih
def weigh : List Piece → List PySem.Str → Nat
  | [], _ => 0
  | (lit, none) :: ps, ts => lit.length + weigh ps ts
  | (lit, some _) :: ps, t :: ts => lit.length + t.length + weigh ps ts
  | (lit, some _) :: _, [] => lit.length

section
variable {prog : Program} {w : World} {A : Around} {E : Value → Shared → Prop} {a : Array Value} {n0 : Nat}
theorem loop_of {f : Nat → Writer × Numbering × List Nat → Sem (ForInStep (Writer × Numbering × List Nat))} (hg : A.guards = some []) (hu : A.units + 100 < cLine)
    (hend : ∀ (x : Nat) (w' : Writer) (num : Numbering) (s : Shared) (Q : ForInStep (Writer × Numbering × List Nat) → Shared → Prop), Q (.done (w', num, [])) s → wpAny (model prog w) A (f x (w', num, [])) Q E s)
    (hlit : ∀ (x : Nat) (w' : Writer) (num : Numbering) (c : Nat) (r lit rest : List Nat) (s : Shared) (Q : ForInStep (Writer × Numbering × List Nat) → Shared → Prop), tooLong w'.total = false → nextMarkup (c :: r) = .ok (lit, none, rest) → (lit.length == n0) = false →
      (∀ o, KPc.Obj o ⟨lit.toArray⟩ → Q (.yield (w'.add ⟨lit.toArray⟩ o, num, rest)) s) → wpAny (model prog w) A (f x (w', num, c :: r)) Q E s)
    (hfld : ∀ (x : Nat) (w' : Writer) (num : Numbering) (i c : Nat) (r lit rest : List Nat) (fl : Field) (v : Value) (t : PySem.Str) (s : Shared) (Q : ForInStep (Writer × Numbering × List Nat) → Shared → Prop), tooLong w'.total = false → nextMarkup (c :: r) = .ok (lit, some fl, rest) → (lit.length == n0) = false →
      fl.name = [] → fl.spec = [] → fl.nested = false → ((num = .unset ∧ i = 0) ∨ num = .auto i) → a[i]? = some v → Fld prog w s.heap fl.conversion v t →
      (∀ o o2 h' tk, (∀ b o, s.heap.get? b = some o → h'.get? b = some o) → KPc.Obj o ⟨lit.toArray⟩ → KPc.Obj o2 t → Q (.yield ((w'.add ⟨lit.toArray⟩ o).add t o2, .auto (i + 1), rest)) { s with heap := h', toks := tk }) → wpAny (model prog w) A (f x (w', num, c :: r)) Q E s) :
    ∀ (l : List Nat) (ps : List Piece) (vs : List Value) (ts : List PySem.Str) (r : List Nat) (w' : Writer) (num : Numbering) (i : Nat) (T : PySem.Str) (N : Nat) (s : Shared) (Q : Writer × Numbering × List Nat → Shared → Prop),
      parse n0 l.length r = some ps → KPc.Good w' T N → ((num = .unset ∧ i = 0) ∨ num = .auto i) → a.toList.drop i = vs → Flds prog w s.heap ps vs ts → N + weigh ps ts ≤ 16777216 →
      (∀ w'' num' r' h' tk, (∀ b o, s.heap.get? b = some o → h'.get? b = some o) → KPc.Good w'' (glue T ps ts) (N + weigh ps ts) → Q (w'', num', r') { s with heap := h', toks := tk }) →
      wpAny (model prog w) A (forIn l (w', num, r) f) Q E s := by
  intro l
  induction l with
  | nil =>
    intro ps vs ts r w' num i T N s Q hp hG hn hv hF hN h
    cases r with
    | cons _ _ => simp [parse] at hp
    | nil =>
      simp only [parse, Option.some.injEq] at hp
      subst hp
      exact wpAny_pure (h w' num [] s.heap s.toks (fun _ _ e => e) (by simpa [glue, weigh] using hG))
  | cons x l ih =>
    intro ps vs ts r w' num i T N s Q hp hG hn hv hF hN h
    refine KPc.turn ?_
    cases r with
    | nil =>
      simp only [parse, Option.some.injEq] at hp
      subst hp
      refine hend x w' num s _ ?_
      exact h w' num [] s.heap s.toks (fun _ _ e => e) (by simpa [glue, weigh] using hG)
    | cons c r =>
      have hshort : tooLong w'.total = false := by
        have := KPc.short_good hG (by omega)
        simpa using this
      simp only [List.length_cons, parse] at hp
      split at hp
      · rename_i lit rest hm
        split at hp
        · cases hp
        rename_i hn0
        rw [Bool.not_eq_true] at hn0
        obtain ⟨ps', hps, rfl⟩ := Option.map_eq_some_iff.mp hp
        cases hF with
        | lit hF =>
          refine hlit x w' num c r lit rest s _ hshort hm hn0 (fun o ho => ?_)
          have hG' := KPc.good_add hG ho
          have el : (PySem.Str.mk lit.toArray).length = lit.length := by simp [PySem.Str.length]
          refine ih ps' vs ts rest _ num i (T ++ ⟨lit.toArray⟩) (N + lit.length) s Q hps (by rw [← el]; exact hG') hn hv hF (by simp only [weigh] at hN; omega) ?_
          intro w'' num' r' h' tk k g
          refine h w'' num' r' h' tk k ?_
          simp only [glue, weigh]
          rw [← Nat.add_assoc]; exact g
      · rename_i lit fl rest hm
        split at hp
        · cases hp
        rename_i hn0
        rw [Bool.not_eq_true] at hn0
        split at hp
        · rename_i hc
          simp only [Bool.and_eq_true, List.isEmpty_iff, Bool.not_eq_true'] at hc
          obtain ⟨⟨hc1, hc2⟩, hc3⟩ := hc
          obtain ⟨ps', hps, rfl⟩ := Option.map_eq_some_iff.mp hp
          cases hF with
          | fld hf hF =>
            rename_i v vs' t ts'
            have hi : a[i]? = some v := by
              rw [← Array.getElem?_toList]
              have := congrArg (·[0]?) hv
              simpa using this
            have hv' : a.toList.drop (i + 1) = vs' := by
              have := congrArg (List.drop 1) hv
              simpa [List.drop_drop] using this
            refine hfld x w' num i c r lit rest fl v t s _ hshort hm hn0 hc1 hc2 hc3 hn hi hf (fun o o2 h1 tk1 k1 ho ho2 => ?_)
            have hG' := KPc.good_add (KPc.good_add hG ho) ho2
            have el : (PySem.Str.mk lit.toArray).length = lit.length := by simp [PySem.Str.length]
            refine ih ps' vs' ts' rest _ (.auto (i + 1)) (i + 1) ((T ++ ⟨lit.toArray⟩) ++ t) (N + lit.length + t.length) { s with heap := h1, toks := tk1 } Q hps (by rw [← el]; exact hG') (.inr rfl) hv' (hF.keeps k1) (by simp only [weigh] at hN; omega) ?_
            intro w'' num' r' h' tk k g
            refine h w'' num' r' h' tk (fun b o e => k b o (k1 b o e)) ?_
            simp only [glue, weigh]
            have : N + (lit.length + t.length + weigh ps' ts') = N + lit.length + t.length + weigh ps' ts' := by omega
            rw [this]; exact g
        · cases hp
      · cases hp

theorem build_run {s : Shared} {fmt : List Nat} {self : Option Value} {byName : PySem.Str → Sem Value} {ps : List Piece} {ts : List PySem.Str} {Q : Writer × Numbering → Shared → Prop} (hg : A.guards = some []) (hu : A.units + 100 < cLine)
    (hp : parse fmt.length fmt.length fmt = some ps) (hF : Flds prog w s.heap ps a.toList ts) (hN : weigh ps ts ≤ 16777216)
    (h : ∀ w'' num' h' tk, (∀ b o, s.heap.get? b = some o → h'.get? b = some o) → KPc.Good w'' (glue PySem.Str.empty ps ts) (weigh ps ts) → Q (w'', num') { s with heap := h', toks := tk }) :
    wpAny (model prog w) A (buildString "str.format" (some a) byName 2 fmt self .unset) Q E s := by
  unfold buildString
  refine wpAny_bind ?_
  rw [KPc.range_list]
  refine loop_of (a := a) (n0 := fmt.length) hg hu ?_ ?_ ?_ _ ps a.toList ts fmt {} .unset 0 PySem.Str.empty 0 s _ (by rw [List.length_range']; exact hp) KPc.good0 (.inl ⟨rfl, rfl⟩) (by simp) hF (by omega) ?_
  · intro x w' num s Q hQ
    exact wpAny_ite (KPc.ite_yes rfl (wpAny_pure hQ))
  · intro x w' num c r lit rest s Q hs hm hn0 hQ
    dsimp only
    rw [hs, hm]
    dsimp only
    rw [hn0]
    exact wpAny_ite (KPc.ite_no (by simp) (wpAny_ite (KPc.ite_no (by simp) (wpAny_pure (hQ _ (KPc.obj_none (by simp)))))))
  · intro x w' num i c r lit rest fl v t s Q hs hm hn0 hc1 hc2 hc3 hnum hi hf hQ
    dsimp only
    rw [hs, hm]
    dsimp only
    rw [hn0, hc1, hc2, hc3]
    refine wpAny_ite (KPc.ite_no (by simp) (wpAny_ite (KPc.ite_no (by simp) ?_)))
    refine wpAny_bind (KFm.field_auto hnum hi ?_)
    refine wpAny_bind (wpAny_holding ?_)
    refine wpAny_mono (hf A E s (fun v s' => ∃ h' u tk, (∀ b o, s.heap.get? b = some o → h'.get? b = some o) ∧ v = .str t u ∧ s' = { s with heap := h', toks := tk }) hg hu (fun _ _ e => e) (fun h' u tk k => ⟨h', u, tk, k, rfl, rfl⟩)) (fun obj s1 z => ?_) (fun _ _ e => e)
    refine wpAny_ite (KPc.ite_no (by simp) ?_)
    refine wpAny_bind (wpAny_pure ?_)
    refine wpAny_bind (wpAny_holding ?_)
    refine wpAny_mono z (fun res s2 z2 => ?_) (fun _ _ e => e)
    obtain ⟨h', u, tk, k, rfl, rfl⟩ := z2
    refine wpAny_bind (wpAny_of_eq (a := some t) rfl ?_)
    dsimp only
    refine wpAny_pure (hQ _ _ h' tk k (KPc.obj_none (by simp)) ?_)
    by_cases hr : rest.isEmpty = true
    · rw [if_pos hr]; exact KPc.obj_some rfl
    · rw [if_neg hr]; exact KPc.obj_none rfl
  · intro w'' num' r' h' tk k g
    refine wpAny_pure (h w'' num' h' tk k ?_)
    simpa using g

theorem format_run {s : Shared} {fmt : PySem.Str} {t0 : Tok} {vs : List Value} {ps : List Piece} {ts : List PySem.Str} {T : PySem.Str} {Q : Value → Shared → Prop} (hg : A.guards = some []) (hu : A.units + 110 < cLine)
    (args : argsOk "str.format" ⟨.str fmt t0 :: vs, []⟩) (hp : parse fmt.cps.toList.length fmt.cps.toList.length fmt.cps.toList = some ps) (hF : Flds prog w s.heap ps vs ts) (hN : weigh ps ts ≤ 16777216) (hT : glue PySem.Str.empty ps ts = T)
    (h : ∀ h' u tk, (∀ b o, s.heap.get? b = some o → h'.get? b = some o) → Q (.str T u) { s with heap := h', toks := tk }) :
    wpAny (model prog w) A (call (.builtin "str.format") (.str fmt t0 :: vs)) Q E s := by
  have hsl := PySem.F.slot_str_format_m
  refine wpAny_call (codeAny_call_builtin hsl.plain PySem.F.entry_str_format_m (hsl.check _ _ _ _ _ _ _ _ (typeIs_str _ _ _) args ?_))
  unfold Builtin.«str.format»
  refine wpAny_bind (wpAny_of_eq (a := (_, _, _)) rfl ?_)
  refine wpAny_bind ?_
  refine build_run (a := vs.toArray) hg (by show A.units + 1 + 100 < cLine; omega) hp (by simpa using hF) hN ?_
  intro w'' num' h' tk k g
  refine KPc.finish_ok g hN hT ?_
  intro t k2
  exact h h' t k2 k
end
end Mine
end
section
open PySem PySem.W PyProof.Rows PySem.Calls PySem.Spec
set_option maxRecDepth 100000
set_option maxHeartbeats 400000
namespace Mine
theorem allBelow {news : List (Addr × Obj)} {d x : Nat} (h : ∀ p ∈ news, p.1 < d) (hx : d ≤ x) : ∀ p ∈ news, p.1 ≠ x := fun p hp => Nat.ne_of_lt (Nat.lt_of_lt_of_le (h p hp) hx)
/-- the heap bears the ledger -/
def Bears (h : Heap) (news : List (Addr × Obj)) : Prop := ∀ p ∈ news, h.get? p.1 = some p.2
theorem Bears.of {h₀ h : Heap} {L : Addr} {l news : List (Addr × Obj)} (N : News h₀ L h l) (hs : ∀ p ∈ news, p ∈ l) : Bears h news := fun p hp => (N p (hs p hp)).1
theorem Bears.keeps {h h' : Heap} {news : List (Addr × Obj)} (b : Bears h news) (k : ∀ b o, h.get? b = some o → h'.get? b = some o) : Bears h' news := fun p hp => k _ _ (b p hp)
/-- repr of v is t wherever the ledger stands -/
def ShowsN (prog : Program) (w : World) (news : List (Addr × Obj)) (v : Value) (t : PySem.Str) : Prop := t.length ≤ 100000 ∧ ∀ h, Bears h news → Shows prog w h v t
section
variable {prog : Program} {w : World} {A : Around} {E : Value → Shared → Prop} {s : Shared} {K : Frag} {x C : Addr} {h₀ : Heap} {L : Addr} {m : Str → Option Value} {name : Str} {v : Value} {news pre post : List (Addr × Obj)}
inductive AtL (x : Addr) (o : Obj) : List (Addr × Obj) → List (Addr × Obj) → List (Addr × Obj) → Prop
  | head {r} : (∀ p ∈ r, p.1 ≠ x) → AtL x o ((x, o) :: r) [] r
  | tail {p r pre post} : p.1 ≠ x → AtL x o r pre post → AtL x o (p :: r) (p :: pre) post
theorem AtL.split {x : Addr} {o : Obj} : ∀ {l pre post : List (Addr × Obj)}, AtL x o l pre post → l = pre ++ (x, o) :: post ∧ (∀ p ∈ pre, p.1 ≠ x) ∧ ∀ p ∈ post, p.1 ≠ x
  | _, _, _, .head h => ⟨rfl, (fun _ h => (nomatch h)), h⟩
  | _, _, _, .tail (p := p) h r =>
    let ⟨a, c, e⟩ := r.split
    ⟨by rw [a]; rfl, (fun q hq => by rcases List.mem_cons.mp hq with rfl | hq; exact h; exact c q hq), e⟩
theorem instE {h₀ h : Heap} {L x C t dx : Addr} {od : Obj} {news : List (Addr × Obj)} (N : News h₀ L h news) (h1 : (x, excObj C t (some dx)) ∈ news) (h2 : (dx, od) ∈ news) : InstAt h x (excObj C t (some dx)) C (some od) :=
  ⟨(N _ h1).1, rfl, rfl, (N _ h2).1⟩
/-- the first store into an own exception -/
theorem setE_first {t0 : Addr} {Q : Unit → Shared → Prop}
    (F : Fr h₀ L s.heap m) (X₀ : K.In h₀) (N : News h₀ L s.heap news) (hA : AtL x (excObj C t0 none) news pre post)
    (hs : findIn K (.ref C) "__setattr__" = some (some (.builtin "object.__setattr__"))) (hp : excOver K C = true) (ht : takerIn K C name = some none) (hh : (clsIn K C).any (·.hasDict) = true)
    (h : ∀ dx h', Fr h₀ L h' m → News h₀ L h' ((dx, dictOf [⟨PyData.keyHash w.params name, .str name (s.toks + 1), v⟩] 1) :: (pre ++ (x, excObj C t0 (some dx)) :: post)) → (∀ p ∈ news, p.1 < dx) → Q () { s with heap := h', toks := s.toks + 2 }) :
    wpAny (model prog w) A (setAttr (.ref x) name v) Q E s := by
  obtain ⟨rfl, h1, h2⟩ := hA.split
  have X := X₀.keeps F.keep
  have hx := (N (x, excObj C t0 none) (by simp)).1
  have I : InstAt s.heap x (excObj C t0 none) C none := ⟨hx, rfl, rfl, trivial⟩
  refine setX_plain X I hs ?_
  exact osaX_first (s := { s with toks := s.toks + 1 }) F N X hp ht hh h1 h2 fun dx h' F' N' l => h dx h' F' N' l

theorem setE_dict {Q : Unit → Shared → Prop} {ox : Obj} {dx : Addr} {es es' : List DictEntry} {n n' : Nat} {news' : List (Addr × Obj)} (F : Fr h₀ L s.heap m) (X₀ : K.In h₀) (N : News h₀ L s.heap news) (I : InstAt s.heap x ox C (some (dictOf es n))) (hd : ox.dict = some dx)
    (hs : findIn K (.ref C) "__setattr__" = some (some (.builtin "object.__setattr__"))) (hp : excOver K C = true) (ht : takerIn K C name = some none) (hh : (clsIn K C).any (·.hasDict) = true) (hl : (getL name es).isSome = true)
    (e : (putL name (PyData.keyHash w.params name) (.str name (s.toks + 1)) v es, putN name es n) = (es', n')) (U : Upd dx (dictOf es n) (dictOf es' n') news news') (hz : es'.length ≤ 1000)
    (h : ∀ h', Fr h₀ L h' m → News h₀ L h' news' → Q () { s with heap := h', toks := s.toks + 2 }) :
    wpAny (model prog w) A (setAttr (.ref x) name v) Q E s := by
  obtain ⟨pre, post, rfl, rfl, a, b⟩ := U.split
  obtain ⟨e1, e2⟩ := Prod.mk.inj e
  exact setX_plain (X₀.keeps F.keep) I hs (osaX_dict (s := { s with toks := s.toks + 1 }) F N (X₀.keeps F.keep) I hd hp ht hh hl a b (by rw [putName_dict, e1, e2]) rfl hz fun h' F' N' => h h' F' N')

theorem setE_args {t0 t1 : Addr} {d : Option Addr} {od : Option Obj} {vs : List Value} {k : Nat} {Q : Unit → Shared → Prop} {news' : List (Addr × Obj)} (F : Fr h₀ L s.heap m) (X₀ : K.In h₀) (N : News h₀ L s.heap news)
    (I : InstAt s.heap x (excObj C t0 d) C od) (hsub : subIn K (.ref C) (.type "BaseException") = some true)
    (hs : findIn K (.ref C) "__setattr__" = some (some (.builtin "object.__setattr__"))) (hp : excOver K C = true) (ht : takerIn K C "args" = some (some (.builtin "BaseException.args")))
    (U : Upd x (excObj C t0 d) (excObj C t1 d) news news') (hv : (t1, ({ cls := .type "tuple", data := .seq vs.toArray k } : Obj)) ∈ news)
    (h : ∀ h', Fr h₀ L h' m → News h₀ L h' news' → Q () { s with heap := h', toks := s.toks + 1 }) :
    wpAny (model prog w) A (setAttr (.ref x) "args" (.ref t1)) Q E s := by
  have ht1 := (N _ hv).1
  obtain ⟨pre, post, rfl, rfl, a, b⟩ := U.split
  exact setX_plain (X₀.keeps F.keep) I hs (osaX_args (s := { s with toks := s.toks + 1 }) F N (X₀.keeps F.keep) I hsub hp ht a b ht1 fun h' F' N' => h h' F' N')

theorem exInit_N {t0 : Addr} {d : Option Addr} {od : Option Obj} {Q : Value → Shared → Prop} (F : Fr h₀ L s.heap m) (X₀ : K.In h₀) (N : News h₀ L s.heap news) (I : InstAt s.heap x (excObj C t0 d) C od) (hsub : subIn K (.ref C) (.type "Exception") = some true) (hov : excOver K C = true)
    (hA : AtL x (excObj C t0 d) news pre post)
    (h : ∀ t1 h', Fr h₀ L h' m → News h₀ L h' ((t1, tupObj [v]) :: (pre ++ (x, excObj C t1 d) :: post)) → (∀ p ∈ news, p.1 < t1) → Q .none { s with heap := h' }) :
    wpAny (model prog w) A (call (.builtin "Exception.__init__") [.ref x, v]) Q E s := by
  obtain ⟨rfl, h1, h2⟩ := hA.split
  exact exInit_K F N (X₀.keeps F.keep) I hsub hov h1 h2 h

theorem getE_own {ox : Obj} {es : List DictEntry} {n : Nat} {expr : Bool} {Q : Value → Shared → Prop} {attr : Option Value} (F : Fr h₀ L s.heap m) (X₀ : K.In h₀) (I : InstAt s.heap x ox C (some (dictOf es n))) (hg : excGet K C = true) (hh : (clsIn K C).any (·.hasDict) = true)
    (ha : findIn K (.ref C) name = some attr) (hn : noGet K attr = true) (hl : getL name es = some (some v)) (hv : handedIn v = true) (h : Q v { s with toks := s.toks + 1 }) :
    wpAny (model prog w) A (getAttr (.ref x) name expr) Q E s :=
  getX_value (X₀.keeps F.keep) I hg (findObj_own hh ha hn hl) hv h

theorem getE_args {t0 : Addr} {d : Option Addr} {od : Option Obj} {expr : Bool} {Q : Value → Shared → Prop} (F : Fr h₀ L s.heap m) (X₀ : K.In h₀) (I : InstAt s.heap x (excObj C t0 d) C od) (hg : excGet K C = true)
    (hf : findObj K C od "args" = some (.bind (.builtin "getset_descriptor.__get__") (.builtin "BaseException.args")))
    (h : Q (.ref t0) { s with toks := s.toks + 1 }) : wpAny (model prog w) A (getAttr (.ref x) "args" expr) Q E s :=
  getX_args (X₀.keeps F.keep) I hg hf rfl rfl h

theorem hasattrE {ox : Obj} {od : Option Obj} {tk : Tok} {Q : Value → Shared → Prop} (F : Fr h₀ L s.heap m) (X₀ : K.In h₀) (N : News h₀ L s.heap news) (hA : A.handled = none) (I : InstAt s.heap x ox C od) (hg : excGet K C = true) (hmod : subIn K (.ref C) (.type "module") = some false)
    (hf : findObj K C od name = some .missing) (hnm : nameOk K C = true) (hn : name.length ≤ 100)
    (h : ∀ h' tk', Fr h₀ L h' m → News h₀ L h' news → Q (.bool false) { s with heap := h', toks := tk' }) : wpAny (model prog w) A (call (.builtin "hasattr") [.ref x, .str name tk]) Q E s :=
  hasattr_miss F N hA (X₀.keeps F.keep) I hg hmod hf hnm hn h

abbrev fmt1 : PySem.Str := PySem.Str.ofString "Bad value substitution: option {!r} in section {!r} contains an interpolation key {!r} which is not a valid option name. Raw value: {!r}"
abbrev told1 (t1 t2 t3 t4 : PySem.Str) : PySem.Str := PySem.Str.ofString "Bad value substitution: option " ++ t1 ++ PySem.Str.ofString " in section " ++ t2 ++ (PySem.Str.ofString " contains an interpolation key " ++ t3) ++ (PySem.Str.ofString " which is not a valid option name. Raw value: " ++ t4)
def pieces1 : List Piece := [((PySem.Str.ofString "Bad value substitution: option ").cps.toList, some (some 114)), ((PySem.Str.ofString " in section ").cps.toList, some (some 114)), ((PySem.Str.ofString " contains an interpolation key ").cps.toList, some (some 114)), ((PySem.Str.ofString " which is not a valid option name. Raw value: ").cps.toList, some (some 114))]
theorem parse1 : parse fmt1.cps.toList.length fmt1.cps.toList.length fmt1.cps.toList = some pieces1 := by decide +kernel
theorem mk_toList (x : PySem.Str) : (PySem.Str.mk x.cps.toList.toArray) = x := by simp
theorem glue1 (t1 t2 t3 t4 : PySem.Str) : glue PySem.Str.empty pieces1 [t1, t2, t3, t4] = told1 t1 t2 t3 t4 := by
  simp only [glue, pieces1, told1, mk_toList, PySem.Str.empty_append, PySem.Str.append_assoc]
theorem weigh1 {t1 t2 t3 t4 : PySem.Str} (l1 : t1.length ≤ 100000) (l2 : t2.length ≤ 100000) (l3 : t3.length ≤ 100000) (l4 : t4.length ≤ 100000) : weigh pieces1 [t1, t2, t3, t4] ≤ 500000 := by
  have e1 : (PySem.Str.ofString "Bad value substitution: option ").cps.toList.length = 31 := by decide +kernel
  have e2 : (PySem.Str.ofString " in section ").cps.toList.length = 12 := by decide +kernel
  have e3 : (PySem.Str.ofString " contains an interpolation key ").cps.toList.length = 31 := by decide +kernel
  have e4 : (PySem.Str.ofString " which is not a valid option name. Raw value: ").cps.toList.length = 46 := by decide +kernel
  simp only [weigh, pieces1, e1, e2, e3, e4]; omega
theorem args_5 (a b c d e : Value) : argsOk "str.format" ⟨[a, b, c, d, e], []⟩ := by
  unfold argsOk; rw [signature?_of (id := "str.format") (n := ['t', 'a', 'm', 'r', 'o', 'f']) (o := ['r', 't', 's']) (by kernel_rfl) PySem.F.owner_str]; kernel_rfl
theorem fmt1_N {news0 : List (Addr × Obj)} {t0 : Tok} {v1 v2 v3 v4 : Value} {t1 t2 t3 t4 : PySem.Str} {Q : Value → Shared → Prop} (F : Fr h₀ L s.heap m) (N : News h₀ L s.heap news) (hs : ∀ p ∈ news0, p ∈ news) (hg : A.guards = some []) (hu : A.units + 120 < cLine)
    (s1 : ShowsN prog w news0 v1 t1) (s2 : ShowsN prog w news0 v2 t2) (s3 : ShowsN prog w news0 v3 t3) (s4 : ShowsN prog w news0 v4 t4)
    (h : ∀ h' u tk, Fr h₀ L h' m → News h₀ L h' news → Q (.str (told1 t1 t2 t3 t4) u) { s with heap := h', toks := tk }) :
    wpAny (model prog w) A (call (.builtin "str.format") [.str fmt1 t0, v1, v2, v3, v4]) Q E s := by
  have B := Bears.of N hs
  refine format_run hg (by omega) (args_5 _ _ _ _ _) parse1 (.fld (.repr (s1.2 _ B)) (.fld (.repr (s2.2 _ B)) (.fld (.repr (s3.2 _ B)) (.fld (.repr (s4.2 _ B)) .nil)))) (Nat.le_trans (weigh1 s1.1 s2.1 s3.1 s4.1) (by decide)) (glue1 t1 t2 t3 t4) (fun h' u tk k => h h' u tk (F.keeps k) (N.grown k))
end
end Mine
end
section
open PySem PySem.W PyProof.Rows PySem.Calls PySem.Spec
set_option maxRecDepth 100000
set_option maxHeartbeats 400000
namespace Mine
/-- what a turn's end owes: the iterator's own entries kept, and the word for the next turn -/
def TurnNext (h₀ : Heap) (L : Addr) (I : Addr) (own : List (Addr × Obj)) (Jn : (PySem.Str → Option Value) → List (Addr × Obj) → Prop) (s s₂ : Shared) : Prop :=
  ∃ h' tk m' nx, s₂ = { s with heap := h', toks := tk } ∧ Fr h₀ L h' m' ∧ News h₀ L h' (own ++ nx) ∧ (∀ p ∈ nx, p.1 ≠ I) ∧ Jn m' nx
def TurnQ (h₀ : Heap) (L : Addr) (I : Addr) (own : List (Addr × Obj)) (Jn : (PySem.Str → Option Value) → List (Addr × Obj) → Prop) (s : Shared) (Q : Flow → Shared → Prop) (f : Flow) (s₂ : Shared) : Prop :=
  match f with
  | .ret v => Q (.ret v) s₂
  | .brk => Q .next s₂
  | _ => TurnNext h₀ L I own Jn s s₂
section
variable {prog : Program} {w : World} {A : Around} {E : Value → Shared → Prop} {s : Shared} {env : Env} {h₀ : Heap} {L : Addr} {Q : Flow → Shared → Prop} {target : Expr} {body : List Stmt} {m : PySem.Str → Option Value} {news : List (Addr × Obj)}
theorem forOwn {I : Addr} {n : Nat} {P : Nat → Value → Prop} {St : Nat → Heap → Prop} (W : Walks prog w A I [I] [I] n P St) (hI : h₀.get? I = none) (hL : L ≠ I) (hst : St 0 s.heap) (F : Fr h₀ L s.heap m) (N : News h₀ L s.heap news) (hnw : ∀ p ∈ news, p.1 ≠ I)
    (hgone : ∀ i h, St i h → ∃ o, h.get? I = some o)
    (J : Nat → (PySem.Str → Option Value) → List (Addr × Obj) → Prop) (h0 : J 0 m news)
    (turn : ∀ i v m₁ nx h tk oI, i < n → P i v → J i m₁ nx → (∀ p ∈ nx, p.1 ≠ I) → Fr h₀ L h m₁ → News h₀ L h ((I, oI) :: nx) →
      wpAny (model prog w) A (assign target env v) (fun _ s₁ => wpAny (model prog w) A (execs body env) (TurnQ h₀ L I [(I, oI)] (J (i + 1)) s Q) E s₁) E { s with heap := h, toks := tk })
    (done : ∀ m₁ nx h tk, J n m₁ nx → Fr h₀ L h m₁ → News h₀ L h nx → Q .next { s with heap := h, toks := tk })
    (hE : PassesOwn (model prog w) A env E) (ht : ∀ v, letOwnedTupleGo target (.ref I) v = pure ()) :
    codeAny (model prog w) A (.forLoop target (.ref I) body [] env) (fun r s' => match r with | .ok f => Q f s' | .error e => cameBackBy (model prog w) A env E e s') s := by
  refine codeAny_forLoop
    (fun k s' => ∃ h' tk m' nx i, s' = { s with heap := h', toks := tk } ∧ St i h' ∧ Fr h₀ L h' m' ∧ News h₀ L h' nx ∧ (∀ p ∈ nx, p.1 ≠ I) ∧ J i m' nx ∧ i ≤ n ∧ k = n + 1 - i) ?_ (n + 1)
    ⟨s.heap, s.toks, m, news, 0, rfl, hst, F, N, hnw, h0, Nat.zero_le _, rfl⟩ ht
  rintro k s' ⟨h', tk, m', nx, i, rfl, hst', F', N', hnw', hJ, hi, rfl⟩
  have next : ∀ h₁ : Heap, (∀ b o, b ∉ [I] → h'.get? b = some o → h₁.get? b = some o) → Fr h₀ L h₁ m' ∧ News h₀ L h₁ nx := fun h₁ hk₁ =>
    ⟨⟨F'.ns.at' fun o e => hk₁ _ o (by simpa using hL) e, fun b o e => hk₁ b o (by
      intro hb; rw [List.mem_singleton.mp hb, hI] at e; cases e) (F'.keep b o e), F'.above⟩, fun p hp => ⟨hk₁ _ _ (by simpa using hnw' p hp) (N' p hp).1, (N' p hp).2⟩⟩
  by_cases hlt : i < n
  · refine W.item i _ _ _ hlt hst' fun v h₁ tk₁ hP hst₁ hk₁ => ?_
    obtain ⟨F₁, N₁⟩ := next h₁ hk₁
    obtain ⟨oI, hoI⟩ := hgone _ _ hst₁
    have N₂ : News h₀ L h₁ ((I, oI) :: nx) := fun p hp => by
      rcases List.mem_cons.mp hp with rfl | hp
      · exact ⟨hoI, Ne.symm hL, hI⟩
      · exact N₁ p hp
    dsimp only
    refine wpAny_passesOwn hE (wpAny_mono (turn i v m' nx h₁ tk₁ oI hlt hP hJ hnw' F₁ N₂) (fun _ s₁ z => wpAny_passesOwn hE (wpAny_mono z (fun f s₂ q => ?_) fun _ _ e => e)) fun _ _ e => e)
    have fin : TurnNext h₀ L I [(I, oI)] (J (i + 1)) s s₂ → ∃ k', k' < n + 1 - i ∧ ∃ h' tk m' nx j, s₂ = { s with heap := h', toks := tk } ∧ St j h' ∧ Fr h₀ L h' m' ∧ News h₀ L h' nx ∧ (∀ p ∈ nx, p.1 ≠ I) ∧ J j m' nx ∧ j ≤ n ∧ k' = n + 1 - j := by
      rintro ⟨h₂, tk₂, m₂, nx₂, rfl, F₂, N₂', ha, hj⟩
      refine ⟨n + 1 - (i + 1), by omega, h₂, tk₂, m₂, nx₂, i + 1, rfl, W.frame _ _ _ hst₁ (fun b hb o e => ?_), F₂, fun p hp => N₂' p (List.mem_append_right _ hp), ha, hj, hlt, rfl⟩
      have hb' := List.mem_singleton.mp hb
      subst hb'
      rw [hoI] at e
      cases e
      exact (N₂' _ (List.mem_append_left _ (List.mem_singleton.mpr rfl))).1
    cases f with
    | ret v => exact q
    | brk => exact q
    | next => exact fin q
    | cont => exact fin q
  · have hin : i = n := by omega
    subst hin
    refine W.done _ _ _ hst' fun h₁ tk₁ hk₁ => ?_
    obtain ⟨F₁, N₁⟩ := next h₁ hk₁
    exact wpAny_execs_nil (done m' nx h₁ tk₁ hJ F₁ N₁)
end
end Mine
end
section
open PySem PySem.W PyProof.Rows PySem.Calls PySem.Spec Builtin Builtin.Str
set_option maxRecDepth 100000
set_option maxHeartbeats 400000
namespace Mine
/-- the signs that a text of ours may have: a line end, or printable ASCII -/
def okSign (c : Nat) : Prop := c = 10 ∨ (32 ≤ c ∧ c < 127)
def okText (x : PySem.Str) : Prop := ∀ c ∈ x.cps.toList, okSign c
theorem printable_tab : ∀ c : Fin 127, 32 ≤ c.val → Unicode.isPrintable c.val = true := by decide +kernel
theorem reprChar_esc {q c : Nat} (h : c = q ∨ c = 92) : reprChar q c = [92, c] := by
  unfold reprChar; rw [if_pos (by rcases h with h | h <;> simp [h])]
theorem reprChar_nl {q : Nat} (h : q ≠ 10) : reprChar q 10 = [92, 110] := by
  unfold reprChar; rw [if_neg (by simp; exact fun e => h e.symm), if_pos (by rfl)]
theorem reprChar_plain {q c : Nat} (h : okSign c) (h1 : c ≠ q) (h2 : c ≠ 92) (h3 : c ≠ 10) : reprChar q c = [c] := by
  have hp : Unicode.isPrintable c = true := by
    rcases h with h | h
    · exact absurd h h3
    · exact printable_tab ⟨c, h.2⟩ h.1
  unfold reprChar
  rw [if_neg (by simp [h1, h2]), if_neg (by simp [h3]), if_neg (by simp; rcases h with h | h <;> omega), if_neg (by simp; rcases h with h | h <;> omega), if_pos hp]
/-- what is written so far: the mark, and the signs -/
def wr (q : Nat) (l : List Nat) : PySem.Str := ⟨l.foldl (fun out c => out ++ (reprChar q c).toArray) #[q]⟩
theorem wr_nil (q : Nat) : wr q [] = ⟨#[q]⟩ := rfl
theorem wr_snoc (q : Nat) (l : List Nat) (c : Nat) : wr q (l ++ [c]) = wr q l ++ ⟨(reprChar q c).toArray⟩ := by
  unfold wr; rw [List.foldl_append]; rfl
theorem wr_end (x : PySem.Str) : wr (reprQuote x) x.cps.toList ++ ⟨#[reprQuote x]⟩ = reprText x := by
  unfold wr reprText
  rw [Array.foldl_toList]
  refine PySem.Str.ext' ?_
  rw [PySem.Str.cps_append]
  exact Array.push_eq_append.symm
theorem reprChar_le {q c : Nat} (h : okSign c) (hq : q ≠ 10) : (reprChar q c).length ≤ 2 := by
  by_cases h1 : c = q ∨ c = 92
  · rw [reprChar_esc h1]; simp
  · by_cases h3 : c = 10
    · subst h3; rw [reprChar_nl hq]; simp
    · rw [reprChar_plain h (fun e => h1 (.inl e)) (fun e => h1 (.inr e)) h3]; simp
theorem wr_size {q : Nat} (hq : q ≠ 10) : ∀ (l : List Nat) (acc : Array Nat), (∀ c ∈ l, okSign c) → (l.foldl (fun out c => out ++ (reprChar q c).toArray) acc).size ≤ acc.size + 2 * l.length
  | [], acc, _ => by simp
  | c :: l, acc, h => by
    have ih := wr_size hq l (acc ++ (reprChar q c).toArray) fun d hd => h d (by simp [hd])
    have h2 := reprChar_le (h c (by simp)) hq
    simp only [List.foldl_cons, Array.size_append, List.size_toArray, List.length_cons] at *
    omega
theorem wr_length {q : Nat} (hq : q ≠ 10) (l : List Nat) (h : ∀ c ∈ l, okSign c) : (wr q l).length ≤ 2 * l.length + 1 := by
  have := wr_size hq l #[q] h
  simp only [wr, PySem.Str.length]
  have e : (#[q] : Array Nat).size = 1 := rfl
  omega
theorem quote_ne (x : PySem.Str) : reprQuote x ≠ 10 := by unfold reprQuote; split <;> decide
theorem reprText_length {x : PySem.Str} (h : okText x) : (reprText x).length ≤ 2 * x.length + 2 := by
  rw [← wr_end, PySem.Str.length_append]
  have := wr_length (quote_ne x) x.cps.toList h
  simp only [PySem.Str.length, Array.length_toList] at *
  have : (#[reprQuote x] : Array Nat).size = 1 := rfl
  omega
section
variable {prog : Program} {w : World} {A : Around} {E : Value → Shared → Prop} {s : Shared} {env : Env} {h₀ : Heap} {L : Addr} {Q : Flow → Shared → Prop} {target : Expr} {body : List Stmt} {m : PySem.Str → Option Value} {news : List (Addr × Obj)}
theorem iter_text {xt : PySem.Str} {tx : Tok} (hh : A.handled = none) (F : Fr h₀ L s.heap m) (N : News h₀ L s.heap news)
    (J : Nat → (PySem.Str → Option Value) → List (Addr × Obj) → Prop) (h0 : J 0 m news)
    (turn : ∀ I i c t m₁ nx h tk oI, xt.cps[i]? = some c → J i m₁ nx → (∀ p ∈ nx, p.1 ≠ I) → Fr h₀ L h m₁ → News h₀ L h ((I, oI) :: nx) →
      wpAny (model prog w) A (assign target env (.str ⟨#[c]⟩ t)) (fun _ s₁ => wpAny (model prog w) A (execs body env) (TurnQ h₀ L I [(I, oI)] (J (i + 1)) s Q) E s₁) E { s with heap := h, toks := tk })
    (done : ∀ m₁ nx h tk, J xt.cps.size m₁ nx → Fr h₀ L h m₁ → News h₀ L h nx → Q .next { s with heap := h, toks := tk })
    (hE : PassesOwn (model prog w) A env E) (ht : ∀ it v, letOwnedTupleGo target it v = pure ()) :
    wpAny (model prog w) A (pyIter (.str xt tx)) (fun it s₂ => codeAny (model prog w) A (.forLoop target it body [] env) (fun r s' => match r with | .ok f => Q f s' | .error e => cameBackBy (model prog w) A env E e s') s₂) E s := by
  have mk : ∀ (o : Obj) (ha : o.isFreed = false) (St : Nat → Heap → Prop), Walks prog w A s.heap.objs.size [s.heap.objs.size] [s.heap.objs.size] xt.cps.size (SignAt xt) St → St 0 (s.heap.push o) → (∀ i h, St i h → ∃ o, h.get? s.heap.objs.size = some o) →
      codeAny (model prog w) A (.forLoop target (.ref s.heap.objs.size) body [] env) (fun r s' => match r with | .ok f => Q f s' | .error e => cameBackBy (model prog w) A env E e s') { s with heap := s.heap.push o } := by
    intro o ha St W hst hgone
    refine forOwn (s := { s with heap := s.heap.push o }) W ?_ (Nat.ne_of_lt F.ns.lt) hst (F.push o) (fun p hp => ⟨Heap.get?_push_of_some _ (N p hp).1, (N p hp).2⟩) (fun p hp => Nat.ne_of_lt (Heap.lt_size (N p hp).1)) hgone J h0 ?_ ?_ hE (ht _)
    · exact next_is_new F
    · rintro i v m₁ nx h tk oI hi ⟨c, t, hc, rfl⟩ hJ ha F₁ N₁
      exact turn _ i c t m₁ nx h tk oI hc hJ ha F₁ N₁
    · intro m₁ nx h tk hJ F₁ N₁
      exact done m₁ nx h tk hJ F₁ N₁
  cases ha : xt.cps.all (· < 128)
  · exact wpAny_pyIter_wide ha (mk _ rfl _ (Walks.strWide hh _ xt tx) ⟨_, Heap.get?_push_size _ rfl, rfl, rfl⟩ (fun i h x => let ⟨o, e, _⟩ := x; ⟨o, e⟩))
  · exact wpAny_pyIter_ascii ha (mk _ rfl _ (Walks.strAscii hh _ xt tx) ⟨_, Heap.get?_push_size _ rfl, rfl, rfl⟩ (fun i h x => let ⟨o, e, _⟩ := x; ⟨o, e⟩))
end
end Mine
end
section
open PySem PySem.W PyProof.Rows PySem.Calls PySem.Spec
namespace Mine
/-- a contract of a def of the text's: called with these, it gives back what «out» says; what it makes lies ahead of the ledger -/
def Callee (prog : Program) (K : Params → Frag) (p : Program) (w : World) (f : Addr) (D U : Nat) (args : List Value) (kw : List (PySem.Str × Value)) (rel : List (Addr × Obj) → Prop) (out : List (Addr × Obj) → Value → Prop) : Prop :=
   ∀ (loose : List PySem.Str) (mean : ExcName → Option Value) (mg mb : PySem.Str → Option Value) (dp un : Nat) (cn : PySem.Str) (cs : Scope) (a : Addr) (ccd : Value) (cl : List (PySem.Str × Addr)) (outer : List Env) (A₀ : Around) (base h₀ : Heap) (L : Addr) (m : PySem.Str → Option Value) (news : List (Addr × Obj)) (s : Shared) 
    (Q E : Value → Shared → Prop),
    Below A₀ base outer h₀ → Fr h₀ L s.heap m → (K w.params).In h₀ → News h₀ L s.heap news → Top p loose mean mg mb h₀ → cs.kind = .function → rel news → dp + D < recursionLimit → un + U < cLine →
    (∀ r tl h' tk', Fr h₀ L h' m → News h₀ L h' (tl ++ news) → (∀ p ∈ tl, ∀ q ∈ news, q.1 < p.1) → out tl r → Q r { s with heap := h', toks := tk' }) →
    wpAny (model prog w) (ktrTop dp un (some []) cn cs L a ccd cl outer) (call (.ref f) args kw) Q E s
theorem callee_use {prog : Program} {K : Params → Frag} {p : Program} {w : World} {f : Addr} {D U : Nat} {args : List Value} {kw : List (PySem.Str × Value)} {rel : List (Addr × Obj) → Prop} {out : List (Addr × Obj) → Value → Prop}
    (C : Callee prog K p w f D U args kw rel out)
    {loose : List PySem.Str} {mean : ExcName → Option Value} {mg mb : PySem.Str → Option Value} {dp un : Nat} {cn : PySem.Str} {cs : Scope} {a : Addr} {ccd : Value} {cl : List (PySem.Str × Addr)} {outer : List Env} {A₀ : Around} {base h₀ : Heap} {L : Addr} {m : PySem.Str → Option Value} {news : List (Addr × Obj)} {s : Shared}
    {Q E : Value → Shared → Prop}
    (B : Below A₀ base outer h₀) (F : Fr h₀ L s.heap m) (X : (K w.params).In h₀) (N : News h₀ L s.heap news) (T : Top p loose mean mg mb h₀) (hk : cs.kind = .function) (hr : rel news) (hd : dp + D < recursionLimit) (hu : un + U < cLine)
    (ret : ∀ r tl h' tk', Fr h₀ L h' m → News h₀ L h' (tl ++ news) → (∀ p ∈ tl, ∀ q ∈ news, q.1 < p.1) → out tl r → Q r { s with heap := h', toks := tk' }) :
    wpAny (model prog w) (ktrTop dp un (some []) cn cs L a ccd cl outer) (call (.ref f) args kw) Q E s := C _ _ _ _ _ _ _ _ _ _ _ _ _ _ _ _ _ _ _ _ _ B F X N T hk hr hd hu ret
end Mine
end
section
open PySem PySem.W PyProof.Rows PySem.Calls PySem.Spec Builtin Builtin.Str
set_option maxRecDepth 100000
set_option maxHeartbeats 400000
namespace Mine
def TextEnd (h₀ : Heap) (L : Addr) (I : Addr) (oI : Obj) (news : List (Addr × Obj)) (m₀ : PySem.Str → Option Value) (x y : PySem.Str) (T : PySem.Str) (s s₂ : Shared) : Prop :=
  ∃ h' tk m' k, s₂ = { s with heap := h', toks := tk } ∧ Fr h₀ L h' m' ∧ News h₀ L h' ((I, oI) :: news) ∧ m' y = some (.str T k) ∧ ∀ z, z ≠ x → z ≠ y → m' z = m₀ z
def TextQ (h₀ : Heap) (L : Addr) (I : Addr) (oI : Obj) (news : List (Addr × Obj)) (m₀ : PySem.Str → Option Value) (x y : PySem.Str) (T : PySem.Str) (s : Shared) (Q : Flow → Shared → Prop) (f : Flow) (s₂ : Shared) : Prop :=
  match f with
  | .ret v => Q (.ret v) s₂
  | .brk => Q .next s₂
  | _ => TextEnd h₀ L I oI news m₀ x y T s s₂
theorem TextEnd.intro {h₀ : Heap} {L : Addr} {I : Addr} {oI : Obj} {news : List (Addr × Obj)} {m₀ m' : PySem.Str → Option Value} {x y T T' : PySem.Str} {s : Shared} {h' : Heap} {tk k : Nat}
    (F : Fr h₀ L h' m') (N : News h₀ L h' ((I, oI) :: news)) (e : m' y = some (.str T' k)) (hT : T' = T) (hm : ∀ z, z ≠ x → z ≠ y → m' z = m₀ z) : TextEnd h₀ L I oI news m₀ x y T s { s with heap := h', toks := tk } :=
  ⟨h', tk, m', k, rfl, F, N, hT ▸ e, hm⟩
section
variable {prog : Program} {w : World} {A : Around} {E : Value → Shared → Prop} {s : Shared} {env : Env} {h₀ : Heap} {Q : Flow → Shared → Prop} {body : List Stmt} {m₀ : PySem.Str → Option Value} {news : List (Addr × Obj)}
theorem iter_text1 {xt : PySem.Str} {tx : Tok} {x y : PySem.Str} {px : Pos} {k0 : Tok} (P : Nat → PySem.Str) (hh : A.handled = none) (F : Fr h₀ env.locals s.heap m₀) (N : News h₀ env.locals s.heap news) (hy : m₀ y = some (.str (P 0) k0))
    (hx : env.kindOf x = some .local) (hp : (env.scope.kind == .class || (env.scope.kind == .module && env.locals != env.globals)) = false)
    (turn : ∀ I i c t k h tk oI, xt.cps[i]? = some c → (∀ p ∈ news, p.1 ≠ I) → Fr h₀ env.locals h (fun z => if z = x then some (.str ⟨#[c]⟩ t) else if z = y then some (.str (P i) k) else m₀ z) → News h₀ env.locals h ((I, oI) :: news) →
      wpAny (model prog w) A (execs body env) (TextQ h₀ env.locals I oI news m₀ x y (P (i + 1)) s Q) E { s with heap := h, toks := tk })
    (done : ∀ (u : Option Value) k h tk, Fr h₀ env.locals h (fun z => if z = x then u else if z = y then some (.str (P xt.cps.size) k) else m₀ z) → News h₀ env.locals h news → Q .next { s with heap := h, toks := tk })
    (hE : PassesOwn (model prog w) A env E) :
    wpAny (model prog w) A (pyIter (.str xt tx)) (fun it s₂ => codeAny (model prog w) A (.forLoop (.Name x px) it body [] env) (fun r s' => match r with | .ok f => Q f s' | .error e => cameBackBy (model prog w) A env E e s') s₂) E s := by
  have eqm : ∀ (m₁ : PySem.Str → Option Value) (T : PySem.Str) (k : Tok), m₁ y = some (.str T k) → (∀ z, z ≠ x → z ≠ y → m₁ z = m₀ z) → m₁ = fun z => if z = x then m₁ x else if z = y then some (.str T k) else m₀ z := by
    intro m₁ T k e1 e2
    funext z
    by_cases h1 : z = x
    · simp [h1]
    · by_cases h2 : z = y
      · subst h2; simp [h1, e1]
      · simp [h1, h2, e2 z h1 h2]
  refine iter_text hh F N (fun i m₁ nx => nx = news ∧ (∃ k, m₁ y = some (.str (P i) k)) ∧ ∀ z, z ≠ x → z ≠ y → m₁ z = m₀ z) ⟨rfl, ⟨k0, hy⟩, fun _ _ _ => rfl⟩ ?_ ?_ hE (fun it v => rfl)
  · rintro I i c t m₁ nx h tk oI hc ⟨rfl, ⟨k, e1⟩, e2⟩ ha F₁ N₁
    refine wpAny_assign_Name (wpAny_storeName_local hx F₁.ns (fun h₂ hn₂ hs₂ => ?_) hp)
    have F₂ := F₁.set hn₂ hs₂
    have e : (fun z => if z = x then some (Value.str ⟨#[c]⟩ t) else m₁ z) = fun z => if z = x then some (Value.str ⟨#[c]⟩ t) else if z = y then some (.str (P i) k) else m₀ z := by
      rw [eqm m₁ _ k e1 e2]
      funext z
      by_cases h1 : z = x <;> simp [h1]
    rw [e] at F₂
    refine wpAny_mono (turn I i c t k h₂ _ oI hc ha F₂ (N₁.set hs₂)) (fun f s₂ q => ?_) fun _ _ e => e
    have fin : TextEnd h₀ env.locals I oI nx m₀ x y (P (i + 1)) s s₂ → TurnNext h₀ env.locals I [(I, oI)] (fun m₁ nx' => nx' = nx ∧ (∃ k, m₁ y = some (.str (P (i + 1)) k)) ∧ ∀ z, z ≠ x → z ≠ y → m₁ z = m₀ z) s s₂ := by
      rintro ⟨h', tk', m', k', rfl, F', N', e1', e2'⟩
      exact ⟨h', tk', m', nx, rfl, F', N', ha, rfl, ⟨k', e1'⟩, e2'⟩
    cases f with
    | ret v => exact q
    | brk => exact q
    | next => exact fin q
    | cont => exact fin q
  · rintro m₁ nx h tk ⟨rfl, ⟨k, e1⟩, e2⟩ F₁ N₁
    rw [eqm m₁ _ k e1 e2] at F₁
    exact done (m₁ x) k h tk F₁ N₁
end
theorem occ_one (x : PySem.Str) (c : Nat) : (occurrences x ⟨#[c]⟩ 0 x.length 1).isEmpty = !x.cps.contains c := by
  have := StrLaws.found_one x c
  have e : x.cps.contains c = decide (c ∈ x.cps.toList) := by
    rw [← Array.contains_toList]
    simp
  rw [e, ← this, Bool.not_not]
theorem lit_q1 : PySem.Str.ofString "'" = ⟨#[39]⟩ := by decide +kernel
theorem lit_q2 : PySem.Str.ofString "\"" = ⟨#[34]⟩ := by decide +kernel
theorem quote_a {x : PySem.Str} (h : (occurrences x (PySem.Str.ofString "'") 0 x.length 1).isEmpty = true) : reprQuote x = 39 := by
  rw [lit_q1, occ_one] at h
  unfold reprQuote
  simp at h
  simp [h]
theorem quote_b {x : PySem.Str} (h2 : (occurrences x (PySem.Str.ofString "\"") 0 x.length 1).isEmpty = false) : reprQuote x = 39 := by
  rw [lit_q2, occ_one] at h2
  unfold reprQuote
  simp at h2
  simp [h2]
theorem quote_c {x : PySem.Str} (h : (occurrences x (PySem.Str.ofString "'") 0 x.length 1).isEmpty = false) (h2 : (occurrences x (PySem.Str.ofString "\"") 0 x.length 1).isEmpty = true) : reprQuote x = 34 := by
  rw [lit_q1, occ_one] at h
  rw [lit_q2, occ_one] at h2
  unfold reprQuote
  simp at h h2
  simp [h, h2]
end Mine
end
section
open PySem PySem.W PyProof.Rows PySem.Calls PySem.Spec Builtin Builtin.Str
set_option maxRecDepth 100000
set_option maxHeartbeats 400000
namespace Mine
/-- a plain value and its datum, at every heap -/
def RdV (v : Value) (d : PyData) : Prop := ∀ h, Reads h v d []
def ascii (x : PySem.Str) : Prop := ∀ c ∈ x.cps.toList, c < 128
def asciiB (x : PySem.Str) : Bool := x.cps.toList.all fun c => decide (c < 128)
theorem ascii_of {x : PySem.Str} (h : asciiB x = true) : ascii x := fun c hc => of_decide_eq_true (List.all_eq_true.mp h c hc)
theorem ascii_append {a b : PySem.Str} (ha : ascii a) (hb : ascii b) : ascii (a ++ b) := by
  intro c hc
  rw [PySem.Str.cps_append, Array.toList_append] at hc
  exact (List.mem_append.mp hc).elim (ha c) (hb c)
theorem ascii_ok {x : PySem.Str} (h : ascii x) : PyData.strOk x = true := by
  unfold PyData.strOk
  rw [← Array.all_toList, List.all_eq_true]
  intro c hc
  have := h c hc
  simp only [Bool.and_eq_true, Bool.or_eq_true, decide_eq_true_eq]
  omega
theorem okText_ascii {x : PySem.Str} (h : okText x) : ascii x := fun c hc => by
  rcases h c hc with h | h <;> omega
theorem reprChar_ascii {q c : Nat} (hq : q = 34 ∨ q = 39) (h : okSign c) : ∀ d ∈ reprChar q c, d < 128 := by
  intro d hd
  by_cases h1 : c = q ∨ c = 92
  · rw [reprChar_esc h1] at hd
    simp at hd
    omega
  · by_cases h3 : c = 10
    · subst h3; rw [reprChar_nl (by omega)] at hd; simp at hd; omega
    · rw [reprChar_plain h (fun e => h1 (.inl e)) (fun e => h1 (.inr e)) h3] at hd
      simp at hd
      rcases h with h | h <;> omega
theorem fold_ascii {q : Nat} (hq : q = 34 ∨ q = 39) : ∀ (l : List Nat) (acc : Array Nat), (∀ c ∈ l, okSign c) → (∀ d ∈ acc.toList, d < 128) → ∀ d ∈ (l.foldl (fun out c => out ++ (reprChar q c).toArray) acc).toList, d < 128
  | [], acc, _, ha => ha
  | c :: l, acc, h, ha => fold_ascii hq l _ (fun d hd => h d (.tail _ hd)) (fun d hd => by
      rw [Array.toList_append] at hd
      exact (List.mem_append.mp hd).elim (ha d) (reprChar_ascii hq (h c (.head _)) d))
theorem quote_is (x : PySem.Str) : reprQuote x = 34 ∨ reprQuote x = 39 := by unfold reprQuote; split <;> simp
theorem reprText_ascii {x : PySem.Str} (h : okText x) : ascii (reprText x) := by
  rw [← wr_end]
  refine ascii_append (fold_ascii (quote_is x) _ _ h ?_) ?_
  · intro d hd; simp at hd; rcases quote_is x with e | e <;> omega
  · intro d hd; simp at hd; rcases quote_is x with e | e <;> omega
def flatD : PyData → Prop
  | .none | .bool _ | .int _ => True
  | .str x => ascii x
  | _ => False
theorem flat_canLay {d : PyData} (h : flatD d) : d.canLay0 = true := by
  cases d <;> first | rfl | cases h | (rw [PyData.canLay0]; exact ascii_ok h)
theorem flat_depth {d : PyData} (h : flatD d) : d.depth = 0 := by cases d <;> first | rfl | cases h | simp [PyData.depth]
theorem flats_canLay : ∀ {l : List PyData}, (∀ d ∈ l, flatD d) → PyData.canLayAll0 l = true
  | [], _ => by simp [PyData.canLayAll0]
  | d :: l, h => by simp only [PyData.canLayAll0, flat_canLay (h d (.head _)), flats_canLay fun e he => h e (.tail _ he), Bool.and_self]
theorem flats_depth : ∀ {l : List PyData}, (∀ d ∈ l, flatD d) → PyData.depthAll l = 0
  | [], _ => by simp [PyData.depthAll]
  | d :: l, h => by simp only [PyData.depthAll, flat_depth (h d (.head _)), flats_depth fun e he => h e (.tail _ he)]; rfl
theorem shaped_list {l : List PyData} (h : ∀ d ∈ l, flatD d) : SeqAt.shaped (.list l) = true := by
  simp only [SeqAt.shaped, PyData.canLay0, PyData.depth, flats_canLay h, flats_depth h]; decide
theorem shaped_tuple {l : List PyData} (h : ∀ d ∈ l, flatD d) : SeqAt.shaped (.tuple l) = true := by
  simp only [SeqAt.shaped, PyData.canLay0, PyData.depth, flats_canLay h, flats_depth h]; decide
section
variable {prog : Program} {w : World} {A : Around} {E : Value → Shared → Prop} {s : Shared}
theorem ne_same {a b : Value} {d : PyData} {as bs : List Addr} {Q : Value → Shared → Prop} (ra : Reads s.heap a d as) (rb : Reads s.heap b d bs) (hs : SeqAt.shaped d = true) (hu : A.units + 64 < cLine)
    (h : Q (.bool false) s) : wpAny (model prog w) A (compareOp .NotEq a b) Q E s :=
  ne_dataH ra rb hs hs hu (by rw [SeqAt.eqv_refl d (SeqAt.canLay_of_shaped hs)]; exact h)
theorem eq_same {a b : Value} {d : PyData} {as bs : List Addr} {Q : Value → Shared → Prop} (ra : Reads s.heap a d as) (rb : Reads s.heap b d bs) (hs : SeqAt.shaped d = true) (hu : A.units + 64 < cLine)
    (h : Q (.bool true) s) : wpAny (model prog w) A (compareOp .Eq a b) Q E s :=
  eq_dataH ra rb hs hs hu (by rw [SeqAt.eqv_refl d (SeqAt.canLay_of_shaped hs)]; exact h)
theorem rd_list {h₀ h : Heap} {L a : Addr} {vs : Array Value} {n : Nat} {ds : List PyData} {as : List Addr} {news : List (Addr × Obj)} (N : News h₀ L h news) (hm : (a, listOf vs n) ∈ news) (hr : ReadsAll h vs.toList ds as) : Reads h (.ref a) (.list ds) (a :: as) :=
  .list (N _ hm).1 rfl rfl hr
theorem rd_tuple {h₀ h : Heap} {L a : Addr} {vs : Array Value} {n : Nat} {ds : List PyData} {as : List Addr} {news : List (Addr × Obj)} (N : News h₀ L h news) (hm : (a, ({ cls := .type "tuple", data := .seq vs n } : Obj)) ∈ news) (hr : ReadsAll h vs.toList ds as) : Reads h (.ref a) (.tuple ds) as :=
  .tuple (N _ hm).1 rfl rfl hr
end
/-- the values of law 01, and the datum of each -/
def ValOk (v : Value) (d : PyData) : Prop := (v = .none ∧ d = .none) ∨ (∃ n k, v = .int n k ∧ 0 ≤ n ∧ n < 1000 ∧ d = .int n) ∨ (∃ x k, v = .str x k ∧ okText x ∧ x.length ≤ 100 ∧ d = .str x)
theorem ValOk.rd {v : Value} {d : PyData} (h : ValOk v d) : RdV v d := by
  rcases h with ⟨rfl, rfl⟩ | ⟨n, k, rfl, _, _, rfl⟩ | ⟨x, k, rfl, _, _, rfl⟩ <;> intro h
  · exact .none
  · exact .int _ _
  · exact .str _ _
theorem ValOk.flat {v : Value} {d : PyData} (h : ValOk v d) : flatD d := by
  rcases h with ⟨rfl, rfl⟩ | ⟨n, k, rfl, _, _, rfl⟩ | ⟨x, k, rfl, hx, _, rfl⟩
  · trivial
  · trivial
  · exact okText_ascii hx
theorem small_log {n : Int} (h0 : 0 ≤ n) (h1 : n < 1000) : n.natAbs.log2 < 1920 := by
  have h : n.natAbs < 2 ^ 10 := by omega
  by_cases hz : n.natAbs = 0
  · rw [hz]; decide
  · exact Nat.lt_of_lt_of_le ((Nat.log2_lt hz).2 h) (by decide)
theorem int_ascii (n : Int) : ascii (PySem.Str.ofString (toString n)) := by
  intro c hc
  rw [signs_ofString] at hc
  obtain ⟨ch, hch, rfl⟩ := List.mem_map.mp hc
  rcases int_sign n ch hch with h | h
  · have := digit_range h; omega
  · subst h; decide
theorem ValOk.shown_ascii {v : Value} {d : PyData} (h : ValOk v d) : ascii d.shown := by
  rcases h with ⟨rfl, rfl⟩ | ⟨n, k, rfl, h0, h1, rfl⟩ | ⟨x, k, rfl, hx, hl, rfl⟩
  · rw [PyData.shown_none]; exact ascii_of (by decide +kernel)
  · rw [PyData.shown_int]; exact int_ascii n
  · rw [PyData.shown_str]; exact reprText_ascii hx
theorem ValOk.shows {prog : Program} {w : World} {news : List (Addr × Obj)} {v : Value} {d : PyData} (h : ValOk v d) : ShowsN prog w news v d.shown := by
  rcases h with ⟨rfl, rfl⟩ | ⟨n, k, rfl, h0, h1, rfl⟩ | ⟨x, k, rfl, hx, hl, rfl⟩
  · rw [PyData.shown_none]; exact ⟨by decide, fun _ _ => Shows.none⟩
  · rw [PyData.shown_int]
    refine ⟨?_, fun _ _ => Shows.int n k (small_log h0 h1)⟩
    have := toString_length_le h0 (k := 3) (by decide) h1
    exact Nat.le_trans this (by decide)
  · rw [PyData.shown_str]
    have := reprText_length hx
    exact ⟨by omega, fun _ _ => Shows.str x k (by rw [sizeLine_eq]; omega)⟩
end Mine
end
section
open PySem PySem.W PyProof.Rows PySem.Calls PySem.Spec
set_option maxRecDepth 100000
set_option maxHeartbeats 400000
namespace Mine
section
variable {prog : Program} {w : World} {A : Around} {E : Value → Shared → Prop} {s : Shared} {env : Env} {h₀ : Heap} {L : Addr} {Q : Flow → Shared → Prop} {target : Expr} {body : List Stmt} {m : PySem.Str → Option Value} {news : List (Addr × Obj)}
theorem iter_range {r : Addr} {a b c : Int} {t₀ u₀ v₀ : Tok} {n : Nat} (hh : A.handled = none) (hr : IsRange s.heap r a b c t₀ u₀ v₀) (hsmall : Builtin.Range.small a b c = true) (hn : Builtin.Range.rangeSize a b c = (n : Int)) (F : Fr h₀ L s.heap m) (N : News h₀ L s.heap news)
    (J : Nat → (PySem.Str → Option Value) → List (Addr × Obj) → Prop) (h0 : J 0 m news)
    (turn : ∀ I i t m₁ nx h tk oI, i < n → J i m₁ nx → (∀ p ∈ nx, p.1 ≠ I) → Fr h₀ L h m₁ → News h₀ L h ((I, oI) :: nx) →
      wpAny (model prog w) A (assign target env (.int (a + (i : Int) * c) t)) (fun _ s₁ => wpAny (model prog w) A (execs body env) (TurnQ h₀ L I [(I, oI)] (J (i + 1)) s Q) E s₁) E { s with heap := h, toks := tk })
    (done : ∀ m₁ nx h tk, J n m₁ nx → Fr h₀ L h m₁ → News h₀ L h nx → Q .next { s with heap := h, toks := tk })
    (hE : PassesOwn (model prog w) A env E) (ht : ∀ it v, letOwnedTupleGo target it v = pure ()) :
    wpAny (model prog w) A (pyIter (.ref r)) (fun it s₂ => codeAny (model prog w) A (.forLoop target it body [] env) (fun r s' => match r with | .ok f => Q f s' | .error e => cameBackBy (model prog w) A env E e s') s₂) E s := by
  refine wpAny_pyIter_range hr hsmall ?_
  have hst : IsRangeIter (s.heap.push { cls := .type "range_iterator", data := .fields #[rawInt a, rawInt (Builtin.Range.rangeSize a b c), rawInt c] }) s.heap.objs.size (a + ((0 : Nat) : Int) * c) ((n : Int) - ((0 : Nat) : Int)) c := by
    show IsRangeIter _ _ _ _ _; rw [hn]; simpa using Heap.get?_push_size _ rfl
  refine forOwn (s := { s with heap := s.heap.push _ }) (Walks.range hh s.heap.objs.size a c n).bound ?_ (Nat.ne_of_lt F.ns.lt) hst (F.push _) (fun p hp => ⟨Heap.get?_push_of_some _ (N p hp).1, (N p hp).2⟩) (fun p hp => Nat.ne_of_lt (Heap.lt_size (N p hp).1)) (fun i h x => ⟨_, x⟩) J h0 ?_ ?_ hE (ht _)
  · exact next_is_new F
  · rintro i v m₁ nx h tk oI hi ⟨_, t, rfl⟩ hJ ha F₁ N₁
    exact turn _ i t m₁ nx h tk oI hi hJ ha F₁ N₁
  · intro m₁ nx h tk hJ F₁ N₁
    exact done m₁ nx h tk hJ F₁ N₁
end
theorem range4 (b : Int) : Builtin.Range.rangeSize 0 b 4 = if 0 < b then (b - 1) / 4 + 1 else 0 := by
  unfold Builtin.Range.rangeSize
  simp only [show (4 : Int) > 0 by decide, if_true, Int.sub_zero]
theorem small_step4 {b : Int} (h0 : 0 ≤ b) (h1 : b ≤ 1000) : Builtin.Range.small 0 b 4 = true := by
  unfold Builtin.Range.small
  rw [range4]
  simp only [Builtin.Range.rangeFitsLong, Bool.and_eq_true, Bool.or_eq_true, decide_eq_true_eq, beq_iff_eq, show (4 : Int) > 0 by decide, if_true]
  split <;> omega
theorem size_step4 {b : Int} (h0 : 0 ≤ b) : Builtin.Range.rangeSize 0 b 4 = (((b + 3) / 4).toNat : Int) := by
  rw [range4]; split <;> omega
end Mine
end
section
open PySem PySem.W PyProof.Rows PySem.Calls PySem.Spec
set_option maxRecDepth 100000
set_option maxHeartbeats 400000
namespace Mine
/-- the ledger of the law at a turn's head: the numbers, and the cell of the counter with whatever it bears -/
def LawJ (p1 p2 p3 p4 : Addr × Obj) (c : Addr) (m : PySem.Str → Option Value) (nx : List (Addr × Obj)) : Prop := ∃ o1 v1, o1.data = .cell v1 ∧ nx = [p1, p2, p3, (c, o1), p4]
section
variable {prog : Program} {w : World} {A : Around} {E : Value → Shared → Prop} {s : Shared} {env : Env} {h₀ : Heap} {L : Addr} {Q : Flow → Shared → Prop} {target : Expr} {body : List Stmt} {m : PySem.Str → Option Value}
theorem iter_law {r : Addr} {a b st : Int} {t₀ u₀ v₀ : Tok} {n : Nat} {p1 p2 p3 p4 : Addr × Obj} {c : Addr} {o : Obj} {v0 : Option Value} (hh : A.handled = none) (hr : IsRange s.heap r a b st t₀ u₀ v₀) (hsmall : Builtin.Range.small a b st = true) (hn : Builtin.Range.rangeSize a b st = (n : Int)) (F : Fr h₀ L s.heap m) (N : News h₀ L s.heap [p1, p2, p3, (c, o), p4]) (hd : o.data = .cell v0)
    (turn : ∀ I i t m₁ h tk oI o1 v1, i < n → o1.data = .cell v1 → (p1.1 ≠ I ∧ p2.1 ≠ I ∧ p3.1 ≠ I ∧ c ≠ I ∧ p4.1 ≠ I) → Fr h₀ L h m₁ → News h₀ L h [(I, oI), p1, p2, p3, (c, o1), p4] →
      wpAny (model prog w) A (assign target env (.int (a + (i : Int) * st) t)) (fun _ s₁ => wpAny (model prog w) A (execs body env) (TurnQ h₀ L I [(I, oI)] (LawJ p1 p2 p3 p4 c) s Q) E s₁) E { s with heap := h, toks := tk })
    (done : ∀ m₁ h tk o1 v1, o1.data = .cell v1 → Fr h₀ L h m₁ → News h₀ L h [p1, p2, p3, (c, o1), p4] → Q .next { s with heap := h, toks := tk })
    (hE : PassesOwn (model prog w) A env E) (ht : ∀ it v, letOwnedTupleGo target it v = pure ()) :
    wpAny (model prog w) A (pyIter (.ref r)) (fun it s₂ => codeAny (model prog w) A (.forLoop target it body [] env) (fun r s' => match r with | .ok f => Q f s' | .error e => cameBackBy (model prog w) A env E e s') s₂) E s := by
  refine iter_range hh hr hsmall hn F N (fun _ m nx => LawJ p1 p2 p3 p4 c m nx) ⟨o, v0, hd, rfl⟩ ?_ ?_ hE ht
  · rintro I i t m₁ nx h tk oI hi ⟨o1, v1, d1, rfl⟩ ha F₁ N₁
    refine turn I i t m₁ h tk oI o1 v1 hi d1 ⟨ha p1 ?_, ha p2 ?_, ha p3 ?_, ha (c, o1) ?_, ha p4 ?_⟩ F₁ N₁ <;> simp
  · rintro m₁ nx h tk ⟨o1, v1, d1, rfl⟩ F₁ N₁
    exact done m₁ h tk o1 v1 d1 F₁ N₁
theorem turn_law {I : Addr} {oI : Obj} {p1 p2 p3 p4 : Addr × Obj} {c : Addr} {o1 : Obj} {v1 : Option Value} {m' : PySem.Str → Option Value} {h' : Heap} {tk : Nat} {l : List (Addr × Obj)} (F : Fr h₀ L h' m') (N : News h₀ L h' l) (hd : o1.data = .cell v1) (hn : p1.1 ≠ I ∧ p2.1 ≠ I ∧ p3.1 ≠ I ∧ c ≠ I ∧ p4.1 ≠ I)
    (h0 : (I, oI) ∈ l) (h1 : p1 ∈ l) (h2 : p2 ∈ l) (h3 : p3 ∈ l) (hc : (c, o1) ∈ l) (h4 : p4 ∈ l) : TurnNext h₀ L I [(I, oI)] (LawJ p1 p2 p3 p4 c) s { s with heap := h', toks := tk } := by
  refine ⟨h', tk, m', [p1, p2, p3, (c, o1), p4], rfl, F, ?_, ?_, ⟨o1, v1, hd, rfl⟩⟩
  · intro p hp
    simp only [List.cons_append, List.nil_append, List.mem_cons, List.not_mem_nil, or_false] at hp
    rcases hp with rfl | rfl | rfl | rfl | rfl | rfl <;> exact N _ (by assumption)
  · intro p hp
    simp only [List.mem_cons, List.not_mem_nil, or_false] at hp
    rcases hp with rfl | rfl | rfl | rfl | rfl
    · exact hn.1
    · exact hn.2.1
    · exact hn.2.2.1
    · exact hn.2.2.2.1
    · exact hn.2.2.2.2
end
end Mine
end
section
open PySem PySem.W PyProof.Rows PySem.Calls PySem.Spec
set_option maxRecDepth 100000
set_option maxHeartbeats 400000
namespace Mine
section
variable {prog : Program} {w : World} {A : Around} {E : Value → Shared → Prop} {s : Shared} {env : Env} {h₀ : Heap} {L : Addr} {Q : Flow → Shared → Prop} {target : Expr} {body : List Stmt} {m : PySem.Str → Option Value} {news : List (Addr × Obj)}
theorem forOwnL {I ax : Addr} {oa : Obj} {n : Nat} {P : Nat → Value → Prop} {St : Nat → Heap → Prop} (W : Walks prog w A I [I, ax] [I] n P St) (hI : h₀.get? I = none) (hL : L ≠ I) (hst : St 0 s.heap) (F : Fr h₀ L s.heap m) (N : News h₀ L s.heap news) (hnw : ∀ p ∈ news, p.1 ≠ I)
    (hgone : ∀ i h, St i h → ∃ o, h.get? I = some o)
    (J : Nat → (PySem.Str → Option Value) → List (Addr × Obj) → Prop) (hJa : ∀ i m nx, J i m nx → (ax, oa) ∈ nx) (h0 : J 0 m news)
    (turn : ∀ i v m₁ nx h tk oI, i < n → P i v → J i m₁ nx → (∀ p ∈ nx, p.1 ≠ I) → Fr h₀ L h m₁ → News h₀ L h ((I, oI) :: nx) →
      wpAny (model prog w) A (assign target env v) (fun _ s₁ => wpAny (model prog w) A (execs body env) (TurnQ h₀ L I [(I, oI)] (J (i + 1)) s Q) E s₁) E { s with heap := h, toks := tk })
    (done : ∀ m₁ nx h tk, J n m₁ nx → Fr h₀ L h m₁ → News h₀ L h nx → Q .next { s with heap := h, toks := tk })
    (hE : PassesOwn (model prog w) A env E) (ht : ∀ v, letOwnedTupleGo target (.ref I) v = pure ()) :
    codeAny (model prog w) A (.forLoop target (.ref I) body [] env) (fun r s' => match r with | .ok f => Q f s' | .error e => cameBackBy (model prog w) A env E e s') s := by
  refine codeAny_forLoop
    (fun k s' => ∃ h' tk m' nx i, s' = { s with heap := h', toks := tk } ∧ St i h' ∧ Fr h₀ L h' m' ∧ News h₀ L h' nx ∧ (∀ p ∈ nx, p.1 ≠ I) ∧ J i m' nx ∧ i ≤ n ∧ k = n + 1 - i) ?_ (n + 1)
    ⟨s.heap, s.toks, m, news, 0, rfl, hst, F, N, hnw, h0, Nat.zero_le _, rfl⟩ ht
  rintro k s' ⟨h', tk, m', nx, i, rfl, hst', F', N', hnw', hJ, hi, rfl⟩
  have next : ∀ h₁ : Heap, (∀ b o, b ∉ [I] → h'.get? b = some o → h₁.get? b = some o) → Fr h₀ L h₁ m' ∧ News h₀ L h₁ nx := fun h₁ hk₁ =>
    ⟨⟨F'.ns.at' fun o e => hk₁ _ o (by simpa using hL) e, fun b o e => hk₁ b o (by
      intro hb; rw [List.mem_singleton.mp hb, hI] at e; cases e) (F'.keep b o e), F'.above⟩, fun p hp => ⟨hk₁ _ _ (by simpa using hnw' p hp) (N' p hp).1, (N' p hp).2⟩⟩
  by_cases hlt : i < n
  · refine W.item i _ _ _ hlt hst' fun v h₁ tk₁ hP hst₁ hk₁ => ?_
    obtain ⟨F₁, N₁⟩ := next h₁ hk₁
    obtain ⟨oI, hoI⟩ := hgone _ _ hst₁
    have N₂ : News h₀ L h₁ ((I, oI) :: nx) := fun p hp => by
      rcases List.mem_cons.mp hp with rfl | hp
      · exact ⟨hoI, Ne.symm hL, hI⟩
      · exact N₁ p hp
    dsimp only
    refine wpAny_passesOwn hE (wpAny_mono (turn i v m' nx h₁ tk₁ oI hlt hP hJ hnw' F₁ N₂) (fun _ s₁ z => wpAny_passesOwn hE (wpAny_mono z (fun f s₂ q => ?_) fun _ _ e => e)) fun _ _ e => e)
    have fin : TurnNext h₀ L I [(I, oI)] (J (i + 1)) s s₂ → ∃ k', k' < n + 1 - i ∧ ∃ h' tk m' nx j, s₂ = { s with heap := h', toks := tk } ∧ St j h' ∧ Fr h₀ L h' m' ∧ News h₀ L h' nx ∧ (∀ p ∈ nx, p.1 ≠ I) ∧ J j m' nx ∧ j ≤ n ∧ k' = n + 1 - j := by
      rintro ⟨h₂, tk₂, m₂, nx₂, rfl, F₂, N₂', ha, hj⟩
      refine ⟨n + 1 - (i + 1), by omega, h₂, tk₂, m₂, nx₂, i + 1, rfl, W.frame _ _ _ hst₁ (fun b hb o e => ?_), F₂, fun p hp => N₂' p (List.mem_append_right _ hp), ha, hj, hlt, rfl⟩
      rcases List.mem_cons.mp hb with hb' | hb'
      · subst hb'
        rw [hoI] at e
        cases e
        exact (N₂' _ (List.mem_append_left _ (List.mem_singleton.mpr rfl))).1
      · have hb'' := List.mem_singleton.mp hb'
        subst hb''
        have e1 := (N₁ _ (hJa _ _ _ hJ)).1
        rw [e1] at e
        cases e
        exact (N₂' _ (List.mem_append_right _ (hJa _ _ _ hj))).1
    cases f with
    | ret v => exact q
    | brk => exact q
    | next => exact fin q
    | cont => exact fin q
  · have hin : i = n := by omega
    subst hin
    refine W.done _ _ _ hst' fun h₁ tk₁ hk₁ => ?_
    obtain ⟨F₁, N₁⟩ := next h₁ hk₁
    exact wpAny_execs_nil (done m' nx h₁ tk₁ hJ F₁ N₁)
/-- what a turn over a list's items leaves: the ledger as it was, and every name but the loop's own -/
def ListJ (news : List (Addr × Obj)) (x : PySem.Str) (m₀ : PySem.Str → Option Value) (m : PySem.Str → Option Value) (nx : List (Addr × Obj)) : Prop := nx = news ∧ ∀ z, z ≠ x → m z = m₀ z
theorem list_turn {I : Addr} {oI : Obj} {l : List (Addr × Obj)} {x : PySem.Str} {m₀ m' : PySem.Str → Option Value} {h' : Heap} {tk : Nat} (F : Fr h₀ L h' m') (N : News h₀ L h' l) (hi : ∀ p ∈ news, p.1 ≠ I) (h1 : (I, oI) ∈ l) (h2 : ∀ p ∈ news, p ∈ l) (hm : ∀ z, z ≠ x → m' z = m₀ z) :
    TurnNext h₀ L I [(I, oI)] (ListJ news x m₀) s { s with heap := h', toks := tk } :=
  ⟨h', tk, m', news, rfl, F, fun p hp => by
    rcases List.mem_cons.mp hp with rfl | hp
    · exact N _ h1
    · exact N _ (h2 p hp), hi, rfl, hm⟩
theorem iter_listN {ax : Addr} {vs : Array Value} {n0 : Nat} {x : PySem.Str} {px : Pos} {m₀ : PySem.Str → Option Value} (hh : A.handled = none) (F : Fr h₀ env.locals s.heap m₀) (N : News h₀ env.locals s.heap news) (hm : (ax, listOf vs n0) ∈ news)
    (hx : env.kindOf x = some .local) (hp : (env.scope.kind == .class || (env.scope.kind == .module && env.locals != env.globals)) = false)
    (turn : ∀ (I : Addr) (i : Nat) (v : Value) (h : Heap) (tk : Nat) (oI : Obj), vs[i]? = some v → (∀ p ∈ news, p.1 ≠ I) → Fr h₀ env.locals h (fun z => if z = x then some v else m₀ z) → News h₀ env.locals h ((I, oI) :: news) →
      wpAny (model prog w) A (execs body env) (TurnQ h₀ env.locals I [(I, oI)] (ListJ news x m₀) s Q) E { s with heap := h, toks := tk })
    (done : ∀ (u : Option Value) h tk, Fr h₀ env.locals h (fun z => if z = x then u else m₀ z) → News h₀ env.locals h news → Q .next { s with heap := h, toks := tk })
    (hE : PassesOwn (model prog w) A env E) :
    wpAny (model prog w) A (pyIter (.ref ax)) (fun it s₂ => codeAny (model prog w) A (.forLoop (.Name x px) it body [] env) (fun r s' => match r with | .ok f => Q f s' | .error e => cameBackBy (model prog w) A env E e s') s₂) E s := by
  have eqm : ∀ (m₁ : PySem.Str → Option Value), (∀ z, z ≠ x → m₁ z = m₀ z) → m₁ = fun z => if z = x then m₁ x else m₀ z := by
    intro m₁ e2
    funext z
    by_cases h1 : z = x
    · simp [h1]
    · simp [h1, e2 z h1]
  have hls : s.heap.IsList ax vs := ⟨_, (N _ hm).1, rfl, _, rfl⟩
  refine wpAny_pyIter_list hls ?_
  have hlt : ax < s.heap.objs.size := Heap.lt_size (N _ hm).1
  refine forOwnL (oa := listOf vs n0) (s := { s with heap := s.heap.push _ }) (Walks.list hh s.heap.objs.size ax (Nat.ne_of_lt hlt) vs) ?_ (Nat.ne_of_lt F.ns.lt) ⟨⟨_, Heap.get?_push_size _ rfl, rfl, rfl⟩, hls.at fun o e => Heap.get?_push_of_some _ e⟩ (F.push _) (fun p hp => ⟨Heap.get?_push_of_some _ (N p hp).1, (N p hp).2⟩) (fun p hp => Nat.ne_of_lt (Heap.lt_size (N p hp).1))
    (fun i h st => by obtain ⟨o, e, _⟩ := st.1; exact ⟨o, e⟩) (fun _ m nx => ListJ news x m₀ m nx) (fun _ _ _ j => j.1 ▸ hm) ⟨rfl, fun _ _ => rfl⟩ ?_ ?_ hE (fun _ => rfl)
  · exact next_is_new F
  · rintro i v m₁ nx h tk oI hi hv ⟨rfl, e2⟩ ha F₁ N₁
    refine wpAny_assign_Name (wpAny_storeName_local hx F₁.ns (fun h₂ hn₂ hs₂ => ?_) hp)
    have F₂ := F₁.set hn₂ hs₂
    have e : (fun z => if z = x then some v else m₁ z) = fun z => if z = x then some v else m₀ z := by
      funext z
      by_cases h1 : z = x
      · simp [h1]
      · simp [h1, e2 z h1]
    rw [e] at F₂
    exact turn _ i v h₂ _ oI hv ha F₂ (N₁.set hs₂)
  · rintro m₁ nx h tk ⟨rfl, e2⟩ F₁ N₁
    rw [eqm m₁ e2] at F₁
    exact done (m₁ x) h tk F₁ N₁
end
end Mine
end
section
open PySem PySem.W PyProof.Rows PySem.Calls PySem.Spec
namespace Mine
theorem units_make3 {A : Around} {C : Addr} {rest : List Value} {kw : List (Str × Value)} : (A.under (.builtin "type.__call__" ⟨.ref C :: rest, kw⟩)).units = A.units + 1 := rfl
local macro_rules | `(tactic| ktr_room) => `(tactic| (simp only [depth_under_make, depth_under_kw, depth_in1, depth_deeper, depth_caller, ktrTop]; omega))
local macro_rules | `(tactic| ktr_units) => `(tactic| (simp only [units_make3, units_in1, units_deeper, Around.mark_units, units_caller, ktrTop]; omega))
local macro_rules | `(tactic| k_room) => `(tactic| ktr_room)
local macro_rules | `(tactic| k_units) => `(tactic| ktr_units)
local macro_rules | `(tactic| k_all) => `(tactic| (first | refine allBelow (by assumption) ?_ | refine allBelow (tb_ltOf (by assumption)) ?_); (try dsimp only); omega)
local macro_rules | `(tactic| walk_at "exec For") => `(tactic| (k_here; refine wpAny_For ?_ (fun _ => rfl)))
theorem len1 (c : Nat) : (PySem.Str.mk #[c]).length = 1 := rfl
local macro_rules | `(tactic| ktr_rel) => `(tactic| (rw [sizeLine_eq]; (try simp only [PySem.Str.length_append, len1]); omega))
local macro_rules | `(tactic| walk_at "binaryOp Add str str") => `(tactic| (k_here; (refine PyProof.Rows.add_str (hsz := ?hsz) ?_); (case hsz => ktr_rel); intro _ _))
local macro_rules | `(tactic| walk_at "inplaceOp Add str str") => `(tactic| (k_here; (refine PyProof.Rows.iadd_str (hsz := ?hsz) ?_); (case hsz => ktr_rel); intro _ _))
set_option maxRecDepth 100000
set_option maxHeartbeats 400000
theorem okLen {x : Str} (hx : okText x) (hl : x.length ≤ 100) (q i : Nat) (hq : q ≠ 10) : (wr q (x.cps.toList.take i)).length ≤ 300 := by
  have := wr_length hq (x.cps.toList.take i) fun c hc => hx c (List.mem_of_mem_take hc)
  have h2 : (x.cps.toList.take i).length ≤ x.length := by rw [List.length_take, PySem.Str.length, Array.length_toList]; omega
  omega
theorem take_step {x : Str} {i c : Nat} (hc : x.cps[i]? = some c) (q : Nat) : wr q (x.cps.toList.take (i + 1)) = wr q (x.cps.toList.take i) ++ ⟨(Builtin.Str.reprChar q c).toArray⟩ := by
  have : x.cps.toList[i]? = some c := by rw [Array.getElem?_toList]; exact hc
  rw [List.take_add_one, this]
  exact wr_snoc _ _ _
theorem sign_true {c d : Nat} {y : Str} (e : y = ⟨#[d]⟩) (h : ((⟨#[c]⟩ : Str) == y) = true) : c = d := by
  subst e
  have := beq_iff_eq.mp h
  simpa using this
theorem sign_false {c d : Nat} {y : Str} (e : y = ⟨#[d]⟩) (h : ((⟨#[c]⟩ : Str) == y) = false) : c ≠ d := by
  subst e
  rintro rfl
  simp at h
theorem lit_bs : Str.ofString "\\" = ⟨#[92]⟩ := by decide +kernel
theorem lit_nl : Str.ofString "\n" = ⟨#[10]⟩ := by decide +kernel
theorem lit_bsn : Str.ofString "\\n" = ⟨#[92, 110]⟩ := by decide +kernel
theorem leafA {x : Str} {i c q : Nat} {mk : Str} (e : mk = ⟨#[q]⟩) (hc : x.cps[i]? = some c) (h : ((⟨#[c]⟩ : Str) == mk) = true) : wr q (x.cps.toList.take i) ++ (Str.ofString "\\" ++ ⟨#[c]⟩) = wr q (x.cps.toList.take (i + 1)) := by
  rw [take_step hc, reprChar_esc (.inl (sign_true e h)), lit_bs]; rfl
theorem leafB {x : Str} {i c q : Nat} (hc : x.cps[i]? = some c) (h : ((⟨#[c]⟩ : Str) == Str.ofString "\\") = true) : wr q (x.cps.toList.take i) ++ (Str.ofString "\\" ++ ⟨#[c]⟩) = wr q (x.cps.toList.take (i + 1)) := by
  rw [take_step hc, reprChar_esc (.inr (sign_true lit_bs h)), lit_bs]; rfl
theorem leafC {x : Str} {i c q : Nat} (hq : q ≠ 10) (hc : x.cps[i]? = some c) (h : ((⟨#[c]⟩ : Str) == Str.ofString "\n") = true) : wr q (x.cps.toList.take i) ++ Str.ofString "\\n" = wr q (x.cps.toList.take (i + 1)) := by
  have e := sign_true lit_nl h
  subst e
  rw [take_step hc, reprChar_nl hq, lit_bsn]
theorem leafD {x : Str} {i c q : Nat} {mk : Str} (hx : okText x) (e : mk = ⟨#[q]⟩) (hc : x.cps[i]? = some c) (h1 : ((⟨#[c]⟩ : Str) == mk) = false) (h2 : ((⟨#[c]⟩ : Str) == Str.ofString "\\") = false) (h3 : ((⟨#[c]⟩ : Str) == Str.ofString "\n") = false) : wr q (x.cps.toList.take i) ++ ⟨#[c]⟩ = wr q (x.cps.toList.take (i + 1)) := by
  have hm : c ∈ x.cps.toList := by
    have : x.cps.toList[i]? = some c := by rw [Array.getElem?_toList]; exact hc
    exact List.mem_of_getElem? this
  rw [take_step hc, reprChar_plain (hx c hm) (sign_false e h1) (sign_false lit_bs h2) (sign_false lit_nl h3)]
abbrev C13 (w : World) := Callee Challenge.rw_dm0030_01.row.prog Mine.hd.heap_39 Mine.hd.view_39 w
theorem written_none {w : World} : C13 w 94 3 20 [.none] [] (fun _ => True) (fun tl r => tl = [] ∧ ∃ k, r = .str (Str.ofString "None") k) := by
  unfold C13 Callee
  k_fill
  intro loose mean mg mb dp un cn cs a ccd cl outer A₀ base h₀ L m news s Q E B F X N T hk hrel hd hu hret
  refine wpAny_call ?_
  k_dflt ktr_enter
  k_steps
  exact hret _ [] _ _ (by k_asm) (by k_asm) (fun _ h => nomatch h) ⟨rfl, _, rfl⟩
theorem written_int {w : World} {n : Int} {t : Tok} (hn : 0 ≤ n) (hn2 : n < 1000) : C13 w 94 3 20 [.int n t] [] (fun _ => True) (fun tl r => tl = [] ∧ ∃ k, r = .str (Str.ofString (toString n)) k) := by
  unfold C13 Callee
  k_fill
  intro loose mean mg mb dp un cn cs a ccd cl outer A₀ base h₀ L m news s Q E B F X N T hk hrel hd hu hret
  refine wpAny_call ?_
  k_dflt ktr_enter
  k_steps
  exact hret _ [] _ _ (by k_asm) (by k_asm) (fun _ h => nomatch h) ⟨rfl, _, rfl⟩
theorem written_str {w : World} {x : Str} {t : Tok} (hx : okText x) (hl : x.length ≤ 100) : C13 w 94 3 20 [.str x t] [] (fun _ => True) (fun tl r => tl = [] ∧ ∃ k, r = .str (reprText x) k) := by
  unfold C13 Callee
  k_fill
  intro loose mean mg mb dp un cn cs a ccd cl outer A₀ base h₀ L m news s Q E B F X N T hk hrel hd hu hret
  refine wpAny_call ?_
  k_dflt ktr_enter
  k_steps
  all_goals ((rename Fr _ _ _ _ => lF); (rename News _ _ _ _ => lN))
  · have hq := quote_a (x := x) (by assumption)
    refine' iter_text1 (x := Str.ofString "sign") (y := Str.ofString "out") (fun i => wr 39 (x.cps.toList.take i)) (by rfl) lF lN ?hy (by rfl) (by rfl) ?turn ?done (by passes_own)
    case hy => exact congrArg (fun z => some (Value.str z _)) (lit_q1.trans (wr_nil 39).symm)
    case turn =>
      intro I i c t' k h' tk' oI hc ha F9 N9
      clear lF lN
      have hlen := okLen hx hl 39 i (by decide)
      have e1 : (Str.ofString "\\").length = 1 := by decide +kernel
      have e2 : (Str.ofString "\\n").length = 2 := by decide +kernel
      k_steps
      all_goals refine TextEnd.intro (by k_asm) (by k_asm) rfl ?_ (fun z h1 h2 => by simp only [if_neg h1, if_neg h2])
      all_goals first | exact leafA lit_q1 hc (by assumption) | exact leafB hc (by assumption) | exact leafC (by decide) hc (by assumption) | exact leafD hx lit_q1 hc (by assumption) (by assumption) (by assumption)
    case done => 
      intro u k h' tk' F9 N9
      clear lF lN
      have hlen := okLen hx hl 39 x.cps.size (by decide)
      have e1 : (Str.ofString "'").length = 1 := by decide +kernel
      k_steps
      refine hret _ [] _ _ (by k_asm) (by k_asm) (fun _ h => nomatch h) ⟨rfl, _, congrArg (fun z => Value.str z _) ?_⟩
      have := wr_end x
      rw [hq] at this
      rw [← this, List.take_of_length_le (by simp), lit_q1]
  · have hq := quote_c (x := x) (by assumption) (by assumption)
    refine' iter_text1 (x := Str.ofString "sign") (y := Str.ofString "out") (fun i => wr 34 (x.cps.toList.take i)) (by rfl) lF lN ?hy (by rfl) (by rfl) ?turn ?done (by passes_own)
    case hy => exact congrArg (fun z => some (Value.str z _)) (lit_q2.trans (wr_nil 34).symm)
    case turn =>
      intro I i c t' k h' tk' oI hc ha F9 N9
      clear lF lN
      have hlen := okLen hx hl 34 i (by decide)
      have e1 : (Str.ofString "\\").length = 1 := by decide +kernel
      have e2 : (Str.ofString "\\n").length = 2 := by decide +kernel
      k_steps
      all_goals refine TextEnd.intro (by k_asm) (by k_asm) rfl ?_ (fun z h1 h2 => by simp only [if_neg h1, if_neg h2])
      all_goals first | exact leafA lit_q2 hc (by assumption) | exact leafB hc (by assumption) | exact leafC (by decide) hc (by assumption) | exact leafD hx lit_q2 hc (by assumption) (by assumption) (by assumption)
    case done => 
      intro u k h' tk' F9 N9
      clear lF lN
      have hlen := okLen hx hl 34 x.cps.size (by decide)
      have e1 : (Str.ofString "\"").length = 1 := by decide +kernel
      k_steps
      refine hret _ [] _ _ (by k_asm) (by k_asm) (fun _ h => nomatch h) ⟨rfl, _, congrArg (fun z => Value.str z _) ?_⟩
      have := wr_end x
      rw [hq] at this
      rw [← this, List.take_of_length_le (by simp), lit_q2]
  · have hq := quote_b (x := x) (by assumption)
    refine' iter_text1 (x := Str.ofString "sign") (y := Str.ofString "out") (fun i => wr 39 (x.cps.toList.take i)) (by rfl) lF lN ?hy (by rfl) (by rfl) ?turn ?done (by passes_own)
    case hy => exact congrArg (fun z => some (Value.str z _)) (lit_q1.trans (wr_nil 39).symm)
    case turn =>
      intro I i c t' k h' tk' oI hc ha F9 N9
      clear lF lN
      have hlen := okLen hx hl 39 i (by decide)
      have e1 : (Str.ofString "\\").length = 1 := by decide +kernel
      have e2 : (Str.ofString "\\n").length = 2 := by decide +kernel
      k_steps
      all_goals refine TextEnd.intro (by k_asm) (by k_asm) rfl ?_ (fun z h1 h2 => by simp only [if_neg h1, if_neg h2])
      all_goals first | exact leafA lit_q1 hc (by assumption) | exact leafB hc (by assumption) | exact leafC (by decide) hc (by assumption) | exact leafD hx lit_q1 hc (by assumption) (by assumption) (by assumption)
    case done => 
      intro u k h' tk' F9 N9
      clear lF lN
      have hlen := okLen hx hl 39 x.cps.size (by decide)
      have e1 : (Str.ofString "'").length = 1 := by decide +kernel
      k_steps
      refine hret _ [] _ _ (by k_asm) (by k_asm) (fun _ h => nomatch h) ⟨rfl, _, congrArg (fun z => Value.str z _) ?_⟩
      have := wr_end x
      rw [hq] at this
      rw [← this, List.take_of_length_le (by simp), lit_q1]
theorem written_spec {w : World} {v : Value} {d : PyData} (h : ValOk v d) : C13 w 94 3 20 [v] [] (fun _ => True) (fun tl r => tl = [] ∧ ∃ k, r = .str d.shown k) := by
  rcases h with ⟨rfl, rfl⟩ | ⟨n, k, rfl, h0, h1, rfl⟩ | ⟨x, k, rfl, hx, hl, rfl⟩
  · rw [PyData.shown_none]; exact written_none
  · rw [PyData.shown_int]; exact written_int h0 h1
  · rw [PyData.shown_str]; exact written_str hx hl
end Mine
end
section
open PySem PySem.W PyProof.Rows PySem.Calls PySem.Spec
namespace Mine
theorem units_make6 {A : Around} {C : Addr} {rest : List Value} {kw : List (Str × Value)} : (A.under (.builtin "type.__call__" ⟨.ref C :: rest, kw⟩)).units = A.units + 1 := rfl
local macro_rules | `(tactic| ktr_room) => `(tactic| (simp only [depth_under_make, depth_under_kw, depth_in1, depth_deeper, depth_caller, ktrTop]; omega))
local macro_rules | `(tactic| ktr_units) => `(tactic| (simp only [units_make6, units_in1, units_deeper, Around.mark_units, units_caller, ktrTop]; omega))
local macro_rules | `(tactic| k_room) => `(tactic| ktr_room)
local macro_rules | `(tactic| k_units) => `(tactic| ktr_units)
local macro_rules | `(tactic| k_all) => `(tactic| (first | refine allBelow (by assumption) ?_ | refine allBelow (tb_ltOf (by assumption)) ?_); (try dsimp only); omega)
set_option maxRecDepth 100000
set_option maxHeartbeats 400000
abbrev C16 (w : World) := Callee Challenge.rw_dm0030_01.row.prog Mine.hd.heap_39 Mine.hd.view_39 w
def okPiece (x : Str) : Prop := okText x ∧ x.length ≤ 30
def okPieceB (x : Str) : Bool := (x.cps.toList.all fun c => decide (c = 10 ∨ (32 ≤ c ∧ c < 127))) && decide (x.length ≤ 30)
theorem okPiece_of {x : Str} (h : okPieceB x = true) : okPiece x := by
  unfold okPieceB at h
  rw [Bool.and_eq_true] at h
  refine ⟨fun c hc => ?_, of_decide_eq_true h.2⟩
  have h1 := List.all_eq_true.mp h.1 c hc
  unfold okSign
  exact of_decide_eq_true h1
theorem okPieces_of {l : List Str} (h : l.all okPieceB = true) : ∀ p ∈ l, okPiece p := fun p hp => okPiece_of (List.all_eq_true.mp h p hp)
theorem getD_ok {l : List Str} {i : Nat} {d : Str} (hl : ∀ p ∈ l, okPiece p) (hd : okPiece d) : okPiece (l.getD i d) := by
  rw [List.getD_eq_getElem?_getD]
  cases h : l[i]? with
  | none => exact hd
  | some p => exact hl p (List.mem_of_getElem? h)
theorem okText_append {a b : Str} (ha : okText a) (hb : okText b) : okText (a ++ b) := by
  intro c hc
  rw [PySem.Str.cps_append, Array.toList_append] at hc
  rcases List.mem_append.mp hc with h | h
  · exact ha c h
  · exact hb c h
theorem okPieces_append {a b : Str} (ha : okPiece a) (hb : okPiece b) : okText (a ++ b) ∧ (a ++ b).length ≤ 100 :=
  ⟨okText_append ha.1 hb.1, by have := ha.2; have := hb.2; rw [PySem.Str.length_append]; omega⟩
theorem value_spec {w : World} {n : Int} {t : Tok} (hn : 0 ≤ n) : C16 w 87 3 20 [.int n t] [] (fun _ => True) (fun tl r => tl = [] ∧ ∃ d, ValOk r d) := by
  unfold C16 Callee
  k_fill
  intro loose mean mg mb dp un cn cs a ccd cl outer A₀ base h₀ L m news s Q E B F X N T hk hrel hd hu hret
  refine wpAny_call ?_
  k_dflt ktr_enter
  k_steps
  all_goals ((rename Fr _ _ _ _ => lF); (rename News _ _ _ _ => lN))
  · exact hret _ [] _ _ lF lN (fun _ h => nomatch h) ⟨rfl, _, .inr (.inl ⟨_, _, rfl, Int.fmod_nonneg_of_pos _ (by decide), Int.fmod_lt_of_pos _ (by decide), rfl⟩)⟩
  · exact hret _ [] _ _ lF lN (fun _ h => nomatch h) ⟨rfl, _, .inl ⟨rfl, rfl⟩⟩
  · have ok : ∀ i d, okPiece d → okPiece (([Str.ofString "a", Str.ofString "{!r}", Str.ofString "{0}", Str.ofString "{", Str.ofString "}", Str.ofString "%s", Str.ofString "%(a)s", Str.ofString "'", Str.ofString "\"", Str.ofString "\\", Str.ofString "\n", Str.ofString ". Raw value: '' in section "]).getD i d) := fun i d hd => getD_ok (okPieces_of (by decide +kernel)) hd
    refine hret _ [] _ _ lF (fun p hp => lN p (.tail _ hp)) (fun _ h => nomatch h) ⟨rfl, _, .inr (.inr ⟨_, _, rfl, ?_, ?_, rfl⟩)⟩
    · exact (okPieces_append (ok _ _ (okPiece_of (by decide +kernel))) (ok _ _ (okPiece_of (by decide +kernel)))).1
    · exact (okPieces_append (ok _ _ (okPiece_of (by decide +kernel))) (ok _ _ (okPiece_of (by decide +kernel)))).2
end Mine
end
section
open PySem PySem.W PyProof.Rows PySem.Calls PySem.Spec
namespace Mine
theorem units_make {A : Around} {C : Addr} {rest : List Value} {kw : List (Str × Value)} : (A.under (.builtin "type.__call__" ⟨.ref C :: rest, kw⟩)).units = A.units + 1 := rfl
local macro_rules | `(tactic| ktr_room) => `(tactic| (simp only [depth_under_make, depth_under_kw, depth_in1, depth_deeper, depth_caller, ktrTop]; omega))
local macro_rules | `(tactic| ktr_units) => `(tactic| (simp only [units_make, units_in1, units_deeper, Around.mark_units, units_caller, ktrTop]; omega))
local macro_rules | `(tactic| k_room) => `(tactic| ktr_room)
local macro_rules | `(tactic| k_units) => `(tactic| ktr_units)
local macro_rules | `(tactic| k_all) => `(tactic| (first | refine allBelow (by assumption) ?_ | refine allBelow (tb_ltOf (by assumption)) ?_); (try dsimp only); omega)
local macro_rules | `(tactic| k_inst) => `(tactic| (refine' instE ?N ?h1 ?h2; (case N => k_asm); (case h1 => k_mem); (case h2 => k_mem)))
local macro_rules | `(tactic| tb_start) => `(tactic| first | (refine' AtL.head ?a; (case a => k_all)) | (refine' AtL.tail ?a ?b; (case a => k_ne); (case b => tb_start)))
local macro_rules | `(tactic| tb_rel) => `(tactic| (repeat (first | assumption | apply List.Mem.tail)))
local macro_rules | `(tactic| walk_at "call builtin:str.format") => `(tactic| (k_here; (with_reducible show wpAny _ _ (call (Value.builtin "str.format") (Value.str _ _ :: _)) _ _ _); k_dflt (refine' fmt1_N ?k1 ?k2 ?k3 ?k4 ?k5 ?k6 ?k7 ?k8 ?k9 ?_; (case k1 => k_asm); (case k2 => k_asm); (case k6 => assumption); (case k7 => assumption); (case k8 => assumption); (case k9 => assumption); (case k3 => (intro p hp; tb_rel)); (case k4 => exact rfl); (case k5 => ktr_units); k_whole); intro h' u' tk' F' N'; (try k_sweep)))
local macro_rules | `(tactic| walk_at "setAttr ref") => `(tactic| (k_here; k_dflt (first
  | (refine' setE_args ?k1 ?k2 ?k3 ?k4 ?k5 ?k6 ?k7 ?k8 ?k9 ?k10 ?_; (case k1 => k_asm); (case k2 => k_asm); (case k3 => k_asm); (case k4 => k_inst); (case k5 => kernel_rfl); (case k6 => k_is); (case k7 => kernel_rfl); (case k8 => k_is); (case k9 => k_upd); (case k10 => k_mem); k_whole; intro h' F' N'; (try k_sweep))
  | (refine' setE_dict ?k1 ?k2 ?k3 ?k4 ?k5 ?k6 ?k7 ?k8 ?k9 ?k10 ?k11 ?k12 ?k13 ?_; (case k1 => k_asm); (case k2 => k_asm); (case k3 => k_asm); (case k4 => k_inst); (case k5 => exact rfl); (case k6 => k_is); (case k7 => kernel_rfl); (case k8 => k_is); (case k9 => kernel_rfl); (case k10 => k_get); (case k11 => k_put); (case k12 => k_upd); (case k13 => exact Nat.le_of_ble_eq_true rfl); k_whole; intro h' F' N'; (try k_sweep))
  | (refine' setE_first ?k1 ?k2 ?k3 ?k4 ?k5 ?k6 ?k7 ?k8 ?_; (case k1 => k_asm); (case k2 => k_asm); (case k3 => k_asm); (case k4 => tb_start); (case k5 => k_is); (case k6 => kernel_rfl); (case k7 => k_is); (case k8 => kernel_rfl); k_whole; intro d' h' F' N' l1; (try simp only [List.cons_append, List.nil_append] at N'); (try k_lt l1); (try k_sweep)))))
theorem meta_exc : typeOf (.type "Exception") = pure (.type "type") := by kernel_rfl
local macro_rules | `(tactic| walk_at "getMethod type:Exception") => `(tactic| (k_here; refine' method_type ?F ?X ?m (by decide +kernel) ?e ?h ?_; (case F => k_asm); (case X => k_asm); (case m => exact meta_exc); (case e => k_dflt k_is); (case h => k_handed)))
local macro_rules | `(tactic| walk_at "call builtin:Exception.__init__") => `(tactic| (k_here; k_dflt (refine' exInit_N ?k1 ?k2 ?k3 ?k4 ?k5 ?k6 ?k7 ?_; (case k1 => k_asm); (case k2 => k_asm); (case k3 => k_asm); (case k4 => k_inst); (case k5 => kernel_rfl); (case k6 => kernel_rfl); (case k7 => tb_start); k_whole; intro d' h' F' N' l1; (try simp only [List.cons_append, List.nil_append] at N'); (try k_lt l1); (try k_sweep))))
set_option maxRecDepth 100000
set_option maxHeartbeats 400000
abbrev C1 (w : World) := Callee Challenge.rw_dm0030_01.row.prog Mine.hd.heap_39 Mine.hd.view_39 w
abbrev SN (w : World) := ShowsN Challenge.rw_dm0030_01.row.prog w
theorem tlAbove {news tl : List (Addr × Obj)} {d : Addr} (h : ∀ p ∈ news, p.1 < d) (ht : ∀ p ∈ tl, d ≤ p.1) : ∀ p ∈ tl, ∀ q ∈ news, q.1 < p.1 := fun p hp q hq => Nat.lt_of_lt_of_le (h q hq) (ht p hp)
inductive Ents (P : Params) : List (Str × Value) → List DictEntry → Prop
  | nil : Ents P [] []
  | cons {n v k l es} : Ents P l es → Ents P ((n, v) :: l) (⟨PyData.keyHash P n, .str n k, v⟩ :: es)
/-- an own exception with its fields, as the ledger bears it -/
def ExcIs (P : Params) (C : Addr) (args : List Value) (fields : List (Str × Value)) (T : Str) (tl : List (Addr × Obj)) (r : Value) : Prop :=
  ∃ x d t u es, tl = [(t, tupObj args), (d, dictOf es (fields.length + 1)), (x, excObj C t (some d))] ∧ r = .ref x ∧ Ents P ((Str.ofString "message", .str T u) :: fields) es
theorem neN2 {a b : Nat} (h : a ≤ b) : a ≤ b := h
theorem exc_done {P : Params} {C : Addr} {args : List Value} {fields : List (Str × Value)} {T : Str} {u : Tok} {x t d b : Addr} {n : Nat} {es : List DictEntry} {h₀ h' : Heap} {L : Addr} {m : Str → Option Value} {news l : List (Addr × Obj)} {s : Shared} {tk' : Nat} {Q : Value → Shared → Prop}
    (F : Fr h₀ L h' m) (N : News h₀ L h' l) (hx : (x, excObj C t (some d)) ∈ l) (hd : (d, dictOf es n) ∈ l) (ht : (t, tupObj args) ∈ l) (hs : ∀ p ∈ news, p ∈ l) (l1 : ∀ p ∈ news, p.1 < b) (h1 : b ≤ x) (h2 : b ≤ d) (h3 : b ≤ t)
    (hn : n = fields.length + 1) (he : Ents P ((Str.ofString "message", .str T u) :: fields) es)
    (hret : ∀ r tl h' tk', Fr h₀ L h' m → News h₀ L h' (tl ++ news) → (∀ p ∈ tl, ∀ q ∈ news, q.1 < p.1) → ExcIs P C args fields T tl r → Q r { s with heap := h', toks := tk' }) : Q (.ref x) { s with heap := h', toks := tk' } := by
  subst hn
  refine hret _ [(t, tupObj args), (d, dictOf es (fields.length + 1)), (x, excObj C t (some d))] _ _ F (fun p hp => ?_) (tlAbove l1 ?_) ⟨_, _, _, _, _, rfl, rfl, he⟩
  · rcases List.mem_cons.mp hp with rfl | hp
    · exact N _ ht
    rcases List.mem_cons.mp hp with rfl | hp
    · exact N _ hd
    rcases List.mem_cons.mp hp with rfl | hp
    · exact N _ hx
    exact N p (hs p hp)
  · exact List.forall_mem_cons.mpr ⟨h3, List.forall_mem_cons.mpr ⟨h2, List.forall_mem_cons.mpr ⟨h1, List.forall_mem_nil _⟩⟩⟩
theorem mk78 {w : World} {v1 v2 v3 v4 : Value} {t1 t2 t3 t4 : Str} : C1 w 78 10 200 [v1, v2, v3, v4] [] (fun news => SN w news v1 t1 ∧ SN w news v2 t2 ∧ SN w news v3 t3 ∧ SN w news v4 t4) (ExcIs w.params 78 [v1, v2, v3, v4] [(Str.ofString "option", v1), (Str.ofString "section", v2), (Str.ofString "reference", v4)] (told1 t1 t2 t4 t3)) := by
  unfold C1 Callee
  k_fill
  intro loose mean mg mb dp un cn cs a ccd cl outer A₀ base h₀ L m news s Q E B F X N T hk hrel hd hu hret
  obtain ⟨s1, s2, s3, s4⟩ := hrel
  refine wpAny_call ?_
  k_dflt (refine' exc_K ?k1 ?k2 ?k3 ?k4 ?kz ?k5 ?k6 ?_; (case k1 => k_asm); (case k2 => k_asm); (case k3 => k_in); (case k4 => kernel_rfl); (case kz => (rw [sizeLine_eq]; simp)); (case k5 => k_is); (case k6 => k_is); k_whole; intro x' d' h' F' N' l1 l2; (try k_lt2 l2); (try k_sweep))
  k_dflt ktr_enter
  k_steps
  (rename Fr _ _ _ _ => lF); (rename News _ _ _ _ => lN)
  refine' exc_done lF lN ?hx ?hd ?ht ?hs l1 ?h1 ?h2 ?h3 rfl ?he hret
  case hx => k_mem
  case hd => k_mem
  case ht => k_mem
  case hs => (intro p hp; tb_rel)
  case h1 => (refine neN2 ?_; omega)
  case h2 => (refine neN2 ?_; omega)
  case h3 => (refine neN2 ?_; omega)
  case he => exact .cons (.cons (.cons (.cons .nil)))
theorem mk78k {w : World} {v1 v2 v3 v4 : Value} {t1 t2 t3 t4 : Str} : C1 w 78 10 200 [] [(Str.ofString "reference", v4), (Str.ofString "rawval", v3), (Str.ofString "section", v2), (Str.ofString "option", v1)] (fun news => SN w news v1 t1 ∧ SN w news v2 t2 ∧ SN w news v3 t3 ∧ SN w news v4 t4) (ExcIs w.params 78 [v1, v2, v3, v4] [(Str.ofString "option", v1), (Str.ofString "section", v2), (Str.ofString "reference", v4)] (told1 t1 t2 t4 t3)) := by
  unfold C1 Callee
  k_fill
  intro loose mean mg mb dp un cn cs a ccd cl outer A₀ base h₀ L m news s Q E B F X N T hk hrel hd hu hret
  obtain ⟨s1, s2, s3, s4⟩ := hrel
  refine wpAny_call ?_
  k_dflt (refine' exc_K ?k1 ?k2 ?k3 ?k4 ?kz ?k5 ?k6 ?_; (case k1 => k_asm); (case k2 => k_asm); (case k3 => k_in); (case k4 => kernel_rfl); (case kz => (rw [sizeLine_eq]; simp)); (case k5 => k_is); (case k6 => k_is); k_whole; intro x' d' h' F' N' l1 l2; (try k_lt2 l2); (try k_sweep))
  k_dflt ktr_enter
  k_steps
  (rename Fr _ _ _ _ => lF); (rename News _ _ _ _ => lN)
  refine' exc_done lF lN ?hx ?hd ?ht ?hs l1 ?h1 ?h2 ?h3 rfl ?he hret
  case hx => k_mem
  case hd => k_mem
  case ht => k_mem
  case hs => (intro p hp; tb_rel)
  case h1 => (refine neN2 ?_; omega)
  case h2 => (refine neN2 ?_; omega)
  case h3 => (refine neN2 ?_; omega)
  case he => exact .cons (.cons (.cons (.cons .nil)))
theorem mk59k {w : World} {v1 v2 : Value} {T : Str} {u : Tok} : C1 w 59 10 200 [] [(Str.ofString "msg", .str T u), (Str.ofString "section", v2), (Str.ofString "option", v1)] (fun news => True) (ExcIs w.params 59 [v1, v2, .str T u] [(Str.ofString "option", v1), (Str.ofString "section", v2)] T) := by
  unfold C1 Callee
  k_fill
  intro loose mean mg mb dp un cn cs a ccd cl outer A₀ base h₀ L m news s Q E B F X N T hk hrel hd hu hret
  skip
  refine wpAny_call ?_
  k_dflt (refine' exc_K ?k1 ?k2 ?k3 ?k4 ?kz ?k5 ?k6 ?_; (case k1 => k_asm); (case k2 => k_asm); (case k3 => k_in); (case k4 => kernel_rfl); (case kz => (rw [sizeLine_eq]; simp)); (case k5 => k_is); (case k6 => k_is); k_whole; intro x' d' h' F' N' l1 l2; (try k_lt2 l2); (try k_sweep))
  k_dflt ktr_enter
  k_steps
  (rename Fr _ _ _ _ => lF); (rename News _ _ _ _ => lN)
  refine' exc_done lF lN ?hx ?hd ?ht ?hs l1 ?h1 ?h2 ?h3 rfl ?he hret
  case hx => k_mem
  case hd => k_mem
  case ht => k_mem
  case hs => (intro p hp; tb_rel)
  case h1 => (refine neN2 ?_; omega)
  case h2 => (refine neN2 ?_; omega)
  case h3 => (refine neN2 ?_; omega)
  case he => exact .cons (.cons (.cons .nil))
end Mine
end
section
open PySem PySem.W PyProof.Rows PySem.Calls PySem.Spec
set_option maxRecDepth 100000
set_option maxHeartbeats 400000
namespace Mine
theorem ValOk.len {v : Value} {d : PyData} (w : World) (h : ValOk v d) : d.shown.length ≤ 100000 := (ValOk.shows (prog := Challenge.rw_dm0030_01.row.prog) (w := w) (news := []) h).1
theorem ents4 {P : Params} {n1 n2 n3 n4 : Str} {v1 v2 v3 v4 : Value} {es : List DictEntry} (h : Ents P [(n1, v1), (n2, v2), (n3, v3), (n4, v4)] es) : ∃ k1 k2 k3 k4, es = [⟨PyData.keyHash P n1, .str n1 k1, v1⟩, ⟨PyData.keyHash P n2, .str n2 k2, v2⟩, ⟨PyData.keyHash P n3, .str n3 k3, v3⟩, ⟨PyData.keyHash P n4, .str n4 k4, v4⟩] := by
  cases h with | cons h => cases h with | cons h => cases h with | cons h => cases h with | cons h => cases h; exact ⟨_, _, _, _, rfl⟩
theorem ents3 {P : Params} {n1 n2 n3 : Str} {v1 v2 v3 : Value} {es : List DictEntry} (h : Ents P [(n1, v1), (n2, v2), (n3, v3)] es) : ∃ k1 k2 k3, es = [⟨PyData.keyHash P n1, .str n1 k1, v1⟩, ⟨PyData.keyHash P n2, .str n2 k2, v2⟩, ⟨PyData.keyHash P n3, .str n3 k3, v3⟩] := by
  cases h with | cons h => cases h with | cons h => cases h with | cons h => cases h; exact ⟨_, _, _, rfl⟩
theorem abs_ok {x y z : Int} (h : z = (if x < 0 then -x else x) + y) (hy : 0 ≤ y) : 0 ≤ z := by subst h; split <;> omega
theorem ValOk.handed {v : Value} {d : PyData} (h : ValOk v d) : handedIn v = true := by
  rcases h with ⟨rfl, rfl⟩ | ⟨n, k, rfl, _, _, rfl⟩ | ⟨x, k, rfl, _, _, rfl⟩ <;> rfl
theorem ValOk.sn {w : World} {news : List (Addr × Obj)} {v : Value} {d : PyData} (h : ValOk v d) : SN w news v d.shown := h.shows
theorem told_flat {v1 v2 v3 v4 : Value} {d1 d2 d3 d4 : PyData} (h1 : ValOk v1 d1) (h2 : ValOk v2 d2) (h4 : ValOk v4 d4) (h3 : ValOk v3 d3) : flatD (.str (told1 d1.shown d2.shown d4.shown d3.shown)) :=
  ascii_append (ascii_append (ascii_append (ascii_append (ascii_append (ascii_of (by decide +kernel)) h1.shown_ascii) (ascii_of (by decide +kernel))) h2.shown_ascii) (ascii_append (ascii_of (by decide +kernel)) h4.shown_ascii)) (ascii_append (ascii_of (by decide +kernel)) h3.shown_ascii)
/-- an element of the law's drawn list -/
def EltOk (news : List (Addr × Obj)) (y : Value) (news' : List (Addr × Obj)) : Prop := news' = news ∧ ∃ d, ValOk y d
section
variable {prog : Program} {w : World} {A : Around} {h₀ : Heap} {L : Addr} {m : Str → Option Value} {env : Env} {elt : Expr} {x : Str} {scope : Scope} {cl : List (Str × Addr)} {s : Shared} {S : List (Addr × Obj) → Prop} {Fin : List Value → List (Addr × Obj) → Prop} {news : List (Addr × Obj)}
theorem rest4
    (turn : ∀ k t I oI C oC D m₂ ys h tk (E' : Value → Shared → Prop), 0 ≤ k → k < 4 → LCg.NsObj oC m₂ → m₂ x = some (.int k t) → Fr h₀ L h m → News h₀ L h ((I, oI) :: (C, oC) :: (D, LCg.lst ys) :: news) → LCg.Off3 I C D news → ((@Ne Nat I C) ∧ (@Ne Nat I D) ∧ (@Ne Nat C D)) →
      wpAny (model prog w) A (eval elt (compEnvC scope cl C env)) (LCg.CompEnd h₀ L m { s with heap := h, toks := tk } I oI C oC D (LCg.lst ys) S (fun y news' => EltOk news y news')) E' { s with heap := h, toks := tk })
    (fin : ∀ v1 v2 v3 v4 d1 d2 d3 d4, ValOk v1 d1 → ValOk v2 d2 → ValOk v3 d3 → ValOk v4 d4 → (d1.shown.length ≤ 100000 ∧ d2.shown.length ≤ 100000 ∧ d3.shown.length ≤ 100000 ∧ d4.shown.length ≤ 100000) → Fin [v1, v2, v3, v4] news) : LCg.CompRest prog w A h₀ L m env elt x scope cl s S (fun i v => ∃ t, v = .int (0 + (i : Int)) t) Fin 4 0 [] news := by
  have key : ∀ (j i : Nat) (ys : List Value), i + j = 4 → ys.length = i → (∀ y ∈ ys, ∃ d, ValOk y d) → LCg.CompRest prog w A h₀ L m env elt x scope cl s S (fun i v => ∃ t, v = .int (0 + (i : Int)) t) Fin j i ys news := by
    intro j
    induction j with
    | zero =>
      intro i ys hi hl hy
      have hl4 : ys.length = 4 := by omega
      obtain ⟨a, b, c, d, rfl⟩ : ∃ a b c d, ys = [a, b, c, d] := by
        match ys, hl4 with
        | [a, b, c, d], _ => exact ⟨a, b, c, d, rfl⟩
      obtain ⟨d1, h1⟩ := hy a (by simp)
      obtain ⟨d2, h2⟩ := hy b (by simp)
      obtain ⟨d3, h3⟩ := hy c (by simp)
      obtain ⟨d4, h4⟩ := hy d (by simp)
      exact LCg.CompRest.zero (fin _ _ _ _ _ _ _ _ h1 h2 h3 h4 ⟨h1.len w, h2.len w, h3.len w, h4.len w⟩)
    | succ j ih =>
      intro i ys hi hl hy
      refine LCg.CompRest.succ ?_
      rintro v I oI C oC D m₂ h tk E' ⟨t, rfl⟩ hC hx F N off ne
      refine wpAny_mono (turn _ t I oI C oC D m₂ ys h tk E' (by omega) (by omega) hC hx F N off ne) (fun y s₂ hq => ?_) fun _ _ e => e
      obtain ⟨h', tk', nw, e, F', N', off', hS, hn, hP⟩ := hq
      rw [hn] at N' off' hS
      refine ⟨h', tk', news, e, F', N', off', hS, ?_⟩
      refine ih (i + 1) _ (by omega) (by simp [hl]) ?_
      intro z hz
      rcases List.mem_append.mp hz with hz | hz
      · exact hy z hz
      · rw [List.mem_singleton.mp hz]; exact hP
  exact key 4 0 [] (by omega) rfl (fun _ h => nomatch h)
end
end Mine
end
section
open PySem PySem.W PyProof.Rows PySem.Calls PySem.Spec
namespace Mine
theorem units_make9 {A : Around} {C : Addr} {rest : List Value} {kw : List (Str × Value)} : (A.under (.builtin "type.__call__" ⟨.ref C :: rest, kw⟩)).units = A.units + 1 := rfl
local macro_rules | `(tactic| ktr_room) => `(tactic| (simp only [depth_under_make, depth_under_kw, depth_in1, depth_deeper, depth_caller, ktrTop]; omega))
local macro_rules | `(tactic| ktr_units) => `(tactic| (simp only [units_make9, units_in1, units_deeper, Around.mark_units, units_caller, ktrTop]; omega))
local macro_rules | `(tactic| k_room) => `(tactic| ktr_room)
local macro_rules | `(tactic| k_units) => `(tactic| ktr_units)
local macro_rules | `(tactic| k_all) => `(tactic| (first | refine allBelow (by assumption) ?_ | refine allBelow (tb_ltOf (by assumption)) ?_); (try dsimp only); omega)
local macro_rules | `(tactic| k_inst) => `(tactic| (refine' instE ?N ?h1 ?h2; (case N => k_asm); (case h1 => tb_rel); (case h2 => tb_rel)))
local macro_rules | `(tactic| tb_start) => `(tactic| first | (refine' AtL.head ?a; (case a => k_all)) | (refine' AtL.tail ?a ?b; (case a => k_ne); (case b => tb_start)))
local macro_rules | `(tactic| tb_rel) => `(tactic| (repeat (first | assumption | apply List.Mem.tail)))
local macro_rules | `(tactic| walk_at "call builtin:str.format") => `(tactic| (k_here; (with_reducible show wpAny _ _ (call (Value.builtin "str.format") (Value.str _ _ :: _)) _ _ _); k_dflt (refine' fmt1_N ?k1 ?k2 ?k3 ?k4 ?k5 ?k6 ?k7 ?k8 ?k9 ?_; (case k1 => k_asm); (case k2 => k_asm); (case k6 => assumption); (case k7 => assumption); (case k8 => assumption); (case k9 => assumption); (case k3 => (intro p hp; tb_rel)); (case k4 => exact rfl); (case k5 => ktr_units); k_whole); intro h' u' tk' F' N'; (try k_sweep)))
local macro_rules | `(tactic| walk_at "setAttr ref") => `(tactic| (k_here; k_dflt (first
  | (refine' setE_args ?k1 ?k2 ?k3 ?k4 ?k5 ?k6 ?k7 ?k8 ?k9 ?k10 ?_; (case k1 => k_asm); (case k2 => k_asm); (case k3 => k_asm); (case k4 => k_inst); (case k5 => kernel_rfl); (case k6 => k_is); (case k7 => kernel_rfl); (case k8 => k_is); (case k9 => k_upd); (case k10 => k_mem); k_whole; intro h' F' N'; (try k_sweep))
  | (refine' setE_dict ?k1 ?k2 ?k3 ?k4 ?k5 ?k6 ?k7 ?k8 ?k9 ?k10 ?k11 ?k12 ?k13 ?_; (case k1 => k_asm); (case k2 => k_asm); (case k3 => k_asm); (case k4 => k_inst); (case k5 => exact rfl); (case k6 => k_is); (case k7 => kernel_rfl); (case k8 => k_is); (case k9 => kernel_rfl); (case k10 => k_get); (case k11 => k_put); (case k12 => k_upd); (case k13 => exact Nat.le_of_ble_eq_true rfl); k_whole; intro h' F' N'; (try k_sweep))
  | (refine' setE_first ?k1 ?k2 ?k3 ?k4 ?k5 ?k6 ?k7 ?k8 ?_; (case k1 => k_asm); (case k2 => k_asm); (case k3 => k_asm); (case k4 => tb_start); (case k5 => k_is); (case k6 => kernel_rfl); (case k7 => k_is); (case k8 => kernel_rfl); k_whole; intro d' h' F' N' l1; (try simp only [List.cons_append, List.nil_append] at N'); (try k_lt l1); (try k_sweep)))))
local macro_rules | `(tactic| walk_at "getMethod type:Exception") => `(tactic| (k_here; refine' method_type ?F ?X ?m (by decide +kernel) ?e ?h ?_; (case F => k_asm); (case X => k_asm); (case m => exact meta_exc); (case e => k_dflt k_is); (case h => k_handed)))
local macro_rules | `(tactic| walk_at "call builtin:Exception.__init__") => `(tactic| (k_here; k_dflt (refine' exInit_N ?k1 ?k2 ?k3 ?k4 ?k5 ?k6 ?k7 ?_; (case k1 => k_asm); (case k2 => k_asm); (case k3 => k_asm); (case k4 => k_inst); (case k5 => kernel_rfl); (case k6 => kernel_rfl); (case k7 => tb_start); k_whole; intro d' h' F' N' l1; (try simp only [List.cons_append, List.nil_append] at N'); (try k_lt l1); (try k_sweep))))
set_option maxRecDepth 100000
set_option maxHeartbeats 400000
local macro_rules | `(tactic| walk_at "getAttr ref") => `(tactic| (k_here; k_dflt (refine' getE_own ?F ?X ?I ?hg ?hh ?ha ?hn ?hl ?hv ?_; (case F => k_asm); (case X => k_asm); (case I => k_inst); (case hg => kernel_rfl); (case hh => kernel_rfl); (case ha => k_is); (case hn => kernel_rfl); (case hl => k_get); (case hv => exact rfl); k_whole)))
theorem tell78 {w : World} {x t d : Addr} {v1 v2 v3 : Value} {T : Str} {u k0 k1 k2 k3 : Tok} : C1 w 36 3 20 [.ref x] [] (fun news => (x, excObj 78 t (some d)) ∈ news ∧ (d, dictOf [⟨PyData.keyHash w.params (Str.ofString "message"), .str (Str.ofString "message") k0, .str T u⟩, ⟨PyData.keyHash w.params (Str.ofString "option"), .str (Str.ofString "option") k1, v1⟩, ⟨PyData.keyHash w.params (Str.ofString "section"), .str (Str.ofString "section") k2, v2⟩, ⟨PyData.keyHash w.params (Str.ofString "reference"), .str (Str.ofString "reference") k3, v3⟩] 4) ∈ news) (fun tl r => tl = [] ∧ r = .str T u) := by
  unfold C1 Callee
  k_fill
  intro loose mean mg mb dp un cn cs a ccd cl outer A₀ base h₀ L m news s Q E B F X N T hk hrel hd hu hret
  obtain ⟨m1, m2⟩ := hrel
  refine wpAny_call ?_
  k_dflt ktr_enter
  k_steps
  exact hret _ [] _ _ (by k_asm) (by k_asm) (fun _ h => nomatch h) ⟨rfl, rfl⟩
theorem tell59 {w : World} {x t d : Addr} {v1 v2 : Value} {T : Str} {u k0 k1 k2 : Tok} : C1 w 36 3 20 [.ref x] [] (fun news => (x, excObj 59 t (some d)) ∈ news ∧ (d, dictOf [⟨PyData.keyHash w.params (Str.ofString "message"), .str (Str.ofString "message") k0, .str T u⟩, ⟨PyData.keyHash w.params (Str.ofString "option"), .str (Str.ofString "option") k1, v1⟩, ⟨PyData.keyHash w.params (Str.ofString "section"), .str (Str.ofString "section") k2, v2⟩] 3) ∈ news) (fun tl r => tl = [] ∧ r = .str T u) := by
  unfold C1 Callee
  k_fill
  intro loose mean mg mb dp un cn cs a ccd cl outer A₀ base h₀ L m news s Q E B F X N T hk hrel hd hu hret
  obtain ⟨m1, m2⟩ := hrel
  refine wpAny_call ?_
  k_dflt ktr_enter
  k_steps
  exact hret _ [] _ _ (by k_asm) (by k_asm) (fun _ h => nomatch h) ⟨rfl, rfl⟩
end Mine
end
section
open PySem PySem.W PyProof.Rows PySem.Calls PySem.Spec
namespace Mine
noncomputable def lawBody (P : Params) : List Stmt := match (Mine.hd.heap_39 P).lookup 99 with
  | some ⟨_, _, .func fd, _⟩ => (match fd.body with | .stmts b => b | _ => [])
  | _ => []
noncomputable def lawScope (P : Params) : Scope := match (Mine.hd.heap_39 P).lookup 99 with
  | some ⟨_, _, .func fd, _⟩ => fd.scope
  | _ => default
noncomputable def lawTurn (P : Params) : List Stmt := match lawBody P with
  | [_, .For _ _ b _ _, _] => b
  | _ => []
noncomputable def lawInner (P : Params) : List Stmt := match lawTurn P with
  | [_, _, _, _, _, _, _, .For _ _ b _ _, _, _, _] => b
  | _ => []
noncomputable def lawRest (P : Params) : List Stmt := match lawTurn P with
  | [_, _, _, _, _, _, _, _, a, b, c] => [a, b, c]
  | _ => []
local macro_rules | `(tactic| ktr_room) => `(tactic| (simp only [depth_under_make, depth_under_kw, depth_in1, depth_deeper, depth_caller, ktrTop]; omega))
local macro_rules | `(tactic| ktr_units) => `(tactic| (simp only [units_make, units_in1, units_deeper, Around.mark_units, units_caller, ktrTop]; omega))
local macro_rules | `(tactic| k_room) => `(tactic| ktr_room)
local macro_rules | `(tactic| k_units) => `(tactic| ktr_units)
local macro_rules | `(tactic| tb_rel) => `(tactic| (repeat (first | assumption | apply List.Mem.tail)))
local macro_rules | `(tactic| k_all) => `(tactic| (first | refine allBelow (by assumption) ?_ | refine allBelow (tb_ltOf (by assumption)) ?_); (try dsimp only); omega)
local macro_rules | `(tactic| walk_at "exec For") => `(tactic| (k_here; refine wpAny_For ?_ (fun _ => rfl)))
local macro_rules | `(tactic| k_mem) => `(tactic| first | exact List.Mem.head _ | assumption | (refine' List.Mem.tail _ ?_; k_mem))
local macro_rules | `(tactic| walk_at "call ref") => `(tactic| (k_here; k_dflt (first
  | ((with_reducible show wpAny _ _ (call (Value.ref 36) _ _) _ _ _); first | (refine' callee_use tell78 ?B ?F ?X ?N ?T ?hk ?hr ?hd ?hu ?_; (case B => k_asm); (case F => k_asm); (case X => k_asm); (case N => k_asm); (case hr => exact ⟨by k_mem, by k_mem⟩); (case T => k_asm); (case hk => exact rfl); (case hd => ktr_room); (case hu => ktr_units); k_whole; intro r' tl' h' tk' F' N' o1' o2'; (have e1' := o2'.1); (have e2' := o2'.2); subst e1'; subst e2'; clear o1' o2'; (try simp only [List.nil_append] at N'); (try dsimp only [StrBack]); (try k_sweep)) | (refine' callee_use tell59 ?B ?F ?X ?N ?T ?hk ?hr ?hd ?hu ?_; (case B => k_asm); (case F => k_asm); (case X => k_asm); (case N => k_asm); (case hr => exact ⟨by k_mem, by k_mem⟩); (case T => k_asm); (case hk => exact rfl); (case hd => ktr_room); (case hu => ktr_units); k_whole; intro r' tl' h' tk' F' N' o1' o2'; (have e1' := o2'.1); (have e2' := o2'.2); subst e1'; subst e2'; clear o1' o2'; (try simp only [List.nil_append] at N'); (try dsimp only [StrBack]); (try k_sweep)))
  | ((with_reducible show wpAny _ _ (call (Value.ref 87) _ _) _ _ _); refine' callee_use (value_spec ?hn) ?B ?F ?X ?N ?T ?hk trivial ?hd ?hu ?_; (case hn => first | omega | (split <;> omega)); (case B => k_asm); (case F => k_asm); (case X => k_asm); (case N => k_asm); (case T => k_asm); (case hk => exact rfl); (case hd => ktr_room); (case hu => ktr_units); k_whole; intro r' tl' h' tk' F' N' o1' o2'; (have e1' := o2'.1); (obtain ⟨d', hv'⟩ := o2'.2); subst e1'; clear o1' o2'; (try simp only [List.nil_append] at N'); (try k_sweep))
  | ((with_reducible show wpAny _ _ (call (Value.ref 94) _ _) _ _ _); refine' callee_use (written_spec ?hv) ?B ?F ?X ?N ?T ?hk trivial ?hd ?hu ?_; (case hv => assumption); (case B => k_asm); (case F => k_asm); (case X => k_asm); (case N => k_asm); (case T => k_asm); (case hk => exact rfl); (case hd => ktr_room); (case hu => ktr_units); k_whole; intro r' tl' h' tk' F' N' o1' o2'; (have e1' := o2'.1); (obtain ⟨k', e2'⟩ := o2'.2); subst e1'; subst e2'; clear o1' o2'; (try simp only [List.nil_append] at N'); (try k_sweep))
  | ((with_reducible show wpAny _ _ (call (Value.ref 78) (_ :: _) _) _ _ _); refine' callee_use mk78 ?B ?F ?X ?N ?T ?hk ?hr ?hd ?hu ?_; (case B => k_asm); (case F => k_asm); (case X => k_asm); (case N => k_asm); (case hr => exact ⟨ValOk.sn (by assumption), ValOk.sn (by assumption), ValOk.sn (by assumption), ValOk.sn (by assumption)⟩); (case T => k_asm); (case hk => exact rfl); (case hd => ktr_room); (case hu => ktr_units); k_whole; intro r' tl' h' tk' F' N' o1' o2'; (obtain ⟨x', d', t', u', es', e1', e2', e3'⟩ := o2'); subst e1'; subst e2'; (obtain ⟨k1', k2', k3', k4', e4'⟩ := ents4 e3'); subst e4'; clear o1' e3'; (try simp only [List.cons_append, List.nil_append, List.length_cons, List.length_nil] at N'); (try k_sweep))
  | ((with_reducible show wpAny _ _ (call (Value.ref 78) [] _) _ _ _); refine' callee_use mk78k ?B ?F ?X ?N ?T ?hk ?hr ?hd ?hu ?_; (case B => k_asm); (case F => k_asm); (case X => k_asm); (case N => k_asm); (case hr => exact ⟨ValOk.sn (by assumption), ValOk.sn (by assumption), ValOk.sn (by assumption), ValOk.sn (by assumption)⟩); (case T => k_asm); (case hk => exact rfl); (case hd => ktr_room); (case hu => ktr_units); k_whole; intro r' tl' h' tk' F' N' o1' o2'; (obtain ⟨x', d', t', u', es', e1', e2', e3'⟩ := o2'); subst e1'; subst e2'; (obtain ⟨k1', k2', k3', k4', e4'⟩ := ents4 e3'); subst e4'; clear o1' e3'; (try simp only [List.cons_append, List.nil_append, List.length_cons, List.length_nil] at N'); (try k_sweep))
  | ((with_reducible show wpAny _ _ (call (Value.ref 59) _ _) _ _ _); refine' callee_use mk59k ?B ?F ?X ?N ?T ?hk trivial ?hd ?hu ?_; (case B => k_asm); (case F => k_asm); (case X => k_asm); (case N => k_asm); (case T => k_asm); (case hk => exact rfl); (case hd => ktr_room); (case hu => ktr_units); k_whole; intro r' tl' h' tk' F' N' o1' o2'; (obtain ⟨x', d', t', u', es', e1', e2', e3'⟩ := o2'); subst e1'; subst e2'; (obtain ⟨k1', k2', k3', e4'⟩ := ents3 e3'); subst e4'; clear o1' e3'; (try simp only [List.cons_append, List.nil_append, List.length_cons, List.length_nil] at N'); (try k_sweep)))))
local macro_rules | `(tactic| k_inst) => `(tactic| (refine' instE ?N ?h1 ?h2; (case N => k_asm); (case h1 => k_mem); (case h2 => k_mem)))
local macro_rules | `(tactic| ktr_rel) => `(tactic| (rw [sizeLine_eq]; (try simp only [PySem.Str.length_append, el1, el2, el3, el4]); omega))
local macro_rules | `(tactic| walk_at "binaryOp Add str str") => `(tactic| (k_here; (refine PyProof.Rows.add_str (hsz := ?hsz) ?_); (case hsz => ktr_rel); intro _ _))
local macro_rules | `(tactic| walk_at "inplaceOp Add str str") => `(tactic| (k_here; (refine PyProof.Rows.iadd_str (hsz := ?hsz) ?_); (case hsz => ktr_rel); intro _ _))
local macro_rules | `(tactic| walk_at "getAttr ref") => `(tactic| (k_here; k_dflt (first
  | ((with_reducible show wpAny _ _ (getAttr (Value.ref _) ("args" : Str) _) _ _ _); refine' getE_args ?F ?X ?I ?hg ?hf ?_; (case F => k_asm); (case X => k_asm); (case I => k_inst); (case hg => kernel_rfl); (case hf => first | kernel_rfl | k_is | exact rfl); k_whole)
  | (refine' getE_own ?F ?X ?I ?hg ?hh ?ha ?hn ?hl ?hv ?_; (case F => k_asm); (case X => k_asm); (case I => k_inst); (case hg => kernel_rfl); (case hh => kernel_rfl); (case ha => k_is); (case hn => kernel_rfl); (case hl => k_get); (case hv => first | exact rfl | exact ValOk.handed (by assumption)); k_whole))))
local macro_rules | `(tactic| walk_at "call builtin:hasattr") => `(tactic| (k_here; k_dflt (refine' hasattrE ?F ?X ?N ?hA ?I ?hg ?hm ?hf ?hnm ?hn ?_; (case F => k_asm); (case X => k_asm); (case N => k_asm); (case hA => exact rfl); (case I => k_inst); (case hg => kernel_rfl); (case hm => k_is); (case hf => first | kernel_rfl | k_is | exact rfl); (case hnm => kernel_rfl); (case hn => exact Nat.le_of_ble_eq_true rfl); k_whole); intro h' tk' F' N'; (try k_sweep)))
local macro_rules | `(tactic| walk_at "m_flat") => `(tactic| first | exact told_flat (by assumption) (by assumption) (by assumption) (by assumption) | exact ValOk.flat (by assumption))
local macro_rules | `(tactic| walk_at "m_rds") => `(tactic| first | exact ReadsAll.nil | (refine' ReadsAll.cons ?ea ?eb; (case ea => first | exact Reads.str _ _ | exact ValOk.rd (by assumption) _); (case eb => (walk_at "m_rds"))))
local macro_rules | `(tactic| walk_at "m_seq") => `(tactic| first | (refine' rd_list ?N ?m ?r; (case N => k_asm); (case m => k_mem); (case r => (walk_at "m_rds"))) | (refine' rd_tuple ?N ?m ?r; (case N => k_asm); (case m => k_mem); (case r => (walk_at "m_rds"))))
local macro_rules | `(tactic| walk_at "m_shaped") => `(tactic| ((first | refine shaped_list ?_ | refine shaped_tuple ?_); (repeat (first | exact List.forall_mem_nil _ | refine List.forall_mem_cons.mpr ⟨by (walk_at "m_flat"), ?_⟩))))
local macro_rules | `(tactic| walk_at "compareOp NotEq ref ref") => `(tactic| (k_here; k_dflt (refine' ne_same ?ra ?rb ?hs ?hu ?_; (case ra => (walk_at "m_seq")); (case rb => (walk_at "m_seq")); (case hs => (walk_at "m_shaped")); (case hu => ktr_units); k_whole)))
theorem isL {h₀ h : Heap} {L a : Addr} {vs : List Value} {n : Nat} {news : List (Addr × Obj)} (N : News h₀ L h news) (hm : (a, W.listOf vs.toArray n) ∈ news) : h.IsList a vs.toArray := ⟨_, (N _ hm).1, rfl, _, rfl⟩
local macro_rules | `(tactic| walk_at "binaryOp Mult ref int") => `(tactic| (k_here; k_dflt (refine' KMa.mul ?F ?N ?l ?lo ?hi ?z ?e ?_; (case F => k_asm); (case N => k_asm); (case l => (refine' isL ?N9 ?m9; (case N9 => k_asm); (case m9 => k_mem))); (case lo => decide); (case hi => decide); (case z => (simp only [List.length_cons, List.length_nil]; decide)); (case e => (simp only [Int.reduceToNat, List.replicate_succ, List.replicate_zero, List.flatten_cons, List.flatten_nil, List.cons_append, List.nil_append, List.append_nil]; first | done | exact rfl)); k_whole); intro D' h' F' N' l1; (try k_lt l1); (try k_sweep)))
set_option maxRecDepth 100000
set_option maxHeartbeats 4000000
theorem el1 : (Str.ofString "Bad value substitution: option ").length = 31 := by decide +kernel
theorem el2 : (Str.ofString " in section ").length = 12 := by decide +kernel
theorem el3 : (Str.ofString " contains an interpolation key ").length = 31 := by decide +kernel
theorem el4 : (Str.ofString " which is not a valid option name. Raw value: ").length = 46 := by decide +kernel
theorem one_turn {w : World} {body : List Stmt} {cs : Scope} (hbody : body = lawInner w.params) (hcs : cs = lawScope w.params) :
   ∀ (loose : List PySem.Str) (mean : ExcName → Option Value) (mg mb : PySem.Str → Option Value) (dp un : Nat) (a : Addr) (ccd : Value) (cl : List (PySem.Str × Addr)) (outer : List Env) (A₀ : Around) (base h₀ : Heap) (L : Addr) (m : PySem.Str → Option Value) (news : List (Addr × Obj)) (s : Shared)
    (Q : Flow → Shared → Prop) (E : Value → Shared → Prop) (x t d : Addr) (v1 v2 v3 v4 : Value) (d1 d2 d3 d4 : PyData) (T : Str) (k u k1 k2 k3 k4 : Tok),
    Below A₀ base outer h₀ → Fr h₀ L s.heap m → (Mine.hd.heap_39 w.params).In h₀ → News h₀ L s.heap news → Top Mine.hd.view_39 loose mean mg mb h₀ → dp + 20 < recursionLimit → un + 300 < cLine →
    T = told1 d1.shown d2.shown d4.shown d3.shown → ValOk v1 d1 → ValOk v2 d2 → ValOk v3 d3 → ValOk v4 d4 →
    m (Str.ofString "one") = some (.ref x) → m (Str.ofString "due") = some (.str T k) → m (Str.ofString "option") = some v1 → m (Str.ofString "section") = some v2 → m (Str.ofString "rawval") = some v3 → m (Str.ofString "reference") = some v4 →
    (x, excObj 78 t (some d)) ∈ news → (t, tupObj [v1, v2, v3, v4]) ∈ news →
    (d, dictOf [⟨PyData.keyHash w.params (Str.ofString "message"), .str (Str.ofString "message") k1, .str T u⟩, ⟨PyData.keyHash w.params (Str.ofString "option"), .str (Str.ofString "option") k2, v1⟩, ⟨PyData.keyHash w.params (Str.ofString "section"), .str (Str.ofString "section") k3, v2⟩, ⟨PyData.keyHash w.params (Str.ofString "reference"), .str (Str.ofString "reference") k4, v4⟩] 4) ∈ news →
    (∀ h' tk', Fr h₀ L h' m → News h₀ L h' news → Q .next { s with heap := h', toks := tk' }) →
    wpAny (model Challenge.rw_dm0030_01.row.prog w) (ktrTop dp un (some []) (Str.ofString "law") cs L a ccd cl outer) (execs body (envX (Str.ofString "law") cs L a ccd cl)) Q E s := by
  (conv at hbody => (rhs; whnf))
  (conv at hcs => (rhs; whnf))
  subst hbody
  subst hcs
  k_fill
  intro loose mean mg mb dp un a ccd cl outer A₀ base h₀ L m news s Q E x t d v1 v2 v3 v4 d1 d2 d3 d4 T k u k1 k2 k3 k4 B F X N T9 hd hu hT hv1 hv2 hv3 hv4 n1 n2 n3 n4 n5 n6 m1 m2 m3 hret
  have e : (fun y => if y = Str.ofString "one" then some (Value.ref x) else if y = Str.ofString "due" then some (.str T k) else if y = Str.ofString "option" then some v1 else if y = Str.ofString "section" then some v2 else if y = Str.ofString "rawval" then some v3 else if y = Str.ofString "reference" then some v4 else m y) = m := by
    funext y
    repeat (first | rfl | (split; (rename_i e; rw [e]; first | exact n1.symm | exact n2.symm | exact n3.symm | exact n4.symm | exact n5.symm | exact n6.symm)))
  have F2 : Fr h₀ L s.heap (fun y => if y = Str.ofString "one" then some (Value.ref x) else if y = Str.ofString "due" then some (.str T k) else if y = Str.ofString "option" then some v1 else if y = Str.ofString "section" then some v2 else if y = Str.ofString "rawval" then some v3 else if y = Str.ofString "reference" then some v4 else m y) := by rw [e]; exact F
  have ret2 : ∀ h' tk', Fr h₀ L h' (fun y => if y = Str.ofString "one" then some (Value.ref x) else if y = Str.ofString "due" then some (.str T k) else if y = Str.ofString "option" then some v1 else if y = Str.ofString "section" then some v2 else if y = Str.ofString "rawval" then some v3 else if y = Str.ofString "reference" then some v4 else m y) → News h₀ L h' news → Q .next { s with heap := h', toks := tk' } := by
    intro h' tk' F' N'
    rw [e] at F'; exact hret h' tk' F' N'
  clear e
  clear hret F n1 n2 n3 n4 n5 n6
  subst hT
  k_steps
  (rename Fr _ _ _ _ => lF); (rename News _ _ _ _ => lN)
  exact ret2 _ _ lF (fun p hp => lN p (by tb_rel))
end Mine
end
section
open PySem PySem.W PyProof.Rows PySem.Calls PySem.Spec
namespace Mine
local macro_rules | `(tactic| ktr_room) => `(tactic| (simp only [depth_under_make, depth_under_kw, depth_in1, depth_deeper, depth_caller, ktrTop]; omega))
local macro_rules | `(tactic| ktr_units) => `(tactic| (simp only [units_make, units_in1, units_deeper, Around.mark_units, units_caller, ktrTop]; omega))
local macro_rules | `(tactic| k_room) => `(tactic| ktr_room)
local macro_rules | `(tactic| k_units) => `(tactic| ktr_units)
local macro_rules | `(tactic| tb_rel) => `(tactic| (repeat (first | assumption | apply List.Mem.tail)))
local macro_rules | `(tactic| k_all) => `(tactic| (first | refine allBelow (by assumption) ?_ | refine allBelow (tb_ltOf (by assumption)) ?_); (try dsimp only); omega)
local macro_rules | `(tactic| walk_at "exec For") => `(tactic| (k_here; refine wpAny_For ?_ (fun _ => rfl)))
local macro_rules | `(tactic| k_mem) => `(tactic| first | exact List.Mem.head _ | assumption | (refine' List.Mem.tail _ ?_; k_mem))
local macro_rules | `(tactic| walk_at "call ref") => `(tactic| (k_here; k_dflt (first
  | ((with_reducible show wpAny _ _ (call (Value.ref 36) _ _) _ _ _); first | (refine' callee_use tell78 ?B ?F ?X ?N ?T ?hk ?hr ?hd ?hu ?_; (case B => k_asm); (case F => k_asm); (case X => k_asm); (case N => k_asm); (case hr => exact ⟨by k_mem, by k_mem⟩); (case T => k_asm); (case hk => exact rfl); (case hd => ktr_room); (case hu => ktr_units); k_whole; intro r' tl' h' tk' F' N' o1' o2'; (have e1' := o2'.1); (have e2' := o2'.2); subst e1'; subst e2'; clear o1' o2'; (try simp only [List.nil_append] at N'); (try dsimp only [StrBack]); (try k_sweep)) | (refine' callee_use tell59 ?B ?F ?X ?N ?T ?hk ?hr ?hd ?hu ?_; (case B => k_asm); (case F => k_asm); (case X => k_asm); (case N => k_asm); (case hr => exact ⟨by k_mem, by k_mem⟩); (case T => k_asm); (case hk => exact rfl); (case hd => ktr_room); (case hu => ktr_units); k_whole; intro r' tl' h' tk' F' N' o1' o2'; (have e1' := o2'.1); (have e2' := o2'.2); subst e1'; subst e2'; clear o1' o2'; (try simp only [List.nil_append] at N'); (try dsimp only [StrBack]); (try k_sweep)))
  | ((with_reducible show wpAny _ _ (call (Value.ref 87) _ _) _ _ _); refine' callee_use (value_spec ?hn) ?B ?F ?X ?N ?T ?hk trivial ?hd ?hu ?_; (case hn => first | omega | (split <;> omega)); (case B => k_asm); (case F => k_asm); (case X => k_asm); (case N => k_asm); (case T => k_asm); (case hk => exact rfl); (case hd => ktr_room); (case hu => ktr_units); k_whole; intro r' tl' h' tk' F' N' o1' o2'; (have e1' := o2'.1); (obtain ⟨d', hv'⟩ := o2'.2); subst e1'; clear o1' o2'; (try simp only [List.nil_append] at N'); (try k_sweep))
  | ((with_reducible show wpAny _ _ (call (Value.ref 94) _ _) _ _ _); refine' callee_use (written_spec ?hv) ?B ?F ?X ?N ?T ?hk trivial ?hd ?hu ?_; (case hv => assumption); (case B => k_asm); (case F => k_asm); (case X => k_asm); (case N => k_asm); (case T => k_asm); (case hk => exact rfl); (case hd => ktr_room); (case hu => ktr_units); k_whole; intro r' tl' h' tk' F' N' o1' o2'; (have e1' := o2'.1); (obtain ⟨k', e2'⟩ := o2'.2); subst e1'; subst e2'; clear o1' o2'; (try simp only [List.nil_append] at N'); (try k_sweep))
  | ((with_reducible show wpAny _ _ (call (Value.ref 78) (_ :: _) _) _ _ _); refine' callee_use mk78 ?B ?F ?X ?N ?T ?hk ?hr ?hd ?hu ?_; (case B => k_asm); (case F => k_asm); (case X => k_asm); (case N => k_asm); (case hr => exact ⟨ValOk.sn (by assumption), ValOk.sn (by assumption), ValOk.sn (by assumption), ValOk.sn (by assumption)⟩); (case T => k_asm); (case hk => exact rfl); (case hd => ktr_room); (case hu => ktr_units); k_whole; intro r' tl' h' tk' F' N' o1' o2'; (obtain ⟨x', d', t', u', es', e1', e2', e3'⟩ := o2'); subst e1'; subst e2'; (obtain ⟨k1', k2', k3', k4', e4'⟩ := ents4 e3'); subst e4'; clear o1' e3'; (try simp only [List.cons_append, List.nil_append, List.length_cons, List.length_nil] at N'); (try k_sweep))
  | ((with_reducible show wpAny _ _ (call (Value.ref 78) [] _) _ _ _); refine' callee_use mk78k ?B ?F ?X ?N ?T ?hk ?hr ?hd ?hu ?_; (case B => k_asm); (case F => k_asm); (case X => k_asm); (case N => k_asm); (case hr => exact ⟨ValOk.sn (by assumption), ValOk.sn (by assumption), ValOk.sn (by assumption), ValOk.sn (by assumption)⟩); (case T => k_asm); (case hk => exact rfl); (case hd => ktr_room); (case hu => ktr_units); k_whole; intro r' tl' h' tk' F' N' o1' o2'; (obtain ⟨x', d', t', u', es', e1', e2', e3'⟩ := o2'); subst e1'; subst e2'; (obtain ⟨k1', k2', k3', k4', e4'⟩ := ents4 e3'); subst e4'; clear o1' e3'; (try simp only [List.cons_append, List.nil_append, List.length_cons, List.length_nil] at N'); (try k_sweep))
  | ((with_reducible show wpAny _ _ (call (Value.ref 59) _ _) _ _ _); refine' callee_use mk59k ?B ?F ?X ?N ?T ?hk trivial ?hd ?hu ?_; (case B => k_asm); (case F => k_asm); (case X => k_asm); (case N => k_asm); (case T => k_asm); (case hk => exact rfl); (case hd => ktr_room); (case hu => ktr_units); k_whole; intro r' tl' h' tk' F' N' o1' o2'; (obtain ⟨x', d', t', u', es', e1', e2', e3'⟩ := o2'); subst e1'; subst e2'; (obtain ⟨k1', k2', k3', e4'⟩ := ents3 e3'); subst e4'; clear o1' e3'; (try simp only [List.cons_append, List.nil_append, List.length_cons, List.length_nil] at N'); (try k_sweep)))))
local macro_rules | `(tactic| k_inst) => `(tactic| (refine' instE ?N ?h1 ?h2; (case N => k_asm); (case h1 => k_mem); (case h2 => k_mem)))
local macro_rules | `(tactic| ktr_rel) => `(tactic| (rw [sizeLine_eq]; (try simp only [PySem.Str.length_append, el1, el2, el3, el4]); omega))
local macro_rules | `(tactic| walk_at "binaryOp Add str str") => `(tactic| (k_here; (refine PyProof.Rows.add_str (hsz := ?hsz) ?_); (case hsz => ktr_rel); intro _ _))
local macro_rules | `(tactic| walk_at "inplaceOp Add str str") => `(tactic| (k_here; (refine PyProof.Rows.iadd_str (hsz := ?hsz) ?_); (case hsz => ktr_rel); intro _ _))
local macro_rules | `(tactic| walk_at "getAttr ref") => `(tactic| (k_here; k_dflt (first
  | ((with_reducible show wpAny _ _ (getAttr (Value.ref _) ("args" : Str) _) _ _ _); refine' getE_args ?F ?X ?I ?hg ?hf ?_; (case F => k_asm); (case X => k_asm); (case I => k_inst); (case hg => kernel_rfl); (case hf => first | kernel_rfl | k_is | exact rfl); k_whole)
  | (refine' getE_own ?F ?X ?I ?hg ?hh ?ha ?hn ?hl ?hv ?_; (case F => k_asm); (case X => k_asm); (case I => k_inst); (case hg => kernel_rfl); (case hh => kernel_rfl); (case ha => k_is); (case hn => kernel_rfl); (case hl => k_get); (case hv => first | exact rfl | exact ValOk.handed (by assumption)); k_whole))))
local macro_rules | `(tactic| walk_at "call builtin:hasattr") => `(tactic| (k_here; k_dflt (refine' hasattrE ?F ?X ?N ?hA ?I ?hg ?hm ?hf ?hnm ?hn ?_; (case F => k_asm); (case X => k_asm); (case N => k_asm); (case hA => exact rfl); (case I => k_inst); (case hg => kernel_rfl); (case hm => k_is); (case hf => first | kernel_rfl | k_is | exact rfl); (case hnm => kernel_rfl); (case hn => exact Nat.le_of_ble_eq_true rfl); k_whole); intro h' tk' F' N'; (try k_sweep)))
local macro_rules | `(tactic| walk_at "m_flat") => `(tactic| first | exact told_flat (by assumption) (by assumption) (by assumption) (by assumption) | exact ValOk.flat (by assumption))
local macro_rules | `(tactic| walk_at "m_rds") => `(tactic| first | exact ReadsAll.nil | (refine' ReadsAll.cons ?ea ?eb; (case ea => first | exact Reads.str _ _ | exact ValOk.rd (by assumption) _); (case eb => (walk_at "m_rds"))))
local macro_rules | `(tactic| walk_at "m_seq") => `(tactic| first | (refine' rd_list ?N ?m ?r; (case N => k_asm); (case m => k_mem); (case r => (walk_at "m_rds"))) | (refine' rd_tuple ?N ?m ?r; (case N => k_asm); (case m => k_mem); (case r => (walk_at "m_rds"))))
local macro_rules | `(tactic| walk_at "m_shaped") => `(tactic| ((first | refine shaped_list ?_ | refine shaped_tuple ?_); (repeat (first | exact List.forall_mem_nil _ | refine List.forall_mem_cons.mpr ⟨by (walk_at "m_flat"), ?_⟩))))
local macro_rules | `(tactic| walk_at "compareOp NotEq ref ref") => `(tactic| (k_here; k_dflt (refine' ne_same ?ra ?rb ?hs ?hu ?_; (case ra => (walk_at "m_seq")); (case rb => (walk_at "m_seq")); (case hs => (walk_at "m_shaped")); (case hu => ktr_units); k_whole)))
local macro_rules | `(tactic| walk_at "binaryOp Mult ref int") => `(tactic| (k_here; k_dflt (refine' KMa.mul ?F ?N ?l ?lo ?hi ?z ?e ?_; (case F => k_asm); (case N => k_asm); (case l => (refine' isL ?N9 ?m9; (case N9 => k_asm); (case m9 => k_mem))); (case lo => decide); (case hi => decide); (case z => (simp only [List.length_cons, List.length_nil]; decide)); (case e => (simp only [Int.reduceToNat, List.replicate_succ, List.replicate_zero, List.flatten_cons, List.flatten_nil, List.cons_append, List.nil_append, List.append_nil]; first | done | exact rfl)); k_whole); intro D' h' F' N' l1; (try k_lt l1); (try k_sweep)))
set_option maxRecDepth 100000
set_option maxHeartbeats 4000000
theorem rest_turn {w : World} {body : List Stmt} {cs : Scope} (hbody : body = lawRest w.params) (hcs : cs = lawScope w.params) :
   ∀ (loose : List PySem.Str) (mean : ExcName → Option Value) (mg mb : PySem.Str → Option Value) (dp un : Nat) (a : Addr) (ccd : Value) (cl : List (PySem.Str × Addr)) (outer : List Env) (A₀ : Around) (base h₀ : Heap) (L : Addr) (m : PySem.Str → Option Value) (news : List (Addr × Obj)) (s : Shared)
    (Q : Flow → Shared → Prop) (E : Value → Shared → Prop) (x t d : Addr) (v1 v2 v3 v4 : Value) (d1 d2 d3 d4 : PyData) (T : Str) (k u k1 k2 k3 k4 : Tok),
    Below A₀ base outer h₀ → Fr h₀ L s.heap m → (Mine.hd.heap_39 w.params).In h₀ → News h₀ L s.heap news → Top Mine.hd.view_39 loose mean mg mb h₀ → dp + 20 < recursionLimit → un + 300 < cLine →
    T = told1 d1.shown d2.shown d4.shown d3.shown → ValOk v1 d1 → ValOk v2 d2 → ValOk v3 d3 → ValOk v4 d4 →
    m (Str.ofString "err") = some (.ref x) → m (Str.ofString "due") = some (.str T k) → m (Str.ofString "option") = some v1 → m (Str.ofString "section") = some v2 →
    (x, excObj 78 t (some d)) ∈ news → 
    (d, dictOf [⟨PyData.keyHash w.params (Str.ofString "message"), .str (Str.ofString "message") k1, .str T u⟩, ⟨PyData.keyHash w.params (Str.ofString "option"), .str (Str.ofString "option") k2, v1⟩, ⟨PyData.keyHash w.params (Str.ofString "section"), .str (Str.ofString "section") k3, v2⟩, ⟨PyData.keyHash w.params (Str.ofString "reference"), .str (Str.ofString "reference") k4, v4⟩] 4) ∈ news →
    (∀ m' h' tk', Fr h₀ L h' m' → News h₀ L h' news → Q .next { s with heap := h', toks := tk' }) →
    wpAny (model Challenge.rw_dm0030_01.row.prog w) (ktrTop dp un (some []) (Str.ofString "law") cs L a ccd cl outer) (execs body (envX (Str.ofString "law") cs L a ccd cl)) Q E s := by
  (conv at hbody => (rhs; whnf))
  (conv at hcs => (rhs; whnf))
  subst hbody
  subst hcs
  k_fill
  intro loose mean mg mb dp un a ccd cl outer A₀ base h₀ L m news s Q E x t d v1 v2 v3 v4 d1 d2 d3 d4 T k u k1 k2 k3 k4 B F X N T9 hd hu hT hv1 hv2 hv3 hv4 n1 n2 n3 n4 m1 m3 hret
  have e : (fun y => if y = Str.ofString "err" then some (Value.ref x) else if y = Str.ofString "due" then some (.str T k) else if y = Str.ofString "option" then some v1 else if y = Str.ofString "section" then some v2 else m y) = m := by
    funext y
    repeat (first | rfl | (split; (rename_i e; rw [e]; first | exact n1.symm | exact n2.symm | exact n3.symm | exact n4.symm)))
  have F2 : Fr h₀ L s.heap (fun y => if y = Str.ofString "err" then some (Value.ref x) else if y = Str.ofString "due" then some (.str T k) else if y = Str.ofString "option" then some v1 else if y = Str.ofString "section" then some v2 else m y) := by rw [e]; exact F
  clear e F n1 n2 n3 n4
  subst hT
  k_steps
  (rename Fr _ _ _ _ => lF); (rename News _ _ _ _ => lN)
  exact hret _ _ _ lF (fun p hp => lN p (by tb_rel))
end Mine
end
section
open PySem PySem.W PyProof.Rows PySem.Calls PySem.Spec
namespace Mine
local macro_rules | `(tactic| ktr_room) => `(tactic| first | decide | (simp only [depth_under_make, depth_under_kw, depth_in1, depth_deeper, depth_caller, ktrTop]; omega))
local macro_rules | `(tactic| ktr_units) => `(tactic| first | decide | (simp only [units_make, units_in1, units_deeper, Around.mark_units, units_caller, ktrTop]; omega))
local macro_rules | `(tactic| k_all) => `(tactic| (first | refine allBelow (by assumption) ?_ | refine allBelow (tb_ltOf (by assumption)) ?_); (try dsimp only); omega)
local macro_rules | `(tactic| walk_at "exec For") => `(tactic| (k_here; refine wpAny_For ?_ (fun _ => rfl)))
local macro_rules | `(tactic| walk_at "CompSrc") => `(tactic| (k_here; k_dflt (refine LCg.CompSrc.range (by rfl) (by k_asm) (by k_asm) (by assumption) (by first | decide | rfl) (n := 4) (by first | rfl | decide) (by first | size_fits | exact Nat.le_of_ble_eq_true rfl) ?_; intro g'; (refine' rest4 (fun k' t' I' oI' C' oC' D' m' ys' h' tk' E' hlo' hhi' hC' hx' F' N' off' ne' => ?_) (fun v1' v2' v3' v4' d1' d2' d3' d4' hv1' hv2' hv3' hv4' hl9' => ?_)); (all_goals (try (simp only [LCg.Off3, and_true] at off')); kcf_last))))
local macro_rules | `(tactic| walk_at "CompEnd") => `(tactic| lcg_end)
local macro_rules | `(tactic| walk_at "EltOk") => `(tactic| exact ⟨rfl, _, by assumption⟩)
local macro_rules | `(tactic| walk_at "call ref") => `(tactic| (k_here; k_dflt (first
  | ((with_reducible show wpAny _ _ (call (Value.ref 36) _ _) _ _ _); first | (refine' callee_use tell78 ?B ?F ?X ?N ?T ?hk ?hr ?hd ?hu ?_; (case B => k_asm); (case F => k_asm); (case X => k_asm); (case N => k_asm); (case hr => exact ⟨by k_mem, by k_mem⟩); (case T => k_asm); (case hk => exact rfl); (case hd => ktr_room); (case hu => ktr_units); k_whole; intro r' tl' h' tk' F' N' o1' o2'; (have e1' := o2'.1); (have e2' := o2'.2); subst e1'; subst e2'; clear o1' o2'; (try simp only [List.nil_append] at N'); (try dsimp only [StrBack]); (try k_sweep)) | (refine' callee_use tell59 ?B ?F ?X ?N ?T ?hk ?hr ?hd ?hu ?_; (case B => k_asm); (case F => k_asm); (case X => k_asm); (case N => k_asm); (case hr => exact ⟨by k_mem, by k_mem⟩); (case T => k_asm); (case hk => exact rfl); (case hd => ktr_room); (case hu => ktr_units); k_whole; intro r' tl' h' tk' F' N' o1' o2'; (have e1' := o2'.1); (have e2' := o2'.2); subst e1'; subst e2'; clear o1' o2'; (try simp only [List.nil_append] at N'); (try dsimp only [StrBack]); (try k_sweep)))
  | ((with_reducible show wpAny _ _ (call (Value.ref 87) _ _) _ _ _); refine' callee_use (value_spec ?hn) ?B ?F ?X ?N ?T ?hk trivial ?hd ?hu ?_; (case hn => first | omega | (split <;> omega)); (case B => k_asm); (case F => k_asm); (case X => k_asm); (case N => k_asm); (case T => k_asm); (case hk => exact rfl); (case hd => ktr_room); (case hu => ktr_units); k_whole; intro r' tl' h' tk' F' N' o1' o2'; (have e1' := o2'.1); (obtain ⟨d', hv'⟩ := o2'.2); subst e1'; clear o1' o2'; (try simp only [List.nil_append] at N'); (try k_sweep))
  | ((with_reducible show wpAny _ _ (call (Value.ref 94) _ _) _ _ _); refine' callee_use (written_spec ?hv) ?B ?F ?X ?N ?T ?hk trivial ?hd ?hu ?_; (case hv => assumption); (case B => k_asm); (case F => k_asm); (case X => k_asm); (case N => k_asm); (case T => k_asm); (case hk => exact rfl); (case hd => ktr_room); (case hu => ktr_units); k_whole; intro r' tl' h' tk' F' N' o1' o2'; (have e1' := o2'.1); (obtain ⟨k', e2'⟩ := o2'.2); subst e1'; subst e2'; clear o1' o2'; (try simp only [List.nil_append] at N'); (try k_sweep))
  | ((with_reducible show wpAny _ _ (call (Value.ref 78) (_ :: _) _) _ _ _); refine' callee_use mk78 ?B ?F ?X ?N ?T ?hk ?hr ?hd ?hu ?_; (case B => k_asm); (case F => k_asm); (case X => k_asm); (case N => k_asm); (case hr => exact ⟨ValOk.sn (by assumption), ValOk.sn (by assumption), ValOk.sn (by assumption), ValOk.sn (by assumption)⟩); (case T => k_asm); (case hk => exact rfl); (case hd => ktr_room); (case hu => ktr_units); k_whole; intro r' tl' h' tk' F' N' o1' o2'; (obtain ⟨x', d', t', u', es', e1', e2', e3'⟩ := o2'); subst e1'; subst e2'; (obtain ⟨k1', k2', k3', k4', e4'⟩ := ents4 e3'); subst e4'; clear o1' e3'; (try simp only [List.cons_append, List.nil_append, List.length_cons, List.length_nil] at N'); (try k_sweep))
  | ((with_reducible show wpAny _ _ (call (Value.ref 78) [] _) _ _ _); refine' callee_use mk78k ?B ?F ?X ?N ?T ?hk ?hr ?hd ?hu ?_; (case B => k_asm); (case F => k_asm); (case X => k_asm); (case N => k_asm); (case hr => exact ⟨ValOk.sn (by assumption), ValOk.sn (by assumption), ValOk.sn (by assumption), ValOk.sn (by assumption)⟩); (case T => k_asm); (case hk => exact rfl); (case hd => ktr_room); (case hu => ktr_units); k_whole; intro r' tl' h' tk' F' N' o1' o2'; (obtain ⟨x', d', t', u', es', e1', e2', e3'⟩ := o2'); subst e1'; subst e2'; (obtain ⟨k1', k2', k3', k4', e4'⟩ := ents4 e3'); subst e4'; clear o1' e3'; (try simp only [List.cons_append, List.nil_append, List.length_cons, List.length_nil] at N'); (try k_sweep))
  | ((with_reducible show wpAny _ _ (call (Value.ref 59) _ _) _ _ _); refine' callee_use mk59k ?B ?F ?X ?N ?T ?hk trivial ?hd ?hu ?_; (case B => k_asm); (case F => k_asm); (case X => k_asm); (case N => k_asm); (case T => k_asm); (case hk => exact rfl); (case hd => ktr_room); (case hu => ktr_units); k_whole; intro r' tl' h' tk' F' N' o1' o2'; (obtain ⟨x', d', t', u', es', e1', e2', e3'⟩ := o2'); subst e1'; subst e2'; (obtain ⟨k1', k2', k3', e4'⟩ := ents3 e3'); subst e4'; clear o1' e3'; (try simp only [List.cons_append, List.nil_append, List.length_cons, List.length_nil] at N'); (try k_sweep)))))
local macro_rules | `(tactic| k_inst) => `(tactic| (refine' instE ?N ?h1 ?h2; (case N => k_asm); (case h1 => k_mem); (case h2 => k_mem)))
local macro_rules | `(tactic| ktr_rel) => `(tactic| (rw [sizeLine_eq]; (try simp only [PySem.Str.length_append, el1, el2, el3, el4]); omega))
local macro_rules | `(tactic| walk_at "binaryOp Add str str") => `(tactic| (k_here; (refine PyProof.Rows.add_str (hsz := ?hsz) ?_); (case hsz => ktr_rel); intro _ _))
local macro_rules | `(tactic| walk_at "inplaceOp Add str str") => `(tactic| (k_here; (refine PyProof.Rows.iadd_str (hsz := ?hsz) ?_); (case hsz => ktr_rel); intro _ _))
local macro_rules | `(tactic| walk_at "getAttr ref") => `(tactic| (k_here; k_dflt (first
  | ((with_reducible show wpAny _ _ (getAttr (Value.ref _) ("args" : Str) _) _ _ _); refine' getE_args ?F ?X ?I ?hg ?hf ?_; (case F => k_asm); (case X => k_asm); (case I => k_inst); (case hg => kernel_rfl); (case hf => first | kernel_rfl | k_is | exact rfl); k_whole)
  | (refine' getE_own ?F ?X ?I ?hg ?hh ?ha ?hn ?hl ?hv ?_; (case F => k_asm); (case X => k_asm); (case I => k_inst); (case hg => kernel_rfl); (case hh => kernel_rfl); (case ha => k_is); (case hn => kernel_rfl); (case hl => k_get); (case hv => first | exact rfl | exact ValOk.handed (by assumption)); k_whole))))
local macro_rules | `(tactic| walk_at "call builtin:hasattr") => `(tactic| (k_here; k_dflt (refine' hasattrE ?F ?X ?N ?hA ?I ?hg ?hm ?hf ?hnm ?hn ?_; (case F => k_asm); (case X => k_asm); (case N => k_asm); (case hA => exact rfl); (case I => k_inst); (case hg => kernel_rfl); (case hm => k_is); (case hf => first | kernel_rfl | k_is | exact rfl); (case hnm => kernel_rfl); (case hn => exact Nat.le_of_ble_eq_true rfl); k_whole); intro h' tk' F' N'; (try k_sweep)))
local macro_rules | `(tactic| walk_at "m_flat") => `(tactic| first | exact told_flat (by assumption) (by assumption) (by assumption) (by assumption) | exact ValOk.flat (by assumption))
local macro_rules | `(tactic| walk_at "m_rds") => `(tactic| first | exact ReadsAll.nil | (refine' ReadsAll.cons ?ea ?eb; (case ea => first | exact Reads.str _ _ | exact ValOk.rd (by assumption) _); (case eb => (walk_at "m_rds"))))
local macro_rules | `(tactic| walk_at "m_seq") => `(tactic| first | (refine' rd_list ?N ?m ?r; (case N => k_asm); (case m => k_mem); (case r => (walk_at "m_rds"))) | (refine' rd_tuple ?N ?m ?r; (case N => k_asm); (case m => k_mem); (case r => (walk_at "m_rds"))))
local macro_rules | `(tactic| walk_at "m_shaped") => `(tactic| ((first | refine shaped_list ?_ | refine shaped_tuple ?_); (repeat (first | exact List.forall_mem_nil _ | refine List.forall_mem_cons.mpr ⟨by (walk_at "m_flat"), ?_⟩))))
local macro_rules | `(tactic| walk_at "compareOp NotEq ref ref") => `(tactic| (k_here; k_dflt (refine' ne_same ?ra ?rb ?hs ?hu ?_; (case ra => (walk_at "m_seq")); (case rb => (walk_at "m_seq")); (case hs => (walk_at "m_shaped")); (case hu => ktr_units); k_whole)))
set_option maxRecDepth 100000
set_option maxHeartbeats 4000000
theorem two_of {a b v : Value} {i : Nat} (h : (#[a, b] : Array Value)[i]? = some v) : v = a ∨ v = b := by
  match i, h with
  | 0, h => exact .inl (by simpa using h.symm)
  | 1, h => exact .inr (by simpa using h.symm)
  | n + 2, h => simp at h
theorem loadX {M : Model} {A : Around} {E : Value → Shared → Prop} {s : Shared} {h₀ : Heap} {L a : Addr} {m : Str → Option Value} {cn : Str} {cs : Scope} {ccd : Value} {cl : List (Str × Addr)} {x : Str} {v : Value} {Q : Value → Shared → Prop} (F : Fr h₀ L s.heap m) (hv : m x = some v) (h : Q v s)
    (hk : cs.kind = .function) (hx : (envX cn cs L a ccd cl).kindOf x = some .local) : wpAny M A (loadName (envX cn cs L a ccd cl) x) Q E s := wpAny_loadName_local hk hx F.ns hv h
local macro_rules | `(tactic| walk_at "loadName") => `(tactic| (k_here; k_dflt (refine' loadX ?F ?v ?_ ?a ?b; (case F => k_asm); (case a => rfl); (case b => rfl); (case v => rfl); k_whole)))
theorem turn_law1 {w : World} {body : List Stmt} {cs : Scope} (hbody : body = lawTurn w.params) (hcs : cs = lawScope w.params) :
   ∀ (loose : List PySem.Str) (mean : ExcName → Option Value) (mg mb : PySem.Str → Option Value) (dp un : Nat) (a : Addr) (ccd : Value) (outer : List Env) (A₀ : Around) (base h₀ : Heap) (L : Nat) (s : Shared)
    (Q : Flow → Shared → Prop) (E : Value → Shared → Prop) (I i D l2 l3 : Nat) (t : Tok) (m₁ : PySem.Str → Option Value) (h : Heap) (tk : Nat) (oI o1 o5 ob oc : Obj) (v1 : Option Value) (ws : List Value) (ns : List Int) (pz : Pos),
    Below A₀ base outer h₀ → Fr h₀ L h m₁ → (Mine.hd.heap_39 w.params).In h₀ → News h₀ L h [(I, oI), (D, W.listOf ws.toArray 0), (l2, ob), (l3, oc), (L + 1 + 1, o1), (L + 1, o5)] → Top Mine.hd.view_39 loose mean mg mb h₀ → dp + 40 < recursionLimit → un + 600 < cLine →
    IntsAre ws ns → 0 < ns.length → ns.length ≤ 41 → o1.data = .cell v1 → o5.data = .cell (some (.ref D)) → D ≠ I → l2 ≠ I → l3 ≠ I → L + 1 + 1 ≠ I → L + 1 ≠ I → l2 < D → l3 < l2 → L + 1 + 1 < l3 →
    (True → PassesOwn (model Challenge.rw_dm0030_01.row.prog w) (ktrTop dp un (some []) (Str.ofString "law") cs L a ccd (cellsFrom (L + 1) cs.names []) outer) (envX (Str.ofString "law") cs L a ccd (cellsFrom (L + 1) cs.names [])) E) →
    wpAny (model Challenge.rw_dm0030_01.row.prog w) (ktrTop dp un (some []) (Str.ofString "law") cs L a ccd (cellsFrom (L + 1) cs.names []) outer) (assign (.Name (Str.ofString "k") pz) (envX (Str.ofString "law") cs L a ccd (cellsFrom (L + 1) cs.names [])) (.int (0 + (i : Int) * 4) t))
      (fun _ s₁ => wpAny (model Challenge.rw_dm0030_01.row.prog w) (ktrTop dp un (some []) (Str.ofString "law") cs L a ccd (cellsFrom (L + 1) cs.names []) outer) (execs body (envX (Str.ofString "law") cs L a ccd (cellsFrom (L + 1) cs.names []))) (TurnQ h₀ L I [(I, oI)] (LawJ (D, W.listOf ws.toArray 0) (l2, ob) (l3, oc) (L + 1, o5) (L + 1 + 1)) s Q) E s₁) E { s with heap := h, toks := tk } := by
  (conv at hbody => (rhs; whnf))
  (conv at hcs => (rhs; whnf))
  subst hbody
  subst hcs
  k_fill
  intro loose mean mg mb dp un a ccd outer A₀ base h₀ L s Q E I i D l2 l3 t m₁ h tk oI o1 o5 ob oc v1 ws ns pz B F X N T9 hd hu hI hne hle d1 d5 n1 n2 n3 n4 n5 l1 l2' l3' hpo
  k_steps
  (rename Fr _ _ _ _ => lF); (rename News _ _ _ _ => lN)
  refine' iter_listN (x := Str.ofString "one") ?hh lF lN ?hm ?hx ?hp ?turn ?done ?hpo
  case hh => rfl
  case hx => rfl
  case hp => rfl
  case hpo => exact hpo trivial
  case hm => k_mem
  case turn =>
    intro I2 i2 v2 h2 tk2 oI2 hv2 hI2 F2 N2
    clear lF lN
    have hc : v2 = _ ∨ v2 = _ := two_of hv2
    rcases hc with rfl | rfl
    all_goals
      refine' one_turn rfl rfl _ _ _ _ _ _ _ _ _ _ _ _ _ _ _ _ _ _ _ _ _ _ _ _ _ _ _ _ _ _ _ _ _ _ _ _ _ B F2 X N2 T9 ?hd ?hu ?hT ?w1 ?w2 ?w3 ?w4 ?e1 ?e2 ?e3 ?e4 ?e5 ?e6 ?m1 ?m2 ?m3 ?hret
      case e1 => rfl
      case e2 => rfl
      case e3 => rfl
      case e4 => rfl
      case e5 => rfl
      case e6 => rfl
      case m1 => k_mem
      case m2 => k_mem
      case m3 => k_mem
      case w1 => assumption
      case w2 => assumption
      case w3 => assumption
      case w4 => assumption
      case hT => rfl
      case hd => omega
      case hu => omega
      case hret =>
        intro h' tk' F' N'
        exact list_turn F' N' hI2 (.head _) (fun p hp => .tail _ hp) (fun z hz => by simp only [if_neg hz])
  case done =>
    intro u2 h2 tk2 F2 N2
    clear lF lN
    dsimp only
    refine' rest_turn rfl rfl _ _ _ _ _ _ _ _ _ _ _ _ _ _ _ _ _ _ _ _ _ _ _ _ _ _ _ _ _ _ _ _ _ _ _ _ _ B F2 X N2 T9 ?hd ?hu ?hT ?w1 ?w2 ?w3 ?w4 ?e1 ?e2 ?e3 ?e4 ?m1 ?m3 ?hret
    case e1 => rfl
    case e2 => rfl
    case e3 => rfl
    case e4 => rfl
    case m1 => k_mem
    case m3 => k_mem
    case hT => rfl
    case w1 => assumption
    case w2 => assumption
    case w3 => assumption
    case w4 => assumption
    case hd => omega
    case hu => omega
    case hret =>
      intro m' h' tk' F' N'
      refine turn_law F' N' (by assumption) ⟨n1, n2, n3, n4, n5⟩ ?_ ?_ ?_ ?_ ?_ ?_ <;> k_mem
end Mine
end
section
open PySem PySem.W PyProof.Rows PySem.Calls PySem.Spec
open Mine
local macro_rules | `(tactic| ktr_room) => `(tactic| first | decide | (simp only [depth_under_make, depth_under_kw, depth_in1, depth_deeper, depth_caller, ktrTop]; omega))
local macro_rules | `(tactic| ktr_units) => `(tactic| first | decide | (simp only [units_make, units_in1, units_deeper, Around.mark_units, units_caller, ktrTop]; omega))
local macro_rules | `(tactic| k_all) => `(tactic| (first | refine allBelow (by assumption) ?_ | refine allBelow (tb_ltOf (by assumption)) ?_); (try dsimp only); omega)
local macro_rules | `(tactic| walk_at "exec For") => `(tactic| (k_here; refine wpAny_For ?_ (fun _ => rfl)))
local macro_rules | `(tactic| walk_at "CompSrc") => `(tactic| (k_here; k_dflt (refine LCg.CompSrc.range (by rfl) (by k_asm) (by k_asm) (by assumption) (by first | decide | rfl) (n := 4) (by first | rfl | decide) (by first | size_fits | exact Nat.le_of_ble_eq_true rfl) ?_; intro g'; (refine' rest4 (fun k' t' I' oI' C' oC' D' m' ys' h' tk' E' hlo' hhi' hC' hx' F' N' off' ne' => ?_) (fun v1' v2' v3' v4' d1' d2' d3' d4' hv1' hv2' hv3' hv4' hl9' => ?_)); (all_goals (try (simp only [LCg.Off3, and_true] at off')); kcf_last))))
local macro_rules | `(tactic| walk_at "CompEnd") => `(tactic| lcg_end)
local macro_rules | `(tactic| walk_at "EltOk") => `(tactic| exact ⟨rfl, _, by assumption⟩)
local macro_rules | `(tactic| walk_at "call ref") => `(tactic| (k_here; k_dflt (first
  | ((with_reducible show wpAny _ _ (call (Value.ref 36) _ _) _ _ _); first | (refine' callee_use tell78 ?B ?F ?X ?N ?T ?hk ?hr ?hd ?hu ?_; (case B => k_asm); (case F => k_asm); (case X => k_asm); (case N => k_asm); (case hr => exact ⟨by k_mem, by k_mem⟩); (case T => k_asm); (case hk => exact rfl); (case hd => ktr_room); (case hu => ktr_units); k_whole; intro r' tl' h' tk' F' N' o1' o2'; (have e1' := o2'.1); (have e2' := o2'.2); subst e1'; subst e2'; clear o1' o2'; (try simp only [List.nil_append] at N'); (try dsimp only [StrBack]); (try k_sweep)) | (refine' callee_use tell59 ?B ?F ?X ?N ?T ?hk ?hr ?hd ?hu ?_; (case B => k_asm); (case F => k_asm); (case X => k_asm); (case N => k_asm); (case hr => exact ⟨by k_mem, by k_mem⟩); (case T => k_asm); (case hk => exact rfl); (case hd => ktr_room); (case hu => ktr_units); k_whole; intro r' tl' h' tk' F' N' o1' o2'; (have e1' := o2'.1); (have e2' := o2'.2); subst e1'; subst e2'; clear o1' o2'; (try simp only [List.nil_append] at N'); (try dsimp only [StrBack]); (try k_sweep)))
  | ((with_reducible show wpAny _ _ (call (Value.ref 87) _ _) _ _ _); refine' callee_use (value_spec ?hn) ?B ?F ?X ?N ?T ?hk trivial ?hd ?hu ?_; (case hn => first | omega | (split <;> omega)); (case B => k_asm); (case F => k_asm); (case X => k_asm); (case N => k_asm); (case T => k_asm); (case hk => exact rfl); (case hd => ktr_room); (case hu => ktr_units); k_whole; intro r' tl' h' tk' F' N' o1' o2'; (have e1' := o2'.1); (obtain ⟨d', hv'⟩ := o2'.2); subst e1'; clear o1' o2'; (try simp only [List.nil_append] at N'); (try k_sweep))
  | ((with_reducible show wpAny _ _ (call (Value.ref 94) _ _) _ _ _); refine' callee_use (written_spec ?hv) ?B ?F ?X ?N ?T ?hk trivial ?hd ?hu ?_; (case hv => assumption); (case B => k_asm); (case F => k_asm); (case X => k_asm); (case N => k_asm); (case T => k_asm); (case hk => exact rfl); (case hd => ktr_room); (case hu => ktr_units); k_whole; intro r' tl' h' tk' F' N' o1' o2'; (have e1' := o2'.1); (obtain ⟨k', e2'⟩ := o2'.2); subst e1'; subst e2'; clear o1' o2'; (try simp only [List.nil_append] at N'); (try k_sweep))
  | ((with_reducible show wpAny _ _ (call (Value.ref 78) (_ :: _) _) _ _ _); refine' callee_use mk78 ?B ?F ?X ?N ?T ?hk ?hr ?hd ?hu ?_; (case B => k_asm); (case F => k_asm); (case X => k_asm); (case N => k_asm); (case hr => exact ⟨ValOk.sn (by assumption), ValOk.sn (by assumption), ValOk.sn (by assumption), ValOk.sn (by assumption)⟩); (case T => k_asm); (case hk => exact rfl); (case hd => ktr_room); (case hu => ktr_units); k_whole; intro r' tl' h' tk' F' N' o1' o2'; (obtain ⟨x', d', t', u', es', e1', e2', e3'⟩ := o2'); subst e1'; subst e2'; (obtain ⟨k1', k2', k3', k4', e4'⟩ := ents4 e3'); subst e4'; clear o1' e3'; (try simp only [List.cons_append, List.nil_append, List.length_cons, List.length_nil] at N'); (try k_sweep))
  | ((with_reducible show wpAny _ _ (call (Value.ref 78) [] _) _ _ _); refine' callee_use mk78k ?B ?F ?X ?N ?T ?hk ?hr ?hd ?hu ?_; (case B => k_asm); (case F => k_asm); (case X => k_asm); (case N => k_asm); (case hr => exact ⟨ValOk.sn (by assumption), ValOk.sn (by assumption), ValOk.sn (by assumption), ValOk.sn (by assumption)⟩); (case T => k_asm); (case hk => exact rfl); (case hd => ktr_room); (case hu => ktr_units); k_whole; intro r' tl' h' tk' F' N' o1' o2'; (obtain ⟨x', d', t', u', es', e1', e2', e3'⟩ := o2'); subst e1'; subst e2'; (obtain ⟨k1', k2', k3', k4', e4'⟩ := ents4 e3'); subst e4'; clear o1' e3'; (try simp only [List.cons_append, List.nil_append, List.length_cons, List.length_nil] at N'); (try k_sweep))
  | ((with_reducible show wpAny _ _ (call (Value.ref 59) _ _) _ _ _); refine' callee_use mk59k ?B ?F ?X ?N ?T ?hk trivial ?hd ?hu ?_; (case B => k_asm); (case F => k_asm); (case X => k_asm); (case N => k_asm); (case T => k_asm); (case hk => exact rfl); (case hd => ktr_room); (case hu => ktr_units); k_whole; intro r' tl' h' tk' F' N' o1' o2'; (obtain ⟨x', d', t', u', es', e1', e2', e3'⟩ := o2'); subst e1'; subst e2'; (obtain ⟨k1', k2', k3', e4'⟩ := ents3 e3'); subst e4'; clear o1' e3'; (try simp only [List.cons_append, List.nil_append, List.length_cons, List.length_nil] at N'); (try k_sweep)))))
local macro_rules | `(tactic| k_inst) => `(tactic| (refine' instE ?N ?h1 ?h2; (case N => k_asm); (case h1 => k_mem); (case h2 => k_mem)))
local macro_rules | `(tactic| ktr_rel) => `(tactic| (rw [sizeLine_eq]; (try simp only [PySem.Str.length_append, el1, el2, el3, el4]); omega))
local macro_rules | `(tactic| walk_at "binaryOp Add str str") => `(tactic| (k_here; (refine PyProof.Rows.add_str (hsz := ?hsz) ?_); (case hsz => ktr_rel); intro _ _))
local macro_rules | `(tactic| walk_at "inplaceOp Add str str") => `(tactic| (k_here; (refine PyProof.Rows.iadd_str (hsz := ?hsz) ?_); (case hsz => ktr_rel); intro _ _))
local macro_rules | `(tactic| walk_at "getAttr ref") => `(tactic| (k_here; k_dflt (first
  | ((with_reducible show wpAny _ _ (getAttr (Value.ref _) ("args" : Str) _) _ _ _); refine' getE_args ?F ?X ?I ?hg ?hf ?_; (case F => k_asm); (case X => k_asm); (case I => k_inst); (case hg => kernel_rfl); (case hf => first | kernel_rfl | k_is | exact rfl); k_whole)
  | (refine' getE_own ?F ?X ?I ?hg ?hh ?ha ?hn ?hl ?hv ?_; (case F => k_asm); (case X => k_asm); (case I => k_inst); (case hg => kernel_rfl); (case hh => kernel_rfl); (case ha => k_is); (case hn => kernel_rfl); (case hl => k_get); (case hv => first | exact rfl | exact ValOk.handed (by assumption)); k_whole))))
local macro_rules | `(tactic| walk_at "call builtin:hasattr") => `(tactic| (k_here; k_dflt (refine' hasattrE ?F ?X ?N ?hA ?I ?hg ?hm ?hf ?hnm ?hn ?_; (case F => k_asm); (case X => k_asm); (case N => k_asm); (case hA => exact rfl); (case I => k_inst); (case hg => kernel_rfl); (case hm => k_is); (case hf => first | kernel_rfl | k_is | exact rfl); (case hnm => kernel_rfl); (case hn => exact Nat.le_of_ble_eq_true rfl); k_whole); intro h' tk' F' N'; (try k_sweep)))
local macro_rules | `(tactic| walk_at "m_flat") => `(tactic| first | exact told_flat (by assumption) (by assumption) (by assumption) (by assumption) | exact ValOk.flat (by assumption))
local macro_rules | `(tactic| walk_at "m_rds") => `(tactic| first | exact ReadsAll.nil | (refine' ReadsAll.cons ?ea ?eb; (case ea => first | exact Reads.str _ _ | exact ValOk.rd (by assumption) _); (case eb => (walk_at "m_rds"))))
local macro_rules | `(tactic| walk_at "m_seq") => `(tactic| first | (refine' rd_list ?N ?m ?r; (case N => k_asm); (case m => k_mem); (case r => (walk_at "m_rds"))) | (refine' rd_tuple ?N ?m ?r; (case N => k_asm); (case m => k_mem); (case r => (walk_at "m_rds"))))
local macro_rules | `(tactic| walk_at "m_shaped") => `(tactic| ((first | refine shaped_list ?_ | refine shaped_tuple ?_); (repeat (first | exact List.forall_mem_nil _ | refine List.forall_mem_cons.mpr ⟨by (walk_at "m_flat"), ?_⟩))))
local macro_rules | `(tactic| walk_at "compareOp NotEq ref ref") => `(tactic| (k_here; k_dflt (refine' ne_same ?ra ?rb ?hs ?hu ?_; (case ra => (walk_at "m_seq")); (case rb => (walk_at "m_seq")); (case hs => (walk_at "m_shaped")); (case hu => ktr_units); k_whole)))
set_option maxRecDepth 100000
set_option maxHeartbeats 4000000
theorem PySem.Challenge.cw_dm0030_01_holds : PySem.Challenge.rw_dm0030_01.Holds := by
  refine Mine.hd ?_
  w_strict (k_go0; (all_goals try k_fold); k_steps)
  (rename Fr _ _ _ _ => lF); (rename News _ _ _ _ => lN); (rename IsRange _ _ _ _ _ _ _ _ => lR)
  refine' iter_law (by rfl) lR (small_step4 (by omega) ?hz) (size_step4 (by omega)) lF lN ?hd ?turn ?done (by passes_own) (fun _ _ => rfl)
  case hz => omega
  case hd => assumption
  case turn =>
    clear lF lN lR
    rintro I i t m₁ h tk oI o1 v1 hi d1 ⟨n1, n2, n3, n4, n5⟩ F9 N9
    clear hi
    refine' turn_law1 rfl rfl _ _ _ _ _ _ _ _ _ _ _ _ _ _ _ _ _ _ _ _ _ _ _ _ _ _ _ _ _ _ _ _ _ _ ?B F9 ?X N9 ?T ?hd ?hu ?hI ?hp ?hl d1 ?d5 n1 n2 n3 n4 n5 ?l1 ?l2 ?l3 ?po
    case B => k_asm
    case X => k_asm
    case T => k_asm
    case hI => assumption
    case hp => simp
    case hl => simp; omega
    case d5 => assumption
    case hd => decide
    case hu => decide
    case l1 => omega
    case l2 => omega
    case l3 => omega
    case po => (intro _; passes_own)
  case done =>
    intro m₁ h tk o1 v1 d1 F9 N9
    clear lF lN lR
    k_steps
end
